import PyProof.Rows.All
import Wide.All
import OpenK.AllK
import Wide.FinOn
import KE.KStar
import Lean
import PySem.Challenge.RW_rx0081_01
section
open PySem PySem.W PySem.Spec PySem.Calls PyProof.Rows
set_option Elab.async false
set_option maxRecDepth 100000
namespace Mine

/-- a text by its signs -/
noncomputable def S (l : List Nat) : Str := ⟨l.toArray⟩
theorem S_len (l : List Nat) : (S l).length = l.length := by simp [S, Str.length]
theorem S_cps (l : List Nat) : (S l).cps.toList = l := by simp [S]
theorem S_of (x : Str) : S x.cps.toList = x := by simp [S]

inductive V where
  | none
  | bool (b : Bool)
  | int (i : Int)
  | str (l : List Nat)
  | list (xs : List V)
  | tup (xs : List V)
  | const (v : Value)

noncomputable def IsTu (h : Heap) (a : Addr) (us : Array Value) : Prop := IsTup h a us

mutual
noncomputable def RV (h : Heap) : V → Value → Prop
  | .none, u => u = .none
  | .bool b, u => u = .bool b
  | .int i, u => ∃ t, u = .int i t
  | .str l, u => ∃ t, u = .str (S l) t
  | .list xs, u => ∃ a us, u = .ref a ∧ h.IsList a (List.toArray us) ∧ RVs h xs us
  | .tup xs, u => ∃ a us, u = .ref a ∧ IsTu h a (List.toArray us) ∧ RVs h xs us
  | .const v, u => u = v
noncomputable def RVs (h : Heap) : List V → List Value → Prop
  | [], us => us = []
  | x :: xs, us => ∃ u r, us = u :: r ∧ RV h x u ∧ RVs h xs r
end

/-- each object of the first heap stands in the second -/
noncomputable def HLe (h h' : Heap) : Prop := ∀ b o, h.get? b = some o → h'.get? b = some o
theorem HLe.refl (h : Heap) : HLe h h := fun _ _ e => e
theorem HLe.trans {a b c : Heap} (x : HLe a b) (y : HLe b c) : HLe a c := fun q o e => y q o (x q o e)
theorem HLe.push (h : Heap) (o : Obj) : HLe h (h.push o) := fun _ _ e => Heap.get?_push_of_some o e

theorem plain_keeps {h h' : Heap} (k : HLe h h') {a us} (x : h.PlainList a us) : h'.PlainList a us := let ⟨n, e⟩ := x; ⟨n, k _ _ e⟩
theorem il_keeps {h h' : Heap} (k : HLe h h') {a us} (x : h.IsList a us) : h'.IsList a us := let ⟨o, e, r⟩ := x; ⟨o, k _ _ e, r⟩
theorem isTu_keeps {h h' : Heap} (k : HLe h h') {a us} (x : IsTu h a us) : IsTu h' a us := let ⟨o, e, r⟩ := x; ⟨o, k _ _ e, r⟩
mutual
theorem RV.mono {h h' : Heap} (k : HLe h h') : ∀ {v : V} {u : Value}, RV h v u → RV h' v u
  | .none, _, e => e
  | .bool _, _, e => e
  | .int _, _, e => e
  | .str _, _, e => e
  | .const _, _, e => e
  | .list _, _, ⟨a, us, e, p, r⟩ => ⟨a, us, e, il_keeps k p, RVs.mono k r⟩
  | .tup _, _, ⟨a, us, e, p, r⟩ => ⟨a, us, e, isTu_keeps k p, RVs.mono k r⟩
theorem RVs.mono {h h' : Heap} (k : HLe h h') : ∀ {v : List V} {u : List Value}, RVs h v u → RVs h' v u
  | [], _, e => e
  | _ :: _, _, ⟨u, r, e, p, q⟩ => ⟨u, r, e, RV.mono k p, RVs.mono k q⟩
end
theorem RVs.len {h : Heap} : ∀ {v : List V} {u : List Value}, RVs h v u → u.length = v.length
  | [], _, e => by cases e; rfl
  | _ :: _, _, ⟨u, r, e, _, q⟩ => by subst e; simp [RVs.len q]
theorem RVs.get {h : Heap} : ∀ {v : List V} {u : List Value}, RVs h v u → ∀ (i : Nat) (x : V), v[i]? = some x → ∃ y, u[i]? = some y ∧ RV h x y
  | [], _, _, _, _, e => by simp at e
  | _ :: _, _, ⟨u, r, e, p, q⟩, i, x, hx => by
    subst e
    cases i with
    | zero => simp at hx; subst hx; exact ⟨u, by simp, p⟩
    | succ i => simp at hx; simpa using RVs.get q i x hx
theorem RVs.append {h : Heap} : ∀ {v v' : List V} {u u' : List Value}, RVs h v u → RVs h v' u' → RVs h (v ++ v') (u ++ u')
  | [], _, _, _, e, q => by cases e; exact q
  | _ :: _, _, _, _, ⟨u, r, e, p, q⟩, q' => by subst e; exact ⟨u, r ++ _, rfl, p, RVs.append q q'⟩
theorem RVs.one {h : Heap} {v : V} {u : Value} (x : RV h v u) : RVs h [v] [u] := ⟨u, [], rfl, x, rfl⟩
theorem RVs.drop {h : Heap} : ∀ {v : List V} {u : List Value}, RVs h v u → ∀ n, RVs h (v.drop n) (u.drop n)
  | _, _, e, 0 => by simpa using e
  | [], _, e, n + 1 => by cases e; exact rfl
  | _ :: _, _, ⟨u, r, e, p, q⟩, n + 1 => by subst e; simpa using RVs.drop q n
theorem RVs.take {h : Heap} : ∀ {v : List V} {u : List Value}, RVs h v u → ∀ n, RVs h (v.take n) (u.take n)
  | _, _, e, 0 => by simp; exact rfl
  | [], _, e, n + 1 => by cases e; exact rfl
  | _ :: _, _, ⟨u, r, e, p, q⟩, n + 1 => by subst e; exact ⟨u, r.take n, rfl, p, RVs.take q n⟩

inductive Slot where
  | val (v : V)
  | mut (xs : List V)
  | rd (xs : List V)
  | app (x : Str)

noncomputable abbrev Rho := List (Str × Slot)

structure Cx where
  J : Array GenState → OsState → Prop
  h₀ : Heap
  ow : List Addr
  mu : List Addr
  env : Env
  own : Bool

noncomputable def Cx.vis (c : Cx) (h : Heap) : Heap := hideAll h c.mu

structure Cx.Ok (c : Cx) (T : Scope) : Prop where
  scope : c.env.scope = T
  kind : T.kind = .function
  glob : c.env.globals = mainGlobals
  blt : c.env.builtins = builtinsNs
  loc : c.env.locals ∈ c.ow
  sub : ∀ a ∈ c.ow, a ∈ c.mu
  off : ∀ a ∈ c.ow, c.h₀.get? a = none
  cell : ∀ x, T.names.lookup x = some .cell → ∃ a, c.env.cells.lookup x = some a ∧ (a ∈ c.ow ∨ (c.own = false ∧ ∃ o, c.h₀.get? a = some o))
  inj : c.own = true → ∀ x y a, T.names.lookup x = some .cell → T.names.lookup y = some .cell → c.env.cells.lookup x = some a → c.env.cells.lookup y = some a → x = y
  free : ∀ x, T.names.lookup x = some .free → ∃ a o, c.env.cells.lookup x = some a ∧ c.h₀.get? a = some o

/-- the name holds the value -/
noncomputable def Nm (c : Cx) (h : Heap) (x : Str) (u : Value) : Prop :=
  (c.env.scope.names.lookup x = some .local ∧ ∃ m, h.Ns c.env.locals m ∧ m x = some u) ∨
  ((c.env.scope.names.lookup x = some .cell ∨ c.env.scope.names.lookup x = some .free) ∧ ∃ a, c.env.cells.lookup x = some a ∧ h.IsCell a (some u))

noncomputable def IsApp (h : Heap) (b a : Addr) : Prop := ∃ o vs, h.get? b = some o ∧ o.cls = .type "builtin_function_or_method" ∧ o.data = .fields vs ∧ vs[0]? = some (.builtin "list.append") ∧ vs[1]? = some (.ref a)

noncomputable def Sl (c : Cx) (h : Heap) : Slot → Value → Prop
  | .val v, u => RV (c.vis h) v u
  | .mut xs, u => ∃ a us, u = .ref a ∧ a ∈ c.ow ∧ h.PlainList a (List.toArray us) ∧ RVs (c.vis h) xs us
  | .rd xs, u => ∃ a us, u = .ref a ∧ a ∉ c.ow ∧ h.PlainList a (List.toArray us) ∧ RVs (c.vis h) xs us
  | .app x, u => ∃ a b, Nm c h x (.ref a) ∧ u = .ref b ∧ IsApp (c.vis h) b a

structure St (c : Cx) (ρ : Rho) (s : Shared) : Prop where
  j : c.J s.gens s.os
  keep : HLe c.h₀ s.heap
  ns : ∃ m, s.heap.Ns c.env.locals m
  cells : ∀ x a, c.env.scope.names.lookup x = some .cell → c.env.cells.lookup x = some a → ∃ v, s.heap.IsCell a v
  vars : ∀ x sl, ρ.lookup x = some sl → ∃ u, Nm c s.heap x u ∧ Sl c s.heap sl u
  mutd : ∀ x y xs ys a, ρ.lookup x = some (.mut xs) → ρ.lookup y = some (.mut ys) → Nm c s.heap x (.ref a) → Nm c s.heap y (.ref a) → x = y
  low : ∀ a ∈ c.mu, ∃ o, s.heap.get? a = some o

theorem ns_fun {h : Heap} {a : Addr} {m m' : Str → Option Value} (x : h.Ns a m) (y : h.Ns a m') : m = m' := by
  obtain ⟨o, es, ep, ho, hd, _, hf⟩ := x
  obtain ⟨o', es', ep', ho', hd', _, hf'⟩ := y
  rw [ho] at ho'; cases ho'
  rw [hd] at hd'; cases hd'
  funext n; rw [← hf, ← hf']
theorem cell_fun {h : Heap} {a : Addr} {v v' : Option Value} (x : h.IsCell a v) (y : h.IsCell a v') : v = v' := by
  obtain ⟨o, ho, hd⟩ := x
  obtain ⟨o', ho', hd'⟩ := y
  rw [ho] at ho'; cases ho'
  rw [hd] at hd'; cases hd'; rfl
theorem Nm.fun {c : Cx} {h : Heap} {x : Str} {u u' : Value} (p : Nm c h x u) (q : Nm c h x u') : u = u' := by
  rcases p with ⟨k, m, n, e⟩ | ⟨k, a, n, e⟩ <;> rcases q with ⟨k', m', n', e'⟩ | ⟨k', a', n', e'⟩
  · have := ns_fun n n'; subst this; rw [e] at e'; cases e'; rfl
  · rw [k] at k'; rcases k' with k' | k' <;> cases k'
  · rw [k'] at k; rcases k with k | k <;> cases k
  · rw [n] at n'; cases n'; have := cell_fun e e'; cases this; rfl

/-- what is hidden at a does not matter -/
theorem hide_sameBut {h h' : Heap} {mu : List Addr} {a : Addr} (hs : Heap.SameBut a h h') (ha : a ∈ mu) : HLe (hideAll h mu) (hideAll h' mu) := by
  intro b o e
  have hb : b ∉ mu := fun q => by rw [hideAll_none mu q] at e; cases e
  have hne : b ≠ a := fun q => hb (q ▸ ha)
  exact hideAll_get mu ((hs.2 b hne).trans (of_hideAll mu e)) hb
theorem hide_le {h h' : Heap} {mu : List Addr} (k : ∀ b o, b ∉ mu → h.get? b = some o → h'.get? b = some o) : HLe (hideAll h mu) (hideAll h' mu) := by
  intro b o e
  have hb : b ∉ mu := fun q => by rw [hideAll_none mu q] at e; cases e
  exact hideAll_get mu (k b o hb (of_hideAll mu e)) hb
theorem hide_more {h : Heap} {mu mu' : List Addr} (k : ∀ b ∈ mu', b ∈ mu) : HLe (hideAll h mu) (hideAll h mu') := by
  intro b o e
  have hb : b ∉ mu := fun q => by rw [hideAll_none mu q] at e; cases e
  exact hideAll_get mu' (of_hideAll mu e) fun q => hb (k b q)

/-- the same frame upon another ground: all that is not its own -/
noncomputable def Cx.on (c : Cx) (h : Heap) : Cx := { c with h₀ := hideAll h c.ow }
theorem Cx.Ok.on {c : Cx} {T : Scope} (k : c.Ok T) {h : Heap} (hk : HLe c.h₀ h) : (c.on h).Ok T where
  scope := k.scope
  kind := k.kind
  glob := k.glob
  blt := k.blt
  loc := k.loc
  sub := k.sub
  off := fun a ha => hideAll_none _ ha
  cell := fun x hx => by
    obtain ⟨a, e, h1 | ⟨h1, o, ho⟩⟩ := k.cell x hx
    · exact ⟨a, e, .inl h1⟩
    · exact ⟨a, e, .inr ⟨h1, o, hideAll_get _ (hk _ _ ho) fun q => by have := k.off a q; rw [ho] at this; cases this⟩⟩
  inj := k.inj
  free := fun x hx => by
    obtain ⟨a, o, e, ho⟩ := k.free x hx
    exact ⟨a, o, e, hideAll_get _ (hk _ _ ho) fun q => by have := k.off a q; rw [ho] at this; cases this⟩
theorem on_le {c : Cx} {T : Scope} (k : c.Ok T) {h : Heap} (hk : HLe c.h₀ h) : HLe c.h₀ (c.on h).h₀ := fun b o e =>
  hideAll_get _ (hk _ _ e) fun q => by have := k.off b q; rw [e] at this; cases this
theorem St.on {c : Cx} {ρ : Rho} {s : Shared} (x : St c ρ s) : St (c.on s.heap) ρ s where
  j := x.j
  keep := fun _ _ e => of_hideAll _ e
  ns := x.ns
  cells := x.cells
  vars := x.vars
  mutd := x.mutd
  low := x.low
theorem St.off {c : Cx} {T : Scope} (k : c.Ok T) {ρ : Rho} {h : Heap} {s' : Shared} (hk : HLe c.h₀ h) (x : St (c.on h) ρ s') : St c ρ s' where
  j := x.j
  keep := (on_le k hk).trans x.keep
  ns := x.ns
  cells := x.cells
  vars := x.vars
  mutd := x.mutd
  low := x.low
/-- what was seen is seen still -/
theorem vis_on {c : Cx} {T : Scope} (k : c.Ok T) {h : Heap} {h' : Heap} (x : HLe (c.on h).h₀ h') : HLe (c.vis h) (c.vis h') :=
  hide_le fun b o hb e => x b o (hideAll_get _ e fun q => hb (k.sub b q))
end Mine

end
section
open PySem PySem.W PySem.Spec PySem.Calls PyProof.Rows
set_option Elab.async false
set_option maxRecDepth 100000
namespace Mine

structure FnRec where
  name : Str
  params : Arguments
  body : List Stmt
  scope : Scope

noncomputable def IsFn (h : Heap) (a : Addr) (r : FnRec) : Prop := ∃ o doc pm an cdv ct, h.get? a = some o ∧ o.data = .func (fnOf r.name r.name r.params r.body r.scope .none .none doc pm an cdv ct) ∧ h.CodeRec cdv r.name
theorem IsFn.keeps {h h' : Heap} {a r} (x : IsFn h a r) (k : HLe h h') : IsFn h' a r :=
  let ⟨o, doc, pm, an, cdv, ct, ho, hd, hc⟩ := x; ⟨o, doc, pm, an, cdv, ct, k _ _ ho, hd, hc.keeps k⟩

structure Cfg where
  prog : Program
  w : World
  mg : Str → Option Value
  mb : Str → Option Value
  fn : Addr → Option FnRec
  extra : Heap → Prop
  extraMono : ∀ h h', HLe h h' → extra h → extra h'

structure Cfg.Base (C : Cfg) (h : Heap) : Prop where
  g : h.Ns mainGlobals C.mg
  b : h.Ns builtinsNs C.mb
  lim : h.NoLimit
  fns : ∀ a r, C.fn a = some r → IsFn h a r
  extra : C.extra h
theorem Cfg.Base.keeps {C : Cfg} {h h' : Heap} (x : C.Base h) (k : HLe h h') : C.Base h' :=
  ⟨x.g.keeps k, x.b.keeps k, x.lim.keeps k, fun a r e => (x.fns a r e).keeps k, C.extraMono _ _ k x.extra⟩

theorem Cfg.Base.now {C : Cfg} {c : Cx} {h : Heap} (x : C.Base (c.vis c.h₀)) (k : HLe c.h₀ h) : C.Base h := x.keeps fun b o e => k b o (of_hideAll _ e)

structure Cnd (A : Around) (d : Nat) : Prop where
  hh : A.handled = none
  depth : A.depth + d < recursionLimit
  units : A.units + 16 * d < cLine
theorem Cnd.mono {A : Around} {d d' : Nat} (x : Cnd A d) (h : d' ≤ d) : Cnd A d' := ⟨x.hh, by have := x.depth; omega, by have := x.units; omega⟩
theorem Cnd.in1 {A : Around} {d : Nat} (x : Cnd A (d + 1)) : Cnd A.in1 d := ⟨x.hh, by have := x.depth; simp only [Around.in1_depth]; omega, by have := x.units; simp only [Around.in1_units]; omega⟩
theorem Cnd.deeper {A : Around} {d : Nat} {env : Env} (x : Cnd A (d + 1)) : Cnd (A.deeper env) d := ⟨x.hh, by have := x.depth; show A.depth + 1 + d < _; omega, by have := x.units; show A.units + 3 + _ < _; omega⟩
theorem Cnd.lim {A : Around} {d : Nat} (x : Cnd A d) : A.depth < recursionLimit := by have := x.depth; omega
theorem Cnd.room {A : Around} {d : Nat} (x : Cnd A d) : A.units < cLine := by have := x.units; omega

noncomputable abbrev Js := Array GenState → OsState → Prop

/-- a step of an expression: all that stood stands -/
structure Stp (c : Cx) (s s' : Shared) : Prop where
  le : HLe s.heap s'.heap
  j : c.J s'.gens s'.os
theorem Stp.trans {c : Cx} {s s' s'' : Shared} (x : Stp c s s') (y : Stp c s' s'') : Stp c s s'' := ⟨x.le.trans y.le, y.j⟩

/-- a step that changes no state but the tokens -/
theorem St.tok {c : Cx} {ρ : Rho} {s : Shared} (x : St c ρ s) (t : Nat) : St c ρ { s with toks := t } := ⟨x.j, x.keep, x.ns, x.cells, x.vars, x.mutd, x.low⟩

section heapstep
variable {c : Cx} {ρ : Rho} {s : Shared}
theorem Nm.keeps {h h' : Heap} (k : HLe h h') {x : Str} {u : Value} (p : Nm c h x u) : Nm c h' x u := by
  rcases p with ⟨e, m, n, q⟩ | ⟨e, a, n, q⟩
  · exact .inl ⟨e, m, n.keeps k, q⟩
  · exact .inr ⟨e, a, n, q.keeps k⟩
theorem vis_keeps {h h' : Heap} (k : HLe h h') : HLe (c.vis h) (c.vis h') := hide_le fun b o _ e => k b o e
theorem IsApp.keeps {h h' : Heap} (k : HLe h h') {b a : Addr} (p : IsApp h b a) : IsApp h' b a := let ⟨o, vs, e, r⟩ := p; ⟨o, vs, k _ _ e, r⟩
theorem Sl.keeps {h h' : Heap} (k : HLe h h') {sl : Slot} {u : Value} (p : Sl c h sl u) : Sl c h' sl u := by
  cases sl with
  | val v => exact RV.mono (vis_keeps k) p
  | «mut» xs => obtain ⟨a, us, e, ha, pl, r⟩ := p; exact ⟨a, us, e, ha, plain_keeps k pl, RVs.mono (vis_keeps k) r⟩
  | rd xs => obtain ⟨a, us, e, ha, pl, r⟩ := p; exact ⟨a, us, e, ha, plain_keeps k pl, RVs.mono (vis_keeps k) r⟩
  | app y => obtain ⟨a, b, n, e, p⟩ := p; exact ⟨a, b, n.keeps k, e, p.keeps (vis_keeps k)⟩
/-- all that stood stands -/
theorem St.grow (x : St c ρ s) {h' : Heap} {t : Nat} (k : HLe s.heap h') : St c ρ { s with heap := h', toks := t } where
  j := x.j
  keep := x.keep.trans k
  ns := let ⟨m, n⟩ := x.ns; ⟨m, n.keeps k⟩
  cells := fun y a e e' => let ⟨v, p⟩ := x.cells y a e e'; ⟨v, p.keeps k⟩
  vars := fun y sl e => let ⟨u, n, p⟩ := x.vars y sl e; ⟨u, n.keeps k, p.keeps k⟩
  mutd := fun y z xs ys a e e' n n' => by
    obtain ⟨u, p, _⟩ := x.vars y _ e
    obtain ⟨u', p', _⟩ := x.vars z _ e'
    have q := (p.keeps k).fun n; subst q
    have q := (p'.keeps k).fun n'; subst q
    exact x.mutd y z xs ys a e e' p p'
  low := fun a ha => let ⟨o, e⟩ := x.low a ha; ⟨o, k _ _ e⟩
theorem St.grow' (x : St c ρ s) {s' : Shared} (k : HLe s.heap s'.heap) (j : c.J s'.gens s'.os) : St c ρ s' where
  j := j
  keep := x.keep.trans k
  ns := let ⟨m, n⟩ := x.ns; ⟨m, n.keeps k⟩
  cells := fun y a e e' => let ⟨v, p⟩ := x.cells y a e e'; ⟨v, p.keeps k⟩
  vars := fun y sl e => let ⟨u, n, p⟩ := x.vars y sl e; ⟨u, n.keeps k, p.keeps k⟩
  mutd := fun y z xs ys a e e' n n' => by
    obtain ⟨u, p, _⟩ := x.vars y _ e
    obtain ⟨u', p', _⟩ := x.vars z _ e'
    have q := (p.keeps k).fun n; subst q
    have q := (p'.keeps k).fun n'; subst q
    exact x.mutd y z xs ys a e e' p p'
  low := fun a ha => let ⟨o, e⟩ := x.low a ha; ⟨o, k _ _ e⟩
/-- a new address is not of the hidden -/
theorem St.new_vis (x : St c ρ s) : s.heap.objs.size ∉ c.mu := fun q => let ⟨_, e⟩ := x.low _ q; Nat.lt_irrefl _ (Heap.lt_size e)
theorem St.push (x : St c ρ s) (o : Obj) {t : Nat} : St c ρ { s with heap := s.heap.push o, toks := t } := x.grow (HLe.push _ o)
theorem St.see (x : St c ρ s) (o : Obj) (hf : o.isFreed = false) : (c.vis (s.heap.push o)).get? s.heap.objs.size = some o := hideAll_get _ (Heap.get?_push_size _ hf) x.new_vis
theorem St.sid (x : St c ρ s) : Stp c s s := ⟨HLe.refl _, x.j⟩
theorem St.stok (x : St c ρ s) (t : Nat) : Stp c s { s with toks := t } := ⟨HLe.refl _, x.j⟩
theorem St.spush (x : St c ρ s) (o : Obj) (t : Nat) : Stp c s { s with heap := s.heap.push o, toks := t } := ⟨HLe.push _ o, x.j⟩
theorem St.sle (x : St c ρ s) {h' : Heap} (k : HLe s.heap h') (t : Nat) : Stp c s { s with heap := h', toks := t } := ⟨k, x.j⟩
theorem St.step (x : St c ρ s) {s' : Shared} (p : Stp c s s') : St c ρ s' := x.grow' p.le p.j
theorem Stp.vis {s' : Shared} (p : Stp c s s') : HLe (c.vis s.heap) (c.vis s'.heap) := vis_keeps p.le
end heapstep
/-- a tree that a frame runs -/
noncomputable def Run (C : Cfg) (d : Nat) (J : Js) (T : Scope) (ρ : Rho) {α : Type} (t : Env → Sem α) (R : Heap → α → Prop) : Prop :=
  ∀ (c : Cx) (A : Around) (s : Shared) (Q : α → Shared → Prop) (E : Value → Shared → Prop), c.J = J → c.Ok T → C.Base (c.vis c.h₀) → Cnd A d → St c ρ s →
    (∀ a s', Stp c s s' → R (c.vis s'.heap) a → Q a s') → wpAny (model C.prog C.w) A (t c.env) Q E s
noncomputable abbrev Ev (C : Cfg) (d : Nat) (J : Js) (T : Scope) (ρ : Rho) (e : Expr) (v : V) : Prop := Run C d J T ρ (fun env => eval e env) (fun h u => RV h v u)
noncomputable abbrev Tst (C : Cfg) (d : Nat) (J : Js) (T : Scope) (ρ : Rho) (e : Expr) (b : Bool) : Prop := Run C d J T ρ (fun env => isTrue e env (eval e env)) (fun _ x => x = b)
theorem Run.mono {C : Cfg} {d d' : Nat} {J : Js} {T : Scope} {ρ : Rho} {α : Type} {t : Env → Sem α} {R : Heap → α → Prop} (h : Run C d J T ρ t R) (hd : d ≤ d') : Run C d' J T ρ t R :=
  fun c A s Q E hJ k b cn x q => h c A s Q E hJ k b (cn.mono hd) x q

theorem Run.use {C : Cfg} {d : Nat} {J : Js} {T : Scope} {ρ : Rho} {α : Type} {t : Env → Sem α} {R : Heap → α → Prop} (h : Run C d J T ρ t R)
    {c : Cx} {A : Around} {s : Shared} {E : Value → Shared → Prop} (hJ : c.J = J) (k : c.Ok T) (b : C.Base (c.vis c.h₀)) (cn : Cnd A d) (x : St c ρ s) :
    wpAny (model C.prog C.w) A (t c.env) (fun a s' => St c ρ s' ∧ Stp c s s' ∧ R (c.vis s'.heap) a) E s :=
  h c A s _ E hJ k b cn x fun _ _ p r => ⟨x.step p, p, r⟩
end Mine

end
section
open PySem PySem.W PySem.Spec PySem.Calls PyProof.Rows
set_option Elab.async false
set_option maxRecDepth 100000
namespace Mine
section leaf
variable {C : Cfg} {d : Nat} {J : Js} {T : Scope} {ρ : Rho}

theorem ev_int {i : Int} {k : Nat} {pos : Pos} : Ev C d J T ρ (.Constant (.int i) k pos) (.int i) :=
  fun _ _ _ _ _ _ _ _ _ x q => wpAny_Constant_int (q _ _ (x.stok _) ⟨_, rfl⟩)
theorem ev_str {y : Str} {k : Nat} {pos : Pos} : Ev C d J T ρ (.Constant (.str y) k pos) (.str y.cps.toList) :=
  fun _ _ _ _ _ _ _ _ _ x q => wpAny_Constant_str (q _ _ (x.stok _) ⟨_, by rw [S_of]⟩)
theorem ev_none {k : Nat} {pos : Pos} : Ev C d J T ρ (.Constant .none k pos) .none :=
  fun _ _ _ _ _ _ _ _ _ x q => wpAny_Constant_none (q _ _ x.sid rfl)
theorem ev_bool {b : Bool} {k : Nat} {pos : Pos} : Ev C d J T ρ (.Constant (.bool b) k pos) (.bool b) :=
  fun _ _ _ _ _ _ _ _ _ x q => wpAny_Constant_bool (q _ _ x.sid rfl)

theorem load_nm {M : Model} {A : Around} {E : Value → Shared → Prop} {s : Shared} {c : Cx} {y : Str} {u : Value} {Q : Value → Shared → Prop} (k : c.Ok T) (n : Nm c s.heap y u) (h : Q u s)
    (hc : (y == ("__classdict__" : Str)) = false) : wpAny M A (loadName c.env y) Q E s := by
  have hk : c.env.scope.kind = .function := by rw [k.scope]; exact k.kind
  rcases n with ⟨e, m, n, q⟩ | ⟨e, a, n, q⟩
  · exact wpAny_loadName_local hk e n q h
  · rcases e with e | e
    · exact wpAny_loadName_cell hk e n q h
    · exact wpAny_loadName_free hk e n q h hc
theorem eval_nm {M : Model} {A : Around} {E : Value → Shared → Prop} {s : Shared} {c : Cx} {y : Str} {u : Value} {pos : Pos} {Q : Value → Shared → Prop} (k : c.Ok T) (n : Nm c s.heap y u) (h : Q u s)
    (hd : ((y == ("__debug__" : Str)) || (y == ("__classdict__" : Str))) = false) : wpAny M A (eval (.Name y pos) c.env) Q E s := by
  rw [Bool.or_eq_false_iff] at hd
  exact wpAny_Name (load_nm k n h hd.2) hd.1

theorem ev_name {y : Str} {v : V} {pos : Pos} (h : ρ.lookup y = some (.val v)) (hd : ((y == ("__debug__" : Str)) || (y == ("__classdict__" : Str))) = false := by decide) : Ev C d J T ρ (.Name y pos) v :=
  fun _ _ _ _ _ _ k _ _ x q => by
    obtain ⟨u, n, r⟩ := x.vars y _ h
    exact eval_nm k n (q _ _ x.sid r) hd
theorem ev_glob {y : Str} {v : Value} {pos : Pos} (hx : T.names.lookup y = some .globalImplicit) (hv : C.mg y = some v) (hd : (y == ("__debug__" : Str)) = false := by decide) : Ev C d J T ρ (.Name y pos) (.const v) :=
  fun c _ _ _ _ _ k b _ x q => Name_function_global (by rw [k.scope]; exact k.kind) (by show c.env.scope.names.lookup y = _; rw [k.scope]; exact hx)
    (loadGlobal_global (by rw [k.glob]; exact (b.now x.keep).g) hv (q _ _ x.sid rfl)) hd
theorem ev_blt {y : Str} {v : Value} {pos : Pos} (hx : T.names.lookup y = some .globalImplicit) (hm : C.mg y = none) (hv : C.mb y = some v) (hd : (y == ("__debug__" : Str)) = false := by decide) : Ev C d J T ρ (.Name y pos) (.const v) :=
  fun c _ _ _ _ _ k b _ x q => Name_function_global (by rw [k.scope]; exact k.kind) (by show c.env.scope.names.lookup y = _; rw [k.scope]; exact hx)
    (loadGlobal_builtin (by rw [k.glob]; exact (b.now x.keep).g) hm (by rw [k.blt]; exact (b.now x.keep).b) hv (q _ _ x.sid rfl)) hd
end leaf

/-- the slot stored under a name -/
noncomputable def put : Rho → Str → Slot → Rho
  | [], y, sl => [(y, sl)]
  | p :: r, y, sl => if p.1 == y then (y, sl) :: r else p :: put r y sl
theorem put_get : ∀ (ρ : Rho) (y : Str) (sl : Slot) (z : Str), (put ρ y sl).lookup z = if z = y then some sl else ρ.lookup z
  | [], y, sl, z => by
    unfold put
    by_cases h : z = y
    · subst h; simp
    · have : (z == y) = false := beq_eq_false_iff_ne.mpr h
      simp [List.lookup, this, h]
  | p :: r, y, sl, z => by
    unfold put
    by_cases hp : p.1 = y
    · have hb : (p.1 == y) = true := beq_iff_eq.mpr hp
      rw [hb, if_pos rfl]
      by_cases h : z = y
      · subst h; simp
      · have : (z == y) = false := beq_eq_false_iff_ne.mpr h
        have h2 : (z == p.1) = false := beq_eq_false_iff_ne.mpr (hp ▸ h)
        obtain ⟨p1, p2⟩ := p
        simp only [List.lookup, this, if_neg h]
        simp only at h2
        rw [h2]
    · have hb : (p.1 == y) = false := beq_eq_false_iff_ne.mpr hp
      rw [hb, if_neg Bool.false_ne_true]
      obtain ⟨p1, p2⟩ := p
      simp only at hp
      by_cases h1 : z = p1
      · subst h1
        simp [List.lookup, hp]
      · have h2 : (z == p1) = false := beq_eq_false_iff_ne.mpr h1
        simp only [List.lookup, h2]
        exact put_get r y sl z
noncomputable def noApp (ρ : Rho) (y : Str) : Bool := ρ.all fun p => match p.2 with | .app z => !(z == y) | _ => true
theorem noApp_ne : ∀ {ρ : Rho} {y : Str}, noApp ρ y = true → ∀ {z w : Str}, ρ.lookup z = some (.app w) → w ≠ y
  | [], _, _, _, _, e => by simp at e
  | p :: r, y, h, z, w, e => by
    unfold noApp at h
    rw [List.all_cons, Bool.and_eq_true] at h
    obtain ⟨p1, p2⟩ := p
    by_cases h1 : z = p1
    · subst h1
      simp [List.lookup] at e
      subst e
      intro q; subst q
      simp at h
    · have h2 : (z == p1) = false := beq_eq_false_iff_ne.mpr h1
      simp only [List.lookup, h2] at e
      exact noApp_ne (ρ := r) h.2 e

theorem Nm.other {c : Cx} {T : Scope} (k : c.Ok T) {h h' : Heap} {x : Str} {u : Value} (hh : HLe c.h₀ h)
    (hs : (T.names.lookup x = some .local → ∀ m, h.Ns c.env.locals m → ∃ m', h'.Ns c.env.locals m' ∧ m' x = m x))
    (hc : ∀ a, c.env.cells.lookup x = some a → (T.names.lookup x = some .cell ∨ T.names.lookup x = some .free) → ∀ v, h.IsCell a v → h'.IsCell a v) (n : Nm c h x u) : Nm c h' x u := by
  rcases n with ⟨e, m, n, q⟩ | ⟨e, a, n, q⟩
  · obtain ⟨m', n', e'⟩ := hs (by rw [← k.scope]; exact e) m n
    exact .inl ⟨e, m', n', e'.trans q⟩
  · exact .inr ⟨e, a, n, hc a n (by rw [← k.scope]; exact e) _ q⟩

section store
variable {M : Model} {A : Around} {E : Value → Shared → Prop} {c : Cx} {T : Scope} {ρ : Rho} {s : Shared}
/-- an own address that is no list is changed: the slots but of that name stand -/
theorem Sl.same {h h' : Heap} {a : Addr} (hs : Heap.SameBut a h h') (ha : a ∈ c.mu) (hl : ∀ us, ¬ h.PlainList a us) (hn : ∀ x u, Nm c h x u → (∃ y, u = .ref y) → ∀ z sl, ρ.lookup z = some sl → sl = .app x → Nm c h' x u) {z : Str} {sl : Slot} {u : Value}
    (e : ρ.lookup z = some sl) (p : Sl c h sl u) : Sl c h' sl u := by
  have pl : ∀ {b us}, h.PlainList b us → h'.PlainList b us := fun {b us} ⟨n, q⟩ => ⟨n, (hs.2 b fun w => hl us ⟨n, w ▸ q⟩).trans q⟩
  cases sl with
  | val v => exact RV.mono (hide_sameBut hs ha) p
  | «mut» xs => obtain ⟨b, us, e, hb, q, r⟩ := p; exact ⟨b, us, e, hb, pl q, RVs.mono (hide_sameBut hs ha) r⟩
  | rd xs => obtain ⟨b, us, e, hb, q, r⟩ := p; exact ⟨b, us, e, hb, pl q, RVs.mono (hide_sameBut hs ha) r⟩
  | app y => obtain ⟨a', b, n, e', p⟩ := p; exact ⟨a', b, hn _ _ n ⟨_, rfl⟩ z _ e rfl, e', p.keeps (hide_sameBut hs ha)⟩

theorem Ns.noList {h : Heap} {a : Addr} {m} (n : h.Ns a m) (us) : ¬ h.PlainList a us := by
  rintro ⟨k, q⟩
  obtain ⟨o, es, ep, ho, hd, _⟩ := n
  rw [ho] at q; cases q; cases hd
theorem IsCell.noList {h : Heap} {a : Addr} {v} (n : h.IsCell a v) (us) : ¬ h.PlainList a us := by
  rintro ⟨k, q⟩
  obtain ⟨o, ho, hd⟩ := n
  rw [ho] at q; cases q; cases hd
theorem Ns.noCell {h : Heap} {a : Addr} {m v} (n : h.Ns a m) : ¬ h.IsCell a v := by
  rintro ⟨o', ho', hd'⟩
  obtain ⟨o, es, ep, ho, hd, _⟩ := n
  rw [ho] at ho'; cases ho'; rw [hd] at hd'; cases hd'

theorem cell_addr {M : Type} (k : c.Ok T) (x : St c ρ s) {y : Str} {a : Addr} (e : T.names.lookup y = some .cell ∨ T.names.lookup y = some .free) (ha : c.env.cells.lookup y = some a) : a ≠ c.env.locals := by
  obtain ⟨m, n⟩ := x.ns
  intro q; subst q
  rcases e with e | e
  · obtain ⟨v, p⟩ := x.cells y _ (by rw [k.scope]; exact e) ha
    exact Ns.noCell n p
  · obtain ⟨b, o, e1, e2⟩ := k.free y e
    rw [ha] at e1; cases e1
    have := k.off _ k.loc
    rw [e2] at this; cases this

/-- the name is stored -/
theorem st_store (k : c.Ok T) (x : St c ρ s) {y : Str} (hown : T.names.lookup y = some .cell → c.own = true) {sl : Slot} {u : Value} {Q : Unit → Shared → Prop} (hy : T.names.lookup y = some .local ∨ T.names.lookup y = some .cell) (hna : noApp ρ y = true)
    (hsl : ∀ h', (∀ z v, z ≠ y → Nm c s.heap z v → Nm c h' z v) → HLe (c.vis s.heap) (c.vis h') → (∀ b us, s.heap.PlainList b us → h'.PlainList b us) → Sl c h' sl u)
    (hmd : ∀ xs, sl = .mut xs → ∀ a, u = .ref a → ∀ z ys, z ≠ y → ρ.lookup z = some (.mut ys) → ¬ Nm c s.heap z (.ref a))
    (h : ∀ h' t, St c (put ρ y sl) { s with heap := h', toks := t } → HLe (c.vis s.heap) (c.vis h') → Q () { s with heap := h', toks := t }) : wpAny M A (storeName c.env y u) Q E s := by
  have hk : c.env.scope.kind = .function := by rw [k.scope]; exact k.kind
  -- the common end
  have fin : ∀ (a : Addr) (h' : Heap) (t : Nat), a ∈ c.ow → Heap.SameBut a s.heap h' → (∀ us, ¬ s.heap.PlainList a us) → (∃ o, h'.get? a = some o) → (∃ m, h'.Ns c.env.locals m) →
      (∀ z b, T.names.lookup z = some .cell → c.env.cells.lookup z = some b → ∃ v, h'.IsCell b v) →
      (∀ z v, z ≠ y → Nm c s.heap z v → Nm c h' z v) → Nm c h' y u → Q () { s with heap := h', toks := t } := by
    intro a h' t ha hs hl hlive hns hcl hoth hme
    have hv := hide_sameBut hs (k.sub a ha)
    have hpl : ∀ b us, s.heap.PlainList b us → h'.PlainList b us := fun b us ⟨n, q⟩ => ⟨n, (hs.2 b fun w => hl us ⟨n, w ▸ q⟩).trans q⟩
    have hback : ∀ z v, z ≠ y → (∃ w, Nm c s.heap z w) → Nm c h' z v → Nm c s.heap z v := fun z v hz ⟨w, p⟩ q => by
      have := (hoth z w hz p).fun q; subst this; exact p
    refine h h' t ⟨x.j, fun b o e => (hs.2 b fun w => ?_).trans (x.keep b o e), hns, fun z b e => hcl z b (by rw [← k.scope]; exact e), fun z sl' e => ?_, fun z w xs ys b e e' n n' => ?_, fun b hb => ?_⟩ hv
    · have := k.off a ha; rw [← w, e] at this; cases this
    · rw [put_get] at e
      by_cases hz : z = y
      · rw [if_pos hz] at e; cases e; subst hz
        exact ⟨u, hme, hsl h' hoth hv hpl⟩
      · rw [if_neg hz] at e
        obtain ⟨v, n, p⟩ := x.vars z sl' e
        refine ⟨v, hoth z v hz n, Sl.same hs (k.sub a ha) hl (fun w v' n' _ z' sl'' e' e'' => ?_) e p⟩
        subst e''
        exact hoth w v' (noApp_ne hna e') n'
    · rw [put_get] at e e'
      by_cases hz : z = y <;> by_cases hw : w = y
      · rw [hz, hw]
      · rw [if_pos hz] at e; rw [if_neg hw] at e'
        cases e; subst hz
        have := hme.fun n; subst this
        obtain ⟨v, p, _⟩ := x.vars w _ e'
        exact absurd (hback w _ hw ⟨v, p⟩ n') (hmd xs rfl b rfl w ys hw e')
      · rw [if_neg hz] at e; rw [if_pos hw] at e'
        cases e'; subst hw
        have := hme.fun n'; subst this
        obtain ⟨v, p, _⟩ := x.vars z _ e
        exact absurd (hback z _ hz ⟨v, p⟩ n) (hmd ys rfl b rfl z xs hz e)
      · rw [if_neg hz] at e; rw [if_neg hw] at e'
        obtain ⟨v, p, _⟩ := x.vars z _ e
        obtain ⟨v', p', _⟩ := x.vars w _ e'
        exact x.mutd z w xs ys b e e' (hback z _ hz ⟨v, p⟩ n) (hback w _ hw ⟨v', p'⟩ n')
    · by_cases q : b = a
      · subst q; exact hlive
      · obtain ⟨o, e⟩ := x.low b hb; exact ⟨o, (hs.2 b q).trans e⟩
  obtain ⟨m, n⟩ := x.ns
  rcases hy with hy | hy
  · refine wpAny_storeName_local (by show c.env.scope.names.lookup y = _; rw [k.scope]; exact hy) n (fun h' n' hs => ?_) (by rw [hk]; rfl)
    refine fin c.env.locals h' _ k.loc hs (fun us => Ns.noList n us) (let ⟨o, _, _, e, _⟩ := n'; ⟨o, e⟩) ⟨_, n'⟩ (fun z b e e' => ?_) (fun z v hz p => ?_) ?_
    · obtain ⟨v, p⟩ := x.cells z b (by rw [k.scope]; exact e) e'
      exact ⟨v, p.sameBut hs (cell_addr (M := Unit) k x (.inl e) e')⟩
    · refine Nm.other k x.keep (fun _ m₁ n₁ => ⟨_, n', ?_⟩) (fun a ha e v p => p.sameBut hs (cell_addr (M := Unit) k x e ha)) p
      have := ns_fun n n₁; subst this
      exact if_neg hz
    · exact .inl ⟨by rw [k.scope]; exact hy, _, n', if_pos rfl⟩
  · obtain ⟨a, ea, hao⟩ := k.cell y hy
    have hao : a ∈ c.ow := hao.resolve_right fun q => by rw [hown hy] at q; cases q.1
    obtain ⟨v₀, p₀⟩ := x.cells y a (by rw [k.scope]; exact hy) ea
    have hne : a ≠ c.env.locals := cell_addr (M := Unit) k x (.inl hy) ea
    refine wpAny_storeName_cell hk (by show c.env.scope.names.lookup y = _; rw [k.scope]; exact hy) ea p₀ fun h' p' hs => ?_
    have := fin a h' s.toks hao hs (fun us => IsCell.noList p₀ us) (let ⟨o, e, _⟩ := p'; ⟨o, e⟩) ⟨m, n.sameBut hs (Ne.symm hne)⟩ (fun z b e e' => ?_) (fun z v hz p => ?_) ?_
    · exact this
    · by_cases q : b = a
      · subst q; exact ⟨_, p'⟩
      · obtain ⟨v, p⟩ := x.cells z b (by rw [k.scope]; exact e) e'
        exact ⟨v, p.sameBut hs q⟩
    · refine Nm.other k x.keep (fun _ m₁ n₁ => ⟨m₁, n₁.sameBut hs (Ne.symm hne), rfl⟩) (fun b hb e v p => p.sameBut hs fun q => ?_) p
      subst q
      rcases e with e | e
      · exact hz (k.inj (hown hy) z y b e hy hb ea)
      · obtain ⟨b', o, e1, e2⟩ := k.free z e
        rw [hb] at e1; cases e1
        have := k.off _ hao; rw [e2] at this; cases this
    · exact .inr ⟨.inl (by rw [k.scope]; exact hy), a, ea, p'⟩
theorem st_storeV (k : c.Ok T) (x : St c ρ s) {y : Str} (hown : T.names.lookup y = some .cell → c.own = true) {v : V} {u : Value} {Q : Unit → Shared → Prop} (hy : T.names.lookup y = some .local ∨ T.names.lookup y = some .cell) (hna : noApp ρ y = true)
    (hv : RV (c.vis s.heap) v u)
    (h : ∀ h' t, St c (put ρ y (.val v)) { s with heap := h', toks := t } → HLe (c.vis s.heap) (c.vis h') → Q () { s with heap := h', toks := t }) : wpAny M A (storeName c.env y u) Q E s :=
  st_store (sl := .val v) k x hown hy hna (fun _ _ q _ => RV.mono q hv) (fun _ e => nomatch e) h
end store
end Mine

end
section
open PySem PySem.W PySem.Spec PySem.Calls PyProof.Rows
set_option Elab.async false
set_option maxRecDepth 100000
namespace Mine
section ops
variable {C : Cfg} {d : Nat}

/-- a built-in step upon one value, upon two: the frame stands -/
noncomputable def Op1 (C : Cfg) (d : Nat) {α : Type} (f : Value → Sem α) (a : V) (R : Heap → α → Prop) : Prop :=
  ∀ (c : Cx) (T : Scope) (ρ : Rho) (A : Around) (s : Shared) (u : Value) (Q : α → Shared → Prop) (E : Value → Shared → Prop), c.Ok T → C.Base (c.vis c.h₀) → Cnd A d → St c ρ s → RV (c.vis s.heap) a u →
    (∀ a s', Stp c s s' → R (c.vis s'.heap) a → Q a s') → wpAny (model C.prog C.w) A (f u) Q E s
noncomputable def Op2 (C : Cfg) (d : Nat) {α : Type} (f : Value → Value → Sem α) (a b : V) (R : Heap → α → Prop) : Prop :=
  ∀ (c : Cx) (T : Scope) (ρ : Rho) (A : Around) (s : Shared) (u w : Value) (Q : α → Shared → Prop) (E : Value → Shared → Prop), c.Ok T → C.Base (c.vis c.h₀) → Cnd A d → St c ρ s → RV (c.vis s.heap) a u → RV (c.vis s.heap) b w →
    (∀ a s', Stp c s s' → R (c.vis s'.heap) a → Q a s') → wpAny (model C.prog C.w) A (f u w) Q E s
noncomputable abbrev Bin (C : Cfg) (d : Nat) (op : Operator) (a b v : V) : Prop := Op2 C d (binaryOp op) a b (fun h u => RV h v u)
noncomputable abbrev Cmp (C : Cfg) (d : Nat) (op : CmpOp) (a b : V) (r : Bool) : Prop := Op2 C d (compareOp op) a b (fun _ u => u = .bool r)
noncomputable abbrev Tru (C : Cfg) (d : Nat) (a : V) (r : Bool) : Prop := Op1 C d truthy a (fun _ x => x = r)

variable {J : Js} {T : Scope} {ρ : Rho}
theorem ev_bin {e₁ e₂ : Expr} {op : Operator} {pos : Pos} {a b v : V} (h₁ : Ev C d J T ρ e₁ a) (h₂ : Ev C d J T ρ e₂ b) (h : Bin C d op a b v) : Ev C d J T ρ (.BinOp e₁ op e₂ pos) v :=
  fun c A _ Q E hJ k bs cn x q => wpAny_BinOp (wpAny_mono (h₁.use hJ k bs cn x) (fun u₁ _ ⟨x₁, p₁, r₁⟩ =>
    wpAny_mono (h₂.use hJ k bs cn x₁) (fun u₂ s₂ ⟨x₂, p₂, r₂⟩ => h c T ρ A s₂ u₁ u₂ Q E k bs cn x₂ (RV.mono p₂.vis r₁) r₂ fun u s' p r => q u s' ((p₁.trans p₂).trans p) r) fun _ _ e => e) fun _ _ e => e)
theorem ev_cmp {e₁ e₂ : Expr} {op : CmpOp} {pos : Pos} {a b : V} {r : Bool} (h₁ : Ev C d J T ρ e₁ a) (h₂ : Ev C d J T ρ e₂ b) (h : Cmp C d op a b r) (hm : behindInMarks op e₂ = false := by with_unfolding_all rfl) :
    Ev C d J T ρ (.Compare e₁ [op] [e₂] pos) (.bool r) :=
  fun c A _ Q E hJ k bs cn x q => wpAny_Compare1 (wpAny_mono (h₁.use hJ k bs cn x) (fun u₁ _ ⟨x₁, p₁, r₁⟩ =>
    wpAny_mono (h₂.use hJ k bs cn x₁) (fun u₂ s₂ ⟨x₂, p₂, r₂⟩ => h c T ρ A s₂ u₁ u₂ Q E k bs cn x₂ (RV.mono p₂.vis r₁) r₂ fun u s' p r => q u s' ((p₁.trans p₂).trans p) r) fun _ _ e => e) fun _ _ e => e) hm
theorem tst_cmp {e₁ e₂ : Expr} {op : CmpOp} {pos : Pos} {a b : V} {r : Bool} (h₁ : Ev C d J T ρ e₁ a) (h₂ : Ev C d J T ρ e₂ b) (h : Cmp C d op a b r) (hm : behindInMarks op e₂ = false := by with_unfolding_all rfl) :
    Tst C d J T ρ (.Compare e₁ [op] [e₂] pos) r :=
  fun c A _ _ E hJ k bs cn x q => wpAny_isTrue_Compare1 (wpAny_mono (h₁.use hJ k bs cn x) (fun u₁ _ ⟨x₁, p₁, r₁⟩ =>
    wpAny_mono (h₂.use hJ k bs cn x₁) (fun u₂ s₂ ⟨x₂, p₂, r₂⟩ => h c T ρ A s₂ u₁ u₂ _ E k bs cn x₂ (RV.mono p₂.vis r₁) r₂
      fun u s' p e => by subst e; exact wpAny_truthy_bool (q r s' ((p₁.trans p₂).trans p) rfl)) fun _ _ e => e) fun _ _ e => e) hm
theorem tst_val {e : Expr} {a : V} {r : Bool} (h₁ : Ev C d J T ρ e a) (h : Tru C d a r) (he : ∀ env whole, isTrue e env whole = (do let v ← whole; standAt e.pos; holding [v] (truthy v)) := by intro _ _; with_unfolding_all rfl) : Tst C d J T ρ e r :=
  fun c A _ Q E hJ k bs cn x q => isTrue_plain (wpAny_mono (h₁.use hJ k bs cn x) (fun u₁ s₁ ⟨x₁, p₁, r₁⟩ => h c T ρ A s₁ u₁ Q E k bs cn x₁ r₁ fun u s' p r => q u s' (p₁.trans p) r) fun _ _ e => e) (he _ _)
theorem tst_not {e : Expr} {pos : Pos} {r : Bool} (h : Tst C d J T ρ e r) : Tst C d J T ρ (.UnaryOp .Not e pos) (!r) :=
  fun c A s _ E hJ k bs cn x q => isTrue_not (h c A s _ E hJ k bs cn x fun _ s' p e => q _ s' p (by rw [e]))
theorem tst_and {e₁ e₂ : Expr} {pos : Pos} {r₁ r₂ : Bool} (h₁ : Tst C d J T ρ e₁ r₁) (h₂ : r₁ = true → Tst C d J T ρ e₂ r₂) : Tst C d J T ρ (.BoolOp .And [e₁, e₂] pos) (r₁ && r₂) :=
  fun c A s _ E hJ k bs cn x q => isTrue_and (h₁ c A s _ E hJ k bs cn x fun b s' p e => by
    subst e
    cases b with
    | false => exact q _ s' p rfl
    | true => exact isTrue_and (h₂ rfl c A s' _ E hJ k bs cn (x.step p) fun b s'' p' e => by
        subst e
        cases b with
        | false => exact q _ s'' (p.trans p') rfl
        | true => exact isTrue_and_nil (q _ s'' (p.trans p') rfl)))
theorem tst_or {e₁ e₂ : Expr} {pos : Pos} {r₁ r₂ : Bool} (h₁ : Tst C d J T ρ e₁ r₁) (h₂ : r₁ = false → Tst C d J T ρ e₂ r₂) : Tst C d J T ρ (.BoolOp .Or [e₁, e₂] pos) (r₁ || r₂) :=
  fun c A s _ E hJ k bs cn x q => isTrue_or (h₁ c A s _ E hJ k bs cn x fun b s' p e => by
    subst e
    cases b with
    | true => exact q _ s' p rfl
    | false => exact isTrue_or (h₂ rfl c A s' _ E hJ k bs cn (x.step p) fun b s'' p' e => by
        subst e
        cases b with
        | true => exact q _ s'' (p.trans p') rfl
        | false => exact isTrue_or_nil (q _ s'' (p.trans p') rfl)))
/-- x and y, as a value, x a bool -/
theorem ev_and {e₁ e₂ : Expr} {pos : Pos} {r₁ : Bool} {v : V} (h₁ : Ev C d J T ρ e₁ (.bool r₁)) (h₂ : r₁ = true → Ev C d J T ρ e₂ v) (hv : r₁ = false → v = .bool false) : Ev C d J T ρ (.BoolOp .And [e₁, e₂] pos) v :=
  fun c A s Q E hJ k bs cn x q => BoolOp_and (h₁ c A s _ E hJ k bs cn x fun u s' p e => by
    have e : u = .bool r₁ := e
    subst e
    refine wpAny_truthy_bool ?_
    cases r₁ with
    | false => exact q _ s' p (by rw [hv rfl]; rfl)
    | true => exact BoolOp_one (h₂ rfl c A s' Q E hJ k bs cn (x.step p) fun u s' p' r => q u s' (p.trans p') r))
theorem ev_if {t e₁ e₂ : Expr} {pos : Pos} {r : Bool} {v : V} (h : Tst C d J T ρ t r) (h₁ : r = true → Ev C d J T ρ e₁ v) (h₂ : r = false → Ev C d J T ρ e₂ v) : Ev C d J T ρ (.IfExp t e₁ e₂ pos) v :=
  fun c A s Q E hJ k bs cn x q => IfExp_ (h c A s _ E hJ k bs cn x fun b s' p e => by
    subst e
    cases b with
    | true => exact h₁ rfl c A s' Q E hJ k bs cn (x.step p) fun u s' p' r => q u s' (p.trans p') r
    | false => exact h₂ rfl c A s' Q E hJ k bs cn (x.step p) fun u s' p' r => q u s' (p.trans p') r)
theorem ev_neg {e : Expr} {pos : Pos} {i : Int} (h : Ev C d J T ρ e (.int i)) : Ev C d J T ρ (.UnaryOp .USub e pos) (.int (-i)) :=
  fun c A s Q E hJ k bs cn x q => UnaryOp_ (h c A s _ E hJ k bs cn x fun u s' p e => by
    obtain ⟨t, rfl⟩ := e
    with_reducible refine neg_int ?_
    exact q _ _ (p.trans ((x.step p).stok _)) ⟨_, rfl⟩)

-- the operators
theorem bin_add {a b : Int} : Bin C d .Add (.int a) (.int b) (.int (a + b)) := fun c T ρ A s u w Q E k bs cn x r r' q => by
  obtain ⟨t, rfl⟩ := r
  obtain ⟨t', rfl⟩ := r'
  with_reducible refine add_int ?_
  exact q _ _ (x.stok _) ⟨_, rfl⟩
theorem bin_sub {a b : Int} : Bin C d .Sub (.int a) (.int b) (.int (a - b)) := fun c T ρ A s u w Q E k bs cn x r r' q => by
  obtain ⟨t, rfl⟩ := r
  obtain ⟨t', rfl⟩ := r'
  with_reducible refine sub_int ?_
  exact q _ _ (x.stok _) ⟨_, rfl⟩
theorem bin_mod {a b : Int} (hb : b ≠ 0) : Bin C d .Mod (.int a) (.int b) (.int (a.fmod b)) := fun c T ρ A s u w Q E k bs cn x r r' q => by
  obtain ⟨t, rfl⟩ := r
  obtain ⟨t', rfl⟩ := r'
  with_reducible refine mod_int' hb ?_
  exact q _ _ (x.stok _) ⟨_, rfl⟩
theorem bin_div {a b : Int} (hb : b ≠ 0) (hs : b.natAbs < 1073741824) : Bin C d .FloorDiv (.int a) (.int b) (.int (a.fdiv b)) := fun c T ρ A s u w Q E k bs cn x r r' q => by
  obtain ⟨t, rfl⟩ := r
  obtain ⟨t', rfl⟩ := r'
  exact floordiv_int hb (q _ _ (x.stok _) ⟨_, rfl⟩) (.inl (PyProof.noPylong_small hs))
theorem bin_pow {a n : Int} (hn : 0 ≤ n) (hsz : (Builtin.Int.intBits a : Int) * n ≤ 2 ^ 27) : Bin C d .Pow (.int a) (.int n) (.int (a ^ n.toNat)) := fun c T ρ A s u w Q E k bs cn x r r' q => by
  obtain ⟨t, rfl⟩ := r
  obtain ⟨t', rfl⟩ := r'
  with_reducible refine pow_int hn hsz ?_
  exact q _ _ (x.stok _) ⟨_, rfl⟩
theorem bin_shr {a n : Int} (hn : 0 ≤ n) : Bin C d .RShift (.int a) (.int n) (.int (a.fdiv (2 ^ n.toNat))) := fun c T ρ A s u w Q E k bs cn x r r' q => by
  obtain ⟨t, rfl⟩ := r
  obtain ⟨t', rfl⟩ := r'
  with_reducible refine rshift_int hn ?_
  exact q _ _ (x.stok _) ⟨_, rfl⟩
theorem bin_and {a b : Int} : Bin C d .BitAnd (.int a) (.int b) (.int (Builtin.bitAnd a b)) := fun c T ρ A s u w Q E k bs cn x r r' q => by
  obtain ⟨t, rfl⟩ := r
  obtain ⟨t', rfl⟩ := r'
  with_reducible refine and_int ?_
  exact q _ _ (x.stok _) ⟨_, rfl⟩
theorem bin_or {a b : Int} : Bin C d .BitOr (.int a) (.int b) (.int (Builtin.bitOr a b)) := fun c T ρ A s u w Q E k bs cn x r r' q => by
  obtain ⟨t, rfl⟩ := r
  obtain ⟨t', rfl⟩ := r'
  with_reducible refine or_int ?_
  exact q _ _ (x.stok _) ⟨_, rfl⟩
theorem bin_xor {a b : Int} : Bin C d .BitXor (.int a) (.int b) (.int (Builtin.bitXor a b)) := fun c T ρ A s u w Q E k bs cn x r r' q => by
  obtain ⟨t, rfl⟩ := r
  obtain ⟨t', rfl⟩ := r'
  with_reducible refine xor_int ?_
  exact q _ _ (x.stok _) ⟨_, rfl⟩
theorem bin_subB {a b : Bool} : Bin C d .Sub (.bool a) (.bool b) (.int (b2i a - b2i b)) := fun c T ρ A s u w Q E k bs cn x r r' q => by
  cases r; cases r'
  with_reducible refine sub_bool ?_
  exact q _ _ (x.stok _) ⟨_, rfl⟩
theorem S_add (a b : List Nat) : S a ++ S b = S (a ++ b) := by
  apply Str.ext'
  simp [S, Str.cps_append]
theorem bin_addS {a b : List Nat} (hs : a.length + b.length ≤ sizeLine) : Bin C d .Add (.str a) (.str b) (.str (a ++ b)) := fun c T ρ A s u w Q E k bs cn x r r' q => by
  obtain ⟨t, rfl⟩ := r
  obtain ⟨t', rfl⟩ := r'
  exact add_str (fun t' tk => q _ _ (x.stok _) ⟨_, by rw [S_add]⟩) (by rw [S_len, S_len]; exact hs)
theorem cmp_eqI {a b : Int} : Cmp C d .Eq (.int a) (.int b) (a == b) := fun c T ρ A s u w Q E k bs cn x r r' q => by
  obtain ⟨t, rfl⟩ := r
  obtain ⟨t', rfl⟩ := r'
  with_reducible refine eq_int ?_
  exact q _ _ x.sid rfl
theorem cmp_neI {a b : Int} : Cmp C d .NotEq (.int a) (.int b) (a != b) := fun c T ρ A s u w Q E k bs cn x r r' q => by
  obtain ⟨t, rfl⟩ := r
  obtain ⟨t', rfl⟩ := r'
  with_reducible refine ne_int ?_
  exact q _ _ x.sid rfl
theorem cmp_ltI {a b : Int} : Cmp C d .Lt (.int a) (.int b) (decide (a < b)) := fun c T ρ A s u w Q E k bs cn x r r' q => by
  obtain ⟨t, rfl⟩ := r
  obtain ⟨t', rfl⟩ := r'
  with_reducible refine lt_int ?_
  exact q _ _ x.sid rfl
theorem cmp_gtI {a b : Int} : Cmp C d .Gt (.int a) (.int b) (decide (b < a)) := fun c T ρ A s u w Q E k bs cn x r r' q => by
  obtain ⟨t, rfl⟩ := r
  obtain ⟨t', rfl⟩ := r'
  with_reducible refine gt_int ?_
  exact q _ _ x.sid rfl
theorem cmp_geI {a b : Int} : Cmp C d .GtE (.int a) (.int b) (decide (b ≤ a)) := fun c T ρ A s u w Q E k bs cn x r r' q => by
  obtain ⟨t, rfl⟩ := r
  obtain ⟨t', rfl⟩ := r'
  with_reducible refine ge_int ?_
  exact q _ _ x.sid rfl
theorem S_beq (a b : List Nat) : ((S a).cps.toList == (S b).cps.toList) = (a == b) := by rw [S_cps, S_cps]
theorem cmp_eqS {a b : List Nat} : Cmp C d .Eq (.str a) (.str b) (a == b) := fun c T ρ A s u w Q E k bs cn x r r' q => by
  obtain ⟨t, rfl⟩ := r
  obtain ⟨t', rfl⟩ := r'
  with_reducible refine P.eq_str ?_
  exact q _ _ x.sid (by rw [S_beq])
theorem cmp_neS {a b : List Nat} : Cmp C d .NotEq (.str a) (.str b) (a != b) := fun c T ρ A s u w Q E k bs cn x r r' q => by
  obtain ⟨t, rfl⟩ := r
  obtain ⟨t', rfl⟩ := r'
  with_reducible refine P.ne_str ?_
  exact q _ _ x.sid (by show Value.bool (!((S a).cps.toList == (S b).cps.toList)) = _; rw [S_beq]; rfl)
theorem cmp_ltS {a b : List Nat} : Cmp C d .Lt (.str a) (.str b) (decide (a < b)) := fun c T ρ A s u w Q E k bs cn x r r' q => by
  obtain ⟨t, rfl⟩ := r
  obtain ⟨t', rfl⟩ := r'
  refine P.lt_str (q _ _ x.sid ?_)
  simp only [S_cps]
theorem cmp_gtS {a b : List Nat} : Cmp C d .Gt (.str a) (.str b) (decide (b < a)) := fun c T ρ A s u w Q E k bs cn x r r' q => by
  obtain ⟨t, rfl⟩ := r
  obtain ⟨t', rfl⟩ := r'
  refine P.gt_str (q _ _ x.sid ?_)
  simp only [S_cps]
theorem cmp_neB {a b : Bool} : Cmp C d .NotEq (.bool a) (.bool b) (a != b) := fun c T ρ A s u w Q E k bs cn x r r' q => by
  cases r; cases r'
  with_reducible refine ne_bool ?_
  exact q _ _ x.sid rfl
noncomputable def isN : V → Bool | .none => true | _ => false
theorem isN_rv {h : Heap} {v : V} {u : Value} (r : RV h v u) (hc : ∀ w, v ≠ .const w) : (u == Value.none) = isN v := by
  cases v with
  | none => cases r; rfl
  | bool b => cases r; rfl
  | int i => obtain ⟨t, rfl⟩ := r; rfl
  | str l => obtain ⟨t, rfl⟩ := r; rfl
  | list xs => obtain ⟨a, us, rfl, _⟩ := r; rfl
  | tup xs => obtain ⟨a, us, rfl, _⟩ := r; rfl
  | const w => exact absurd rfl (hc w)
theorem cmp_isN {a : V} (hc : ∀ w, a ≠ .const w) : Cmp C d .Is a .none (isN a) := fun c T ρ A s u w Q E k bs cn x e e' q => by
  cases e'
  with_reducible refine is_none ?_
  exact q _ _ x.sid (by rw [isN_rv e hc])
theorem cmp_isNotN {a : V} (hc : ∀ w, a ≠ .const w) : Cmp C d .IsNot a .none (!isN a) := fun c T ρ A s u w Q E k bs cn x e e' q => by
  cases e'
  with_reducible refine isNot_none ?_
  exact q _ _ x.sid (by rw [isN_rv e hc])
theorem tru_bool {b : Bool} : Tru C d (.bool b) b := fun c T ρ A s u Q E k bs cn x r q => by
  cases r
  with_reducible refine wpAny_truthy_bool ?_
  exact q _ _ x.sid rfl
theorem tru_str {l : List Nat} (hs : l.length ≤ sizeLine) : Tru C d (.str l) (!l.isEmpty) := fun c T ρ A s u Q E k bs cn x r q => by
  obtain ⟨t, rfl⟩ := r
  rw [sizeLine_eq] at hs
  refine P.truthy_str (by rw [S_len]; omega) (q _ _ (x.stok _) ?_)
  rw [S_len]
  cases l with
  | nil => rfl
  | cons a l => rw [bne_iff_ne.mpr (by rw [List.length_cons]; omega)]; rfl
theorem tru_list {l : List V} (hs : l.length ≤ sizeLine) : Tru C d (.list l) (!l.isEmpty) := fun c T ρ A s u Q E k bs cn x r q => by
  obtain ⟨a, vs, rfl, p, rv⟩ := r
  rw [sizeLine_eq] at hs
  have hl := rv.len
  obtain ⟨o, hp, r⟩ := p
  refine wpAny_truthy_list (items := vs.toArray) ⟨o, of_hideAll _ hp, r⟩ (by simp only [List.size_toArray]; omega) (q _ _ (x.stok _) ?_)
  cases l with
  | nil => cases rv; rfl
  | cons a l => cases vs with
    | nil => simp at hl
    | cons b vs => simp
end ops
end Mine

end
section
open PySem PySem.W PySem.Spec PySem.Calls PyProof.Rows
open PySem.Builtin PySem.Builtin.Str
set_option Elab.async false
set_option maxRecDepth 100000
namespace Mine

/-- a slice of a list, as Python cuts it -/
noncomputable def pick {α : Type} (lo hi st : Option Int) (xs : List α) : List α :=
  (sliceRange (sliceBounds lo hi st xs.length).1 (sliceBounds lo hi st xs.length).2.1 (sliceBounds lo hi st xs.length).2.2).filterMap (xs[·]?)
noncomputable def cut {α : Type} (lo hi : Option Int) (xs : List α) : List α :=
  (xs.drop (lo.elim 0 (clipAt xs.length))).take (hi.elim xs.length (clipAt xs.length) - lo.elim 0 (clipAt xs.length))
theorem pick_cut {α : Type} (lo hi : Option Int) (xs : List α) : pick lo hi none xs = cut lo hi xs := by
  unfold pick cut
  rw [sliceBounds_plain]
  simp only [sliceRange_one]
  have := pick_run xs.toArray (lo.elim 0 (clipAt xs.length)) (hi.elim xs.length (clipAt xs.length) - lo.elim 0 (clipAt xs.length))
  simpa using this
theorem slicePick_pick (us : List Value) (lo hi st : Option Int) : slicePick us.toArray lo hi st = (pick lo hi st us).toArray := by
  unfold slicePick pick
  simp
theorem RVs.picked {h : Heap} {xs : List V} {us : List Value} (r : RVs h xs us) : ∀ ks : List Nat, RVs h (ks.filterMap (xs[·]?)) (ks.filterMap (us[·]?))
  | [] => rfl
  | k :: ks => by
    have ih := RVs.picked r ks
    simp only [List.filterMap_cons]
    cases hx : xs[k]? with
    | some x =>
      obtain ⟨y, hy, p⟩ := r.get k x hx
      rw [hy]
      exact ⟨y, _, rfl, p, ih⟩
    | none =>
      have : us[k]? = none := by
        rw [List.getElem?_eq_none_iff] at hx ⊢
        rw [r.len]; exact hx
      rw [this]; exact ih
theorem RVs.pick {h : Heap} {xs : List V} {us : List Value} (r : RVs h xs us) (lo hi st : Option Int) : RVs h (pick lo hi st xs) (Mine.pick lo hi st us) := by
  unfold Mine.pick
  rw [r.len]
  exact r.picked _

section
variable {C : Cfg} {d : Nat} {J : Js} {T : Scope} {ρ : Rho}

noncomputable abbrev EvP (C : Cfg) (d : Nat) (J : Js) (T : Scope) (ρ : Rho) (e : Option Expr) (k : Option Int) : Prop := Run C d J T ρ (fun env => evalPart e env) (fun _ u => IsPart u k)
theorem evp_none : EvP C d J T ρ none none := fun c A s Q E _ _ _ _ x q => by
  show wpAny _ _ (evalPart none c.env) _ _ _
  rw [evalPart_none]
  exact wpAny_pure (q _ _ x.sid .none)
theorem evp_some {e : Expr} {k : Int} (h : Ev C d J T ρ e (.int k)) : EvP C d J T ρ (some e) (some k) := fun c A s Q E hJ kk b cn x q => by
  show wpAny _ _ (evalPart (some e) c.env) _ _ _
  rw [evalPart_some]
  exact h c A s Q E hJ kk b cn x fun u s' p r => by
    obtain ⟨t, rfl⟩ := r
    exact q _ _ p (.int _ _)

theorem isList_of {c : Cx} {h : Heap} {a : Addr} {us : Array Value} (p : (c.vis h).IsList a us) : h.IsList a us := let ⟨o, e, r⟩ := p; ⟨o, of_hideAll _ e, r⟩
theorem isTup_of {c : Cx} {h : Heap} {a : Addr} {us : Array Value} (p : IsTu (c.vis h) a us) : IsTup h a us := let ⟨o, e, r⟩ := p; ⟨o, of_hideAll _ e, r⟩
theorem isL_of {h : Heap} {a : Addr} {us : Array Value} (p : h.PlainList a us) : h.IsList a us := let ⟨n, e⟩ := p; ⟨_, e, rfl, n, rfl⟩

/-- the index of Python's -/
noncomputable def at? (n : Nat) (k : Int) (j : Nat) : Prop := (0 ≤ k ∧ k.toNat = j) ∨ (k < 0 ∧ -(n : Int) ≤ k ∧ (k + n).toNat = j)

theorem list_item {A : Around} {s : Shared} {E : Value → Shared → Prop} {l : Addr} {us : List Value} {k : Int} {t : Tok} {j : Nat} {w : Value} {Q : Value → Shared → Prop} {e i : Expr} (hl : s.heap.IsList l us.toArray) (hj : at? us.length k j) (hx : us[j]? = some w) (hn : us.length ≤ sizeLine) (q : Q w s)
    (hs : ∀ o y, subscripted i false o y = operate [o, y] (getItem o y)) : wpAny (model C.prog C.w) A (subscriptTail e i (.ref l) (.int k t)) Q E s := by
  rw [sizeLine_eq] at hn
  have hlt : j < us.length := by rw [List.getElem?_eq_some_iff] at hx; exact hx.1
  refine tail_any (T := "list") (let ⟨o, ho, hc, _⟩ := hl; ⟨o, ho, hc⟩) slot_list_getitem.lookup ?_ (hs _ _)
  rcases hj with ⟨h0, hj⟩ | ⟨h0, h1, hj⟩
  · exact wpAny_getItem_list hl h0 (by omega) (by rw [hj]; simpa using hx) q
  · exact wpAny_getItem_list_neg hl h0 (by simpa using h1) (by omega) (by simp only [List.size_toArray]; rw [hj]; simpa using hx) q

theorem ev_itemL {e i : Expr} {pos : Pos} {xs : List V} {k : Int} {v : V} (j : Nat) (h₁ : Ev C d J T ρ e (.list xs)) (h₂ : Ev C d J T ρ i (.int k)) (hj : at? xs.length k j) (hx : xs[j]? = some v) (hn : xs.length ≤ sizeLine)
    (hs : ∀ o y, subscripted i false o y = operate [o, y] (getItem o y) := by intro _ _; with_unfolding_all rfl) : Ev C d J T ρ (.Subscript e i pos) v :=
  fun c A s Q E hJ kk b cn x q => Subscript_ (wpAny_mono (h₁.use hJ kk b cn x) (fun u₁ s₁ ⟨x₁, p₁, r₁⟩ => wpAny_mono (h₂.use hJ kk b cn x₁) (fun u₂ s₂ ⟨x₂, p₂, r₂⟩ => by
    obtain ⟨a, us, rfl, p, r⟩ := RV.mono p₂.vis r₁
    obtain ⟨t, rfl⟩ := r₂
    obtain ⟨w, hw, rw'⟩ := r.get j v hx
    rw [← r.len] at hj hn
    exact list_item (isList_of p) hj hw hn (q _ _ (p₁.trans p₂) rw') hs) fun _ _ e => e) fun _ _ e => e)
theorem ev_itemT {e i : Expr} {pos : Pos} {xs : List V} {k : Int} {v : V} (j : Nat) (h₁ : Ev C d J T ρ e (.tup xs)) (h₂ : Ev C d J T ρ i (.int k)) (hj : 0 ≤ k ∧ k.toNat = j) (hx : xs[j]? = some v) (hn : xs.length ≤ sizeLine)
    (hs : ∀ o y, subscripted i false o y = operate [o, y] (getItem o y) := by intro _ _; with_unfolding_all rfl) : Ev C d J T ρ (.Subscript e i pos) v :=
  fun c A s Q E hJ kk b cn x q => Subscript_ (wpAny_mono (h₁.use hJ kk b cn x) (fun u₁ s₁ ⟨x₁, p₁, r₁⟩ => wpAny_mono (h₂.use hJ kk b cn x₁) (fun u₂ s₂ ⟨x₂, p₂, r₂⟩ => by
    obtain ⟨a, us, rfl, p, r⟩ := RV.mono p₂.vis r₁
    obtain ⟨t, rfl⟩ := r₂
    obtain ⟨w, hw, rw'⟩ := r.get j v hx
    have hlt : j < us.length := by rw [List.getElem?_eq_some_iff] at hw; exact hw.1
    rw [sizeLine_eq] at hn
    have hl := r.len
    have h1 : k = (j : Int) := by omega
    subst h1
    refine item_tupleT (j := j) (isTup_of p) (by omega) (by omega) ?_ hw (q _ _ (p₁.trans p₂) rw') (hs _ _)
    unfold seqIndex?
    simp
    omega) fun _ _ e => e) fun _ _ e => e)
/-- of a list that the frame fills -/
theorem St.mlist {c : Cx} {s : Shared} (x : St c ρ s) {y : Str} {xs : List V} (hy : ρ.lookup y = some (.mut xs) ∨ ρ.lookup y = some (.rd xs)) : ∃ a us, Nm c s.heap y (.ref a) ∧ s.heap.PlainList a (List.toArray us) ∧ RVs (c.vis s.heap) xs us := by
  rcases hy with hy | hy
  · obtain ⟨u, n, a, us, rfl, _, p, r⟩ := x.vars y _ hy
    exact ⟨a, us, n, p, r⟩
  · obtain ⟨u, n, a, us, rfl, _, p, r⟩ := x.vars y _ hy
    exact ⟨a, us, n, p, r⟩
theorem ev_itemM {y : Str} {p : Pos} {i : Expr} {pos : Pos} {xs : List V} {k : Int} {v : V} (j : Nat) (hy : ρ.lookup y = some (.mut xs) ∨ ρ.lookup y = some (.rd xs)) (h₂ : Ev C d J T ρ i (.int k)) (hj : at? xs.length k j) (hx : xs[j]? = some v) (hn : xs.length ≤ sizeLine)
    (hd : ((y == ("__debug__" : Str)) || (y == ("__classdict__" : Str))) = false := by decide)
    (hs : ∀ o y, subscripted i false o y = operate [o, y] (getItem o y) := by intro _ _; with_unfolding_all rfl) : Ev C d J T ρ (.Subscript (.Name y p) i pos) v :=
  fun c A s Q E hJ kk b cn x q => by
    obtain ⟨a, us, n, p, r⟩ := x.mlist hy
    refine Subscript_ (eval_nm kk n ?_ hd)
    refine wpAny_mono (h₂.use hJ kk b cn x) (fun u₂ s₂ ⟨x₂, p₂, r₂⟩ => ?_) fun _ _ e => e
    obtain ⟨t, rfl⟩ := r₂
    obtain ⟨w, hw, rw'⟩ := r.get j v hx
    rw [← r.len] at hj hn
    exact list_item (isL_of (plain_keeps p₂.le p)) hj hw hn (q _ _ p₂ (RV.mono p₂.vis rw')) hs

theorem ev_itemS {e i : Expr} {pos : Pos} {l : List Nat} {k : Int} {a : Nat} (j : Nat) (h₁ : Ev C d J T ρ e (.str l)) (h₂ : Ev C d J T ρ i (.int k)) (hj : 0 ≤ k ∧ k.toNat = j) (hx : l[j]? = some a) (hn : l.length ≤ sizeLine)
    (hs : ∀ o y, subscripted i false o y = operate [o, y] (getItem o y) := by intro _ _; with_unfolding_all rfl) : Ev C d J T ρ (.Subscript e i pos) (.str [a]) :=
  fun c A s Q E hJ kk b cn x q => Subscript_ (wpAny_mono (h₁.use hJ kk b cn x) (fun u₁ s₁ ⟨x₁, p₁, r₁⟩ => wpAny_mono (h₂.use hJ kk b cn x₁) (fun u₂ s₂ ⟨x₂, p₂, r₂⟩ => by
    obtain ⟨t', rfl⟩ := r₁
    obtain ⟨t, rfl⟩ := r₂
    have hlt : j < l.length := by rw [List.getElem?_eq_some_iff] at hx; exact hx.1
    rw [sizeLine_eq] at hn
    have h1 : k = (j : Int) := by omega
    subst h1
    refine tail_any (T := "str") (typeIs_str _ _ _) PySem.F.slot_str_getitem.lookup ?_ (hs _ _)
    refine P.getItem_str (c := a) ?_ ?_ ?_
    · rw [Bool.or_eq_false_iff]; exact ⟨decide_eq_false (by omega), decide_eq_false (by omega)⟩
    · have : seqIndex? (j : Int) (S l).length = some j := by
        unfold seqIndex?
        rw [S_len]
        simp
        omega
      rw [this]
      show (S l).cps[j]? = some a
      simpa [S] using hx
    · exact q _ _ ((p₁.trans p₂).trans (x₂.stok _)) ⟨_, rfl⟩) fun _ _ e => e) fun _ _ e => e)

theorem eval_slice {A : Around} {E : Value → Shared → Prop} {c : Cx} {s : Shared} {lo hi st : Option Expr} {pos : Pos} {a b k : Option Int} {Q : Value → Shared → Prop} (h₁ : EvP C d J T ρ lo a) (h₂ : EvP C d J T ρ hi b) (h₃ : EvP C d J T ρ st k)
    (hJ : c.J = J) (kk : c.Ok T) (bs : C.Base (c.vis c.h₀)) (cn : Cnd A d) (x : St c ρ s)
    (q : ∀ s' vl vu vs, Stp c s s' → IsPart vl a → IsPart vu b → IsPart vs k → Q (.ref s'.heap.objs.size) { s' with heap := s'.heap.push { cls := .type "slice", data := .fields #[vl, vu, vs] } }) :
    wpAny (model C.prog C.w) A (eval (.Slice lo hi st pos) c.env) Q E s :=
  wpAny_Slice (wpAny_mono (h₁.use hJ kk bs cn x) (fun vl s₁ ⟨x₁, p₁, r₁⟩ => wpAny_mono (h₂.use hJ kk bs cn x₁) (fun vu s₂ ⟨x₂, p₂, r₂⟩ => wpAny_mono (h₃.use hJ kk bs cn x₂) (fun vs s₃ ⟨_, p₃, r₃⟩ =>
    q s₃ vl vu vs ((p₁.trans p₂).trans p₃) r₁ r₂ r₃) fun _ _ e => e) fun _ _ e => e) fun _ _ e => e)

theorem part_of {v : Value} {k : Option Int} (h : IsPart v k) : ∃ l : Option (Int × Tok), v = partValue l ∧ l.map (·.1) = k := by
  cases h with
  | none => exact ⟨none, rfl, rfl⟩
  | int i t => exact ⟨some (i, t), rfl, rfl⟩
theorem indices_bounds (lo hi : Option Int) (st : Option Int) (n : Nat) : strSliceIndices lo hi (st.getD 1) n = sliceRange (sliceBounds lo hi st n).1 (sliceBounds lo hi st n).2.1 (sliceBounds lo hi st n).2.2 := rfl

theorem pick_len {α : Type} (lo hi : Option Int) (xs : List α) : (pick lo hi none xs).length ≤ xs.length := by
  rw [pick_cut]; unfold cut; simp only [List.length_take, List.length_drop]; omega
theorem pick_all {α : Type} {lo hi : Option Int} {xs : List α} (h : (strSliceIndices lo hi 1 xs.length).length = xs.length) : pick lo hi none xs = xs := by
  have e : (strSliceIndices lo hi 1 xs.length) = (List.range (hi.elim xs.length (clipAt xs.length) - lo.elim 0 (clipAt xs.length))).map (lo.elim 0 (clipAt xs.length) + ·) := by
    rw [show (1 : Int) = (none : Option Int).getD 1 from rfl, indices_bounds, sliceBounds_plain]
    simp only [sliceRange_one]
  rw [e, List.length_map, List.length_range] at h
  rw [pick_cut]; unfold cut
  have hle : hi.elim xs.length (clipAt xs.length) ≤ xs.length := by
    cases hi with
    | none => exact Nat.le_refl _
    | some i => show clipAt _ _ ≤ _; have := clipAt_cast xs.length i; omega
  have h0 : lo.elim 0 (clipAt xs.length) = 0 ∨ xs.length = 0 := by omega
  rcases h0 with h0 | h0
  · rw [h0] at h ⊢; rw [List.drop_zero, List.take_of_length_le (by omega)]
  · have : xs = [] := List.length_eq_zero_iff.mp h0
    subst this; simp

theorem ev_sliceS {e : Expr} {lo hi : Option Expr} {p pos : Pos} {l : List Nat} {a b : Option Int} (h : Ev C d J T ρ e (.str l)) (h₁ : EvP C d J T ρ lo a) (h₂ : EvP C d J T ρ hi b) (hn : l.length ≤ sizeLine) :
    Ev C d J T ρ (.Subscript e (.Slice lo hi none p) pos) (.str (cut a b l)) :=
  fun c A s Q E hJ kk bs cn x q => Subscript_ (wpAny_mono (h.use hJ kk bs cn x) (fun u s₁ ⟨x₁, p₁, r₁⟩ => eval_slice h₁ h₂ evp_none hJ kk bs cn x₁ fun s₂ vl vu vs p₂ i₁ i₂ i₃ => by
    obtain ⟨t, rfl⟩ := r₁
    obtain ⟨l₁, rfl, e₁⟩ := part_of i₁
    obtain ⟨l₂, rfl, e₂⟩ := part_of i₂
    cases i₃
    have x₂ := x₁.step p₂
    refine tail_any (T := "str") (typeIs_str _ _ _) PySem.F.slot_str_getitem.lookup ?_ rfl
    refine wpAny_getItem_str_slice (l := l₁) (u := l₂) (st := none) ⟨_, Heap.get?_push_size _ rfl, rfl, rfl⟩ rfl ?_
    have hp : ((slicePicked (S l) l₁ l₂ none).filterMap ((S l).cps[·]?)) = pick a b none l := by
      unfold slicePicked pick
      rw [e₁, e₂]
      rw [show ((none : Option (Int × Tok)).map (·.1)).getD 1 = (none : Option Int).getD 1 from rfl, indices_bounds, S_len]
      congr 1
      funext i
      simp [S]
    have hl : (pick a b none l).length ≤ l.length := pick_len a b l
    simp only [← pick_cut] at q
    unfold sliceMade
    split
    · rename_i hc
      rw [Bool.and_eq_true, beq_iff_eq, beq_iff_eq] at hc
      have hc2 := hc.2
      unfold slicePicked at hc2
      rw [e₁, e₂, S_len] at hc2
      refine q _ _ ((p₁.trans p₂).trans (x₂.spush _ _)) ?_
      rw [pick_all hc2]
      exact ⟨_, rfl⟩
    · rw [hp]
      refine ⟨?_, q _ _ ((p₁.trans p₂).trans (x₂.spush _ _)) ⟨_, rfl⟩⟩
      show (S _).length ≤ _
      rw [S_len]; omega) fun _ _ e => e)
theorem ev_sliceL {e : Expr} {lo hi st : Option Expr} {p pos : Pos} {xs : List V} {a b k : Option Int} (h : Ev C d J T ρ e (.list xs)) (h₁ : EvP C d J T ρ lo a) (h₂ : EvP C d J T ρ hi b) (h₃ : EvP C d J T ρ st k) (h0 : k ≠ some 0) (hn : xs.length ≤ sizeLine)
    (hs : ∀ o y, ∃ ops, subscripted (.Slice lo hi st p) false o y = operate ops (getItem o y) := by intro _ _; exact ⟨_, rfl⟩) :
    Ev C d J T ρ (.Subscript e (.Slice lo hi st p) pos) (.list (pick a b k xs)) :=
  fun c A s Q E hJ kk bs cn x q => Subscript_ (wpAny_mono (h.use hJ kk bs cn x) (fun u s₁ ⟨x₁, p₁, r₁⟩ => eval_slice h₁ h₂ h₃ hJ kk bs cn x₁ fun s₂ vl vu vs p₂ i₁ i₂ i₃ => by
    obtain ⟨l, us, rfl, pl, r⟩ := RV.mono p₂.vis r₁
    have x₂ := x₁.step p₂
    have hl := r.len
    have x₃ : St c ρ { s₂ with heap := s₂.heap.push { cls := .type "slice", data := .fields #[vl, vu, vs] } } := x₂.step (x₂.spush _ _)
    have il := isList_of (il_keeps (x₂.spush ({ cls := .type "slice", data := .fields #[vl, vu, vs] } : Obj) s₂.toks).vis pl)
    obtain ⟨ops, ho⟩ := hs (.ref l) (.ref s₂.heap.objs.size)
    refine tail_any (T := "list") (let ⟨o, ho, hc, _⟩ := il; ⟨o, ho, hc⟩) slot_list_getitem.lookup ?_ ho
    refine wpAny_getItem_list_slice il ⟨_, Heap.get?_push_size _ rfl, rfl, rfl⟩ i₁ i₂ i₃ h0 ?_ (by simp only [List.size_toArray]; omega)
    rw [slicePick_pick]
    refine q _ _ (((p₁.trans p₂).trans (x₂.spush _ _)).trans (x₃.spush _ _)) ⟨_, _, rfl, ⟨_, x₃.see _ rfl, rfl, 0, rfl⟩, RVs.mono ?_ (r.pick a b k)⟩
    exact ((x₂.spush _ s₂.toks).trans (x₃.spush _ s₂.toks)).vis) fun _ _ e => e)
end
end Mine

end
section
open PySem PySem.W PySem.Spec PySem.Calls PyProof.Rows
open PySem.Builtin PySem.Builtin.Str
set_option Elab.async false
set_option maxRecDepth 100000
namespace Mine
section
variable {C : Cfg} {d : Nat} {J : Js} {T : Scope} {ρ : Rho}

/-- the arguments of a call, the items of a display -/
noncomputable abbrev EvA (C : Cfg) (d : Nat) (J : Js) (T : Scope) (ρ : Rho) (pos : Pos) (es : List Expr) (vs : List V) : Prop := Run C d J T ρ (fun env => spliced (backTo pos (starEach es env))) (fun h us => RVs h vs us)
theorem eva_nil {pos : Pos} : EvA C d J T ρ pos [] [] := fun _ _ _ _ _ _ _ _ _ x q => wpAny_items_nil (q _ _ x.sid rfl)
theorem eva_cons {pos : Pos} {e : Expr} {es : List Expr} {v : V} {vs : List V} (h₁ : Ev C d J T ρ e v) (h₂ : EvA C d J T ρ pos es vs) (he : ∀ env, starEach (e :: es) env = (false, eval e env) :: starEach es env := by intro _; with_unfolding_all rfl) :
    EvA C d J T ρ pos (e :: es) (v :: vs) :=
  fun c A _ _ E hJ k bs cn x q => wpAny_items_cons (wpAny_mono (h₁.use hJ k bs cn x) (fun _ _ ⟨x₁, p₁, r₁⟩ => wpAny_mono (h₂.use hJ k bs cn x₁) (fun _ _ ⟨_, p₂, r₂⟩ =>
    q _ _ (p₁.trans p₂) ⟨_, _, rfl, RV.mono p₂.vis r₁, r₂⟩) fun _ _ e => e) fun _ _ e => e) (he _)
theorem eva_len {h : Heap} {vs : List V} {us : List Value} (r : RVs h vs us) (hn : vs.length ≤ sizeLine) : us.length ≤ sizeLine := by rw [r.len]; exact hn
theorem ev_list {pos : Pos} {es : List Expr} {vs : List V} (h : EvA C d J T ρ pos es vs) (hn : vs.length ≤ sizeLine) : Ev C d J T ρ (.List es pos) (.list vs) :=
  fun c A _ _ E hJ k bs cn x q => wpAny_List (wpAny_mono (h.use hJ k bs cn x) (fun us s₁ ⟨x₁, p₁, r₁⟩ =>
    ⟨eva_len r₁ hn, q _ _ (p₁.trans (x₁.spush _ _)) ⟨_, us, rfl, ⟨_, x₁.see _ rfl, rfl, 0, rfl⟩, RVs.mono (x₁.spush _ s₁.toks).vis r₁⟩⟩) fun _ _ e => e)
theorem ev_tup {pos : Pos} {k : Nat} {es : List Expr} {vs : List V} (h : EvA C d J T ρ pos es vs) (hn : vs.length ≤ sizeLine) : Ev C d J T ρ (.Tuple es k pos) (.tup vs) :=
  fun c A _ _ E hJ k bs cn x q => wpAny_Tuple (wpAny_mono (h.use hJ k bs cn x) (fun us s₁ ⟨x₁, p₁, r₁⟩ =>
    ⟨eva_len r₁ hn, q _ _ (p₁.trans (x₁.spush _ _)) ⟨_, us, rfl, ⟨_, x₁.see _ rfl, rfl, 0, rfl⟩, RVs.mono (x₁.spush _ s₁.toks).vis r₁⟩⟩) fun _ _ e => e)

theorem bin_addL {xs ys : List V} (hn : xs.length + ys.length ≤ sizeLine) : Bin C d .Add (.list xs) (.list ys) (.list (xs ++ ys)) := fun c T ρ A s u w Q E k bs cn x r r' q => by
  obtain ⟨a, us, rfl, ⟨⟨cls, dd, data, sl⟩, p, hc, n, hd⟩, rs⟩ := r
  obtain ⟨b, ws, rfl, ⟨⟨cls2, dd2, data2, sl2⟩, p', hc2, n', hd2⟩, rs'⟩ := r'
  simp only at hc hd hc2 hd2
  subst hc hd hc2 hd2
  have h1 := of_hideAll _ p
  have h2 := of_hideAll _ p'
  refine concat_meets ⟨_, h1, rfl⟩ ⟨_, h2, rfl⟩ noFill_list_add seq_list_add PySem.F.slot_list_add PySem.F.entry_list_add (PySem.F.args_list_add_2 _ _)
    (list_addW a b us.toArray ws.toArray n n' dd dd2 sl sl2 (by simp only [List.size_toArray, rs.len, rs'.len]; exact hn)) ⟨h1, h2, ?_⟩
  have e : us.toArray ++ ws.toArray = (us ++ ws).toArray := by simp
  rw [e]
  exact q _ _ (x.spush _ _) ⟨_, _, rfl, ⟨_, x.see _ rfl, rfl, 0, rfl⟩, RVs.mono (x.spush _ s.toks).vis (rs.append rs')⟩

/-- a def of the text's, called -/
noncomputable def Fn (C : Cfg) (d : Nat) (J : Js) (f : Addr) (as : List V) (v : V) : Prop :=
  ∀ (mu : List Addr) (A : Around) (s : Shared) (us : List Value) (Q : Value → Shared → Prop) (E : Value → Shared → Prop), C.Base (hideAll s.heap mu) → J s.gens s.os → (∀ a ∈ mu, ∃ o, s.heap.get? a = some o) → Cnd A d → RVs (hideAll s.heap mu) as us →
    (∀ u s', HLe s.heap s'.heap → J s'.gens s'.os → RV (hideAll s'.heap mu) v u → Q u s') → wpAny (model C.prog C.w) A (call (.ref f) us) Q E s
theorem Fn.mono {d' : Nat} {f : Addr} {as : List V} {v : V} (h : Fn C d J f as v) (hd : d ≤ d') : Fn C d' J f as v :=
  fun mu A s us Q E b j l cn r q => h mu A s us Q E b j l (cn.mono hd) r q

theorem ev_call {p pos : Pos} {y : Str} {es : List Expr} {e : Expr} {f : Addr} {r : FnRec} {as : List V} {v : V} (hf : Ev C d J T ρ (.Name y p) (.const (.ref f))) (hr : C.fn f = some r) (ha : EvA C d J T ρ pos (e :: es) as) (h : Fn C d J f as v)
    (he : ∀ env, starEach (e :: es) env = (false, eval e env) :: starEach es env := by intro _; with_unfolding_all rfl) : Ev C d J T ρ (.Call (.Name y p) (e :: es) [] pos) v :=
  fun c A s Q E hJ k bs cn x q => by
    refine wpAny_Call_Name_kw (wpAny_mono (hf.use hJ k bs cn x) (fun u s₁ ⟨x₁, p₁, r₁⟩ => ?_) fun _ _ e => e)
    have r₁ : u = .ref f := r₁
    subst r₁
    obtain ⟨o, doc, pm, an, cdv, ct, ho, hd, _⟩ := ((bs.now x₁.keep).fns f r hr)
    rw [he]
    show wpAny _ _ (callWith pos (.ref f) [] ((false, eval e c.env) :: backTo pos (starEach es c.env)) []) _ _ _
    refine callWith_function (o := o) (fd := fnOf r.name r.name r.params r.body r.scope .none .none doc pm an cdv ct) (evalArgs_plain ?_)
    have ha' := ha.use (E := E) hJ k bs cn x₁
    simp only [he] at ha'
    refine wpAny_mono ha' (fun us s₂ ⟨x₂, p₂, r₂⟩ => ⟨⟨p₂.le _ _ ho, hd⟩, ?_⟩) fun _ _ e => e
    subst hJ
    exact h c.mu A s₂ _ Q E (bs.keeps (vis_keeps x₂.keep)) x₂.j x₂.low cn r₂ fun u s' hle j rv => q u s' ((p₁.trans p₂).trans ⟨hle, j⟩) rv
end
end Mine

end
section
open PySem PySem.W PySem.Spec PySem.Calls PyProof.Rows
open PySem.Builtin PySem.Builtin.Str
set_option Elab.async false
set_option maxRecDepth 100000
namespace Mine

inductive Out where
  | next (ρ : Rho)
  | ret (v : V)
  | brk (ρ : Rho)

/-- the same frame, more of its own hidden -/
structure Grow (T : Scope) (c c' : Cx) : Prop where
  eq : ∃ n, (∀ a ∈ n, a ∉ c.mu) ∧ c' = { c with ow := n ++ c.ow, mu := n ++ c.mu }
  ok : c'.Ok T
theorem Grow.refl {T : Scope} {c : Cx} (k : c.Ok T) : Grow T c c := ⟨⟨[], ⟨fun _ h => absurd h List.not_mem_nil, rfl⟩⟩, k⟩
theorem Grow.trans {T : Scope} {c c' c'' : Cx} (x : Grow T c c') (y : Grow T c' c'') : Grow T c c'' := by
  obtain ⟨⟨n, hn, e⟩, _⟩ := x
  obtain ⟨⟨m, hm, e'⟩, k⟩ := y
  subst e; subst e'
  refine ⟨⟨m ++ n, fun a ha => ?_, by simp⟩, k⟩
  rcases List.mem_append.mp ha with ha | ha
  · exact fun q => hm a ha (List.mem_append_right _ q)
  · exact hn a ha
theorem Grow.base {T : Scope} {c c' : Cx} (x : Grow T c c') {C : Cfg} (b : C.Base (c.vis c.h₀)) : C.Base (c'.vis c'.h₀) := by
  obtain ⟨⟨n, _, e⟩, k⟩ := x
  subst e
  refine b.keeps fun a o e => hideAll_get _ (of_hideAll _ e) fun q => ?_
  rcases List.mem_append.mp q with q | q
  · have := k.off a (List.mem_append_left _ q)
    have h2 : c.h₀.get? a = some o := of_hideAll _ e
    rw [show ({ c with ow := n ++ c.ow, mu := n ++ c.mu } : Cx).h₀ = c.h₀ from rfl, h2] at this
    cases this
  · have e' : (hideAll c.h₀ c.mu).get? a = some o := e
    rw [hideAll_none _ q] at e'; cases e'
theorem Grow.off {T : Scope} {c c' : Cx} {h : Heap} (k : c.Ok T) (hk : HLe c.h₀ h) (x : Grow T (c.on h) c') : ∃ c'', Grow T c c'' ∧ c''.mu = c'.mu ∧ c''.ow = c'.ow ∧ ∀ ρ s, St c' ρ s → St c'' ρ s := by
  obtain ⟨⟨n, hn, e⟩, k'⟩ := x
  subst e
  refine ⟨{ c with ow := n ++ c.ow, mu := n ++ c.mu }, ⟨⟨n, hn, rfl⟩, ?_⟩, rfl, rfl, fun ρ s x => ⟨x.j, (on_le k hk).trans x.keep, x.ns, x.cells, x.vars, x.mutd, x.low⟩⟩
  have hoff : ∀ a ∈ n ++ c.ow, c.h₀.get? a = none := by
    intro a ha
    cases q : c.h₀.get? a with
    | none => rfl
    | some o =>
      have e1 : (c.on h).h₀.get? a = some o := on_le k hk a o q
      have e2 : (c.on h).h₀.get? a = none := k'.off a ha
      rw [e1] at e2
      cases e2
  exact { scope := k'.scope, kind := k'.kind, glob := k'.glob, blt := k'.blt, loc := k'.loc, sub := k'.sub, off := hoff, cell := fun y hy => (by
    obtain ⟨a, e, h1 | ⟨h1, _⟩⟩ := k'.cell y hy
    · exact ⟨a, e, .inl h1⟩
    · obtain ⟨b, e', h2⟩ := k.cell y hy
      have e'' : c.env.cells.lookup y = some a := e
      rw [e''] at e'; cases e'
      rcases h2 with h2 | ⟨_, h2⟩
      · exact ⟨a, e, .inl (List.mem_append_right _ h2)⟩
      · exact ⟨a, e, .inr ⟨h1, h2⟩⟩), inj := k'.inj, free := k.free }

noncomputable def Fin (T : Scope) (c : Cx) (Q : Flow → Shared → Prop) : Out → Prop
  | .next ρ => ∀ c' s', Grow T c c' → St c' ρ s' → Q .next s'
  | .brk ρ => ∀ c' s', Grow T c c' → St c' ρ s' → Q .brk s'
  | .ret v => ∀ mu' s' u, (∀ a ∈ c.mu, a ∈ c.ow ∨ a ∈ mu') → HLe c.h₀ s'.heap → c.J s'.gens s'.os → RV (hideAll s'.heap mu') v u → Q (.ret u) s'
theorem Fin.grow {T : Scope} {c c' : Cx} {Q : Flow → Shared → Prop} {o : Out} (g : Grow T c c') (f : Fin T c Q o) : Fin T c' Q o := by
  cases o with
  | next ρ => exact fun c'' s' g' x => f c'' s' (g.trans g') x
  | brk ρ => exact fun c'' s' g' x => f c'' s' (g.trans g') x
  | ret v =>
    obtain ⟨⟨n, hn, e⟩, _⟩ := g
    subst e
    exact fun mu' s' u hm hk j r => f mu' s' u (fun a ha => (hm a (List.mem_append_right _ ha)).imp (fun q => (List.mem_append.mp q).resolve_left fun q => hn a q ha) id) hk j r
theorem Fin.on {T : Scope} {c : Cx} {Q : Flow → Shared → Prop} {o : Out} {h : Heap} (k : c.Ok T) (hk : HLe c.h₀ h) (f : Fin T c Q o) : Fin T (c.on h) Q o := by
  cases o with
  | next ρ => exact fun c' s' g x => let ⟨c'', g', _, _, y⟩ := g.off k hk; f c'' s' g' (y _ _ x)
  | brk ρ => exact fun c' s' g x => let ⟨c'', g', _, _, y⟩ := g.off k hk; f c'' s' g' (y _ _ x)
  | ret v => exact fun mu' s' u hm hk' j r => f mu' s' u hm ((on_le k hk).trans hk') j r
theorem Fin.imp {T : Scope} {c : Cx} {Q Q' : Flow → Shared → Prop} {o : Out} (h : ∀ f s, Q f s → Q' f s) (f : Fin T c Q o) : Fin T c Q' o := by
  cases o with
  | next ρ => exact fun c' s' g x => h _ _ (f c' s' g x)
  | brk ρ => exact fun c' s' g x => h _ _ (f c' s' g x)
  | ret v => exact fun mu' s' u hm hk j r => h _ _ (f mu' s' u hm hk j r)

/-- statements, and one statement -/
noncomputable def Ex (C : Cfg) (d : Nat) (J : Js) (T : Scope) (ρ : Rho) (sts : List Stmt) (o : Out) : Prop :=
  ∀ (c : Cx) (A : Around) (s : Shared) (Q : Flow → Shared → Prop) (E : Value → Shared → Prop), c.J = J → (c.Ok T ∧ c.own = true) → C.Base (c.vis c.h₀) → Cnd A d → St c ρ s → Fin T c Q o → wpAny (model C.prog C.w) A (execs sts c.env) Q E s
noncomputable def Ex1 (C : Cfg) (d : Nat) (J : Js) (T : Scope) (ρ : Rho) (st : Stmt) (o : Out) : Prop :=
  ∀ (c : Cx) (A : Around) (s : Shared) (Q : Flow → Shared → Prop) (E : Value → Shared → Prop), c.J = J → (c.Ok T ∧ c.own = true) → C.Base (c.vis c.h₀) → Cnd A d → St c ρ s → Fin T c Q o → wpAny (model C.prog C.w) A (exec st c.env) Q E s

section
variable {C : Cfg} {d : Nat} {J : Js} {T : Scope} {ρ : Rho}
theorem ex_nil : Ex C d J T ρ [] (.next ρ) := fun c A s Q E hJ k b cn x f => wpAny_execs_nil (f c s (Grow.refl k.1) x)
theorem ex_cons {st : Stmt} {rest : List Stmt} {ρ₁ : Rho} {o : Out} (h₁ : Ex1 C d J T ρ st (.next ρ₁)) (h₂ : Ex C d J T ρ₁ rest o) : Ex C d J T ρ (st :: rest) o :=
  fun c A s Q E hJ k b cn x f => wpAny_execs_cons (h₁ c A s _ E hJ k b cn x fun c' s' g x' => by
    have e : c'.env = c.env := by obtain ⟨⟨n, _, e⟩, _⟩ := g; subst e; rfl
    have e' : c'.J = J := by obtain ⟨⟨n, _, e⟩, _⟩ := g; subst e; exact hJ
    have e2 : c'.own = true := by obtain ⟨⟨n, _, e⟩, _⟩ := g; subst e; exact k.2
    rw [← e]
    exact h₂ c' A s' Q E e' ⟨g.ok, e2⟩ (g.base b) cn x' (f.grow g))
theorem ex_ret {st : Stmt} {rest : List Stmt} {v : V} (h₁ : Ex1 C d J T ρ st (.ret v)) : Ex C d J T ρ (st :: rest) (.ret v) :=
  fun c A s _ E hJ k b cn x f => wpAny_execs_cons (h₁ c A s _ E hJ k b cn x f)
theorem ex_brk {st : Stmt} {rest : List Stmt} {ρ₁ : Rho} (h₁ : Ex1 C d J T ρ st (.brk ρ₁)) : Ex C d J T ρ (st :: rest) (.brk ρ₁) :=
  fun c A s _ E hJ k b cn x f => wpAny_execs_cons (h₁ c A s _ E hJ k b cn x f)

theorem st_return {e : Expr} {pos : Pos} {v : V} (h : Ev C d J T ρ e v) : Ex1 C d J T ρ (.Return (some e) pos) (.ret v) :=
  fun c A s _ E hJ k b cn x f => wpAny_Return_some (wpAny_mono (h.use hJ k.1 b cn x) (fun u s' ⟨x', p, r⟩ => f c.mu s' u (fun _ h => .inr h) x'.keep p.j r) fun _ _ e => e)
theorem st_assign {y : Str} {p pos : Pos} {e : Expr} {v : V} (h : Ev C d J T ρ e v) (hy : T.names.lookup y = some .local ∨ T.names.lookup y = some .cell) (hna : noApp ρ y = true)
    (hs : ∀ env, swapsWith e (some (.Name y p)) pos.line env = pure false := by intro _; with_unfolding_all rfl) : Ex1 C d J T ρ (.Assign [.Name y p] e pos) (.next (put ρ y (.val v))) :=
  fun c A s _ E hJ k b cn x f => wpAny_Assign_Name (wpAny_mono (h.use hJ k.1 b cn x) (fun _ s' ⟨x', _, r⟩ => st_storeV k.1 x' (fun _ => k.2) hy hna r fun _ _ x'' _ => f c _ (Grow.refl k.1) x'') fun _ _ e => e) (hs _)
theorem st_if {t : Expr} {body orelse : List Stmt} {pos : Pos} {r : Bool} {o : Out} (h : Tst C d J T ρ t r) (h₁ : r = true → Ex C d J T ρ body o) (h₂ : r = false → Ex C d J T ρ orelse o) : Ex1 C d J T ρ (.If t body orelse pos) o :=
  fun c A s Q E hJ k b cn x f => wpAny_If (wpAny_mono (h.use hJ k.1 b cn x) (fun a s' ⟨x', _, e⟩ => by
    subst e
    cases a with
    | true => exact h₁ rfl c A s' Q E hJ k b cn x' f
    | false => exact h₂ rfl c A s' Q E hJ k b cn x' f) fun _ _ e => e)
theorem st_break {pos : Pos} : Ex1 C d J T ρ (.Break pos) (.brk ρ) := fun c A s _ E _ k _ _ x f => wpAny_Break (f c s (Grow.refl k.1) x)
theorem st_assert {t : Expr} {m : Option Expr} {pos : Pos} (h : Tst C d J T ρ t true) : Ex1 C d J T ρ (.Assert t m pos) (.next ρ) :=
  fun c A s _ E hJ k b cn x f => wpAny_Assert_holds (wpAny_mono (h.use hJ k.1 b cn x) (fun a s' ⟨x', _, e⟩ => ⟨e, f c s' (Grow.refl k.1) x'⟩) fun _ _ e => e)
end

-- the call of a def
theorem cellsFrom_some : ∀ (names : List (Str × NameKind)) (n : Nat) (acc : List (Str × Addr)) (x : Str), ((x, NameKind.cell) ∈ names ∨ (acc.lookup x).isSome = true) → ((cellsFrom n names acc).lookup x).isSome = true
  | [], _, _, _, h => by
    rcases h with h | h
    · cases h
    · exact h
  | (name, kind) :: r, n, acc, x, h => by
    unfold cellsFrom
    split
    · rename_i hk
      refine cellsFrom_some r _ _ x ?_
      rcases h with h | h
      · rcases List.mem_cons.mp h with e | h
        · cases e; exact .inr (by simp [List.lookup])
        · exact .inl h
      · refine .inr ?_
        by_cases e : x = name
        · subst e; simp [List.lookup]
        · have : (x == name) = false := beq_eq_false_iff_ne.mpr e
          simp only [List.lookup, this]; exact h
    · rename_i hk
      refine cellsFrom_some r _ _ x ?_
      rcases h with h | h
      · rcases List.mem_cons.mp h with e | h
        · cases e; simp at hk
        · exact .inl h
      · exact .inr h
theorem bindL_all {kindOf : Str → Option NameKind} : ∀ (binds : List (Str × Value)) (m : Str → Option Value), (∀ p ∈ binds, kindOf p.1 = some .local) → bindL kindOf binds m = fun y => (binds.reverse.lookup y).or (m y)
  | [], m, _ => by funext y; simp [bindL]
  | (n, v) :: r, m, h => by
    unfold bindL
    rw [if_pos (h (n, v) List.mem_cons_self), bindL_all r _ fun p hp => h p (List.mem_cons_of_mem _ hp)]
    funext y
    simp only [List.reverse_cons, List.lookup_append, Option.or_assoc]
    congr 1
    by_cases e : y = n
    · subst e; simp [List.lookup]
    · have : (y == n) = false := beq_eq_false_iff_ne.mpr e
      simp [List.lookup, this, e]
theorem zip_lookup {h : Heap} : ∀ {names : List Str} {as : List V} {us : List Value}, RVs h as us → names.Nodup → ∀ {x : Str} {sl : Slot}, (names.zip (as.map Slot.val)).lookup x = some sl →
    ∃ u v, sl = .val v ∧ (names.zip us).reverse.lookup x = some u ∧ RV h v u ∧ x ∈ names
  | [], _, _, _, _, x, sl, e => by simp at e
  | n :: names, [], us, r, _, x, sl, e => by simp at e
  | n :: names, a :: as, _, ⟨u, w, eu, p, q⟩, hn, x, sl, e => by
    subst eu
    rw [List.nodup_cons] at hn
    simp only [List.map_cons, List.zip_cons_cons, List.reverse_cons, List.lookup_append] at e ⊢
    by_cases hx : x = n
    · subst hx
      simp [List.lookup] at e
      subst e
      have : (names.zip w).reverse.lookup x = none := by
        rw [List.lookup_eq_none_iff]
        intro y hy
        have := List.of_mem_zip (List.mem_reverse.mp hy)
        refine bne_iff_ne.mpr ?_
        rintro rfl
        exact hn.1 this.1
      exact ⟨u, a, rfl, by rw [this]; simp [List.lookup], p, List.mem_cons_self⟩
    · have hb : (x == n) = false := beq_eq_false_iff_ne.mpr hx
      simp only [List.lookup, hb] at e
      obtain ⟨u', v, e1, e2, e3, e4⟩ := zip_lookup q hn.2 e
      exact ⟨u', v, e1, by rw [e2]; rfl, e3, List.mem_cons_of_mem _ e4⟩

theorem fn_of {C : Cfg} {d : Nat} {J : Js} {f : Addr} {r : FnRec} {as : List V} {v : V} (names : List Str) (hr : C.fn f = some r)
    (h : Ex C d J r.scope (names.zip (as.map Slot.val)) r.body (.ret v))
    (hb : ∀ us : List Value, us.length = as.length → ∀ doc pm an cdv ct, bindArgs (fnOf r.name r.name r.params r.body r.scope .none .none doc pm an cdv ct) ⟨us, []⟩ = pure (names.zip us))
    (hn : names.Nodup) (hloc : ∀ x ∈ names, r.scope.names.lookup x = some .local) (hfree : ∀ p ∈ r.scope.names, p.2 ≠ .free)
    (hco : r.scope.isCoroutine = false := by rfl) (hgen : r.scope.isGenerator = false := by rfl) (hk : r.scope.kind = .function := by rfl) : Fn C (d + 1) J f as v := by
  intro mu A s us Q E b j low cn rv q
  obtain ⟨o, doc, pm, an, cdv, ct, ho, hd, hcd⟩ := b.fns f r hr
  have ho' := of_hideAll _ ho
  have hlen := rv.len
  have hbase : C.Base s.heap := b.keeps fun _ _ e => of_hideAll _ e
  refine wpAny_call (codeAny_call_cells (fd := fnOf r.name r.name r.params r.body r.scope .none .none doc pm an cdv ct) (body := r.body) (binds := names.zip us) cn.lim ho' hd hbase.lim (hcd.keeps fun _ _ e => of_hideAll _ e) rfl (hb us hlen doc pm an cdv ct) rfl
    (fun x hx => .inl (hloc x.1 (List.of_mem_zip hx).1)) (fun s₁ X => ?_) hco hgen hk)
  generalize hL : s.heap.objs.size = L at X ⊢
  generalize hfd : fnOf r.name r.name r.params r.body r.scope .none .none doc pm an cdv ct = fd at X ⊢
  have hsc : fd.scope = r.scope := by rw [← hfd]
  -- the new frame
  let env := callEnvC fd L f
  have henv : env.scope = r.scope := by rw [← hsc]; rfl
  have hcells : ∀ x, r.scope.names.lookup x = some .cell → ∃ a, env.cells.lookup x = some a := by
    intro x hx
    have := cellsFrom_some r.scope.names (L + 1) [] x (.inl (mem_of_lookup hx))
    rw [← hsc] at this
    exact Option.isSome_iff_exists.mp this
  let ow := env.locals :: r.scope.names.filterMap (fun p => env.cells.lookup p.1)
  let c : Cx := { J := J, h₀ := s.heap, ow := ow, mu := ow ++ mu, env := env, own := true }
  have hfresh : ∀ a ∈ ow, L ≤ a := by
    intro a ha
    rcases List.mem_cons.mp ha with e | ha
    · rw [e]; exact Nat.le_refl L
    · obtain ⟨p, hp, e⟩ := List.mem_filterMap.mp ha
      have := X.above p.1 a (mem_of_lookup e)
      exact Nat.le_of_lt (show L < a from this)
  have hoff : ∀ a ∈ ow, s.heap.get? a = none := by
    intro a ha
    cases q' : s.heap.get? a with
    | none => rfl
    | some o' => have h8 := Heap.lt_size q'; have h9 := hfresh a ha; rw [hL] at h8; exact absurd h8 (Nat.not_lt.mpr h9)
  have ok : c.Ok r.scope := ⟨henv, hk, by show fd.globals = _; rw [← hfd], by show fd.builtins = _; rw [← hfd], List.mem_cons_self, fun a ha => List.mem_append_left _ ha, hoff,
    fun x hx => by
      obtain ⟨a, ea⟩ := hcells x hx
      exact ⟨a, ea, .inl (List.mem_cons_of_mem _ (List.mem_filterMap.mpr ⟨(x, .cell), mem_of_lookup hx, ea⟩))⟩,
    fun _ x y a _ _ e1 e2 => name_of_addr X.apart (mem_of_lookup e1) (mem_of_lookup e2),
    fun x hx => absurd rfl (hfree _ (mem_of_lookup hx))⟩
  have hkeep : HLe s.heap s₁.heap := X.toInCall.keep
  obtain ⟨h₁, tk, es⟩ := X.toInCall.same
  have hgens : s₁.gens = s.gens := by rw [es]
  have hos : s₁.os = s.os := by rw [es]
  have hvis : HLe (hideAll s.heap mu) (c.vis s₁.heap) := fun a o e => hideAll_get _ (hkeep _ _ (of_hideAll _ e)) fun q' => by
    rcases List.mem_append.mp q' with q' | q'
    · have := hoff a q'; rw [of_hideAll _ e] at this; cases this
    · rw [hideAll_none _ q'] at e; cases e
  have hm : bindL env.kindOf (names.zip us) (fun _ => none) = fun y => (names.zip us).reverse.lookup y := by
    rw [bindL_all _ _ fun p hp => by
      show env.scope.names.lookup p.1 = _
      rw [henv]; exact hloc p.1 (List.of_mem_zip hp).1]
    funext y; simp
  have hns : s₁.heap.Ns env.locals (fun y => (names.zip us).reverse.lookup y) := by rw [← hm]; exact X.toInCall.ns
  have x : St c (names.zip (as.map Slot.val)) s₁ := by
    refine ⟨by show J _ _; rw [hgens, hos]; exact j, hkeep, ⟨_, hns⟩, fun y a _ e => ⟨_, X.cell y a e⟩, fun y sl e => ?_, fun y z xs ys a e => ?_, fun a ha => ?_⟩
    · obtain ⟨u, v', e1, e2, e3, e4⟩ := zip_lookup rv hn e
      subst e1
      exact ⟨u, .inl ⟨by show env.scope.names.lookup y = _; rw [henv]; exact hloc y e4, _, hns, e2⟩, RV.mono hvis e3⟩
    · obtain ⟨u, v', e1, _⟩ := zip_lookup rv hn e
      cases e1
    · rcases List.mem_append.mp ha with ha | ha
      · rcases List.mem_cons.mp ha with e | ha
        · obtain ⟨o, _, _, e', _⟩ := hns
          exact ⟨o, e ▸ e'⟩
        · obtain ⟨p, hp, e⟩ := List.mem_filterMap.mp ha
          obtain ⟨o, e, _⟩ := X.cell _ _ e
          exact ⟨o, e⟩
      · obtain ⟨o, e⟩ := low a ha
        exact ⟨o, hkeep _ _ e⟩
  have hb₀ : C.Base (c.vis c.h₀) := b.keeps fun a o e => hideAll_get _ (of_hideAll _ e) fun q' => by
    rcases List.mem_append.mp q' with q' | q'
    · have := hoff a q'; rw [of_hideAll _ e] at this; cases this
    · rw [hideAll_none _ q'] at e; cases e
  refine h c (A.deeper env) s₁ _ _ rfl ⟨ok, rfl⟩ hb₀ cn.deeper x fun mu' s' u hmu hk' j' r' => ?_
  exact q u s' hk' j' (RV.mono (hide_more fun a ha => (hmu a (List.mem_append_right _ ha)).resolve_left fun q' => by obtain ⟨o, e⟩ := low a ha; rw [hoff a q'] at e; cases e) r')
end Mine

end
section
open PySem PySem.W PySem.Spec PySem.Calls PyProof.Rows
open PySem.Builtin PySem.Builtin.Str
set_option Elab.async false
set_option maxRecDepth 100000
namespace Mine

/-- one more address is hidden, not owned -/
noncomputable def Cx.hid (c : Cx) (I : Addr) : Cx := { c with mu := I :: c.mu }
theorem Cx.Ok.hid {c : Cx} {T : Scope} (k : c.Ok T) (I : Addr) : (c.hid I).Ok T :=
  { scope := k.scope, kind := k.kind, glob := k.glob, blt := k.blt, loc := k.loc, sub := fun a ha => List.mem_cons_of_mem _ (k.sub a ha), off := k.off, cell := k.cell, inj := k.inj, free := k.free }
theorem Sl.vis {c c' : Cx} {h h' : Heap} (hv : HLe (c.vis h) (c'.vis h')) (ho : c'.ow = c.ow) (he : c'.env = c.env) (hk : HLe h h') {sl : Slot} {u : Value} (p : Sl c h sl u) : Sl c' h' sl u := by
  cases sl with
  | val v => exact RV.mono hv p
  | «mut» xs => obtain ⟨b, us, e, hb, q, r⟩ := p; exact ⟨b, us, e, ho ▸ hb, plain_keeps hk q, RVs.mono hv r⟩
  | rd xs => obtain ⟨b, us, e, hb, q, r⟩ := p; exact ⟨b, us, e, ho ▸ hb, plain_keeps hk q, RVs.mono hv r⟩
  | app y =>
    obtain ⟨a, b, n, e, p⟩ := p
    refine ⟨a, b, ?_, e, p.keeps hv⟩
    rcases n with ⟨e1, m, n, q⟩ | ⟨e1, a', n, q⟩
    · exact .inl ⟨by rw [he]; exact e1, m, by rw [he]; exact n.keeps hk, q⟩
    · exact .inr ⟨by rw [he]; exact e1, a', by rw [he]; exact n, q.keeps hk⟩
/-- another hiding of the same frame -/
theorem St.re {c c' : Cx} {ρ : Rho} {s s' : Shared} (x : St c ρ s) (hv : HLe (c.vis s.heap) (c'.vis s'.heap)) (ho : c'.ow = c.ow) (he : c'.env = c.env) (hk : HLe s.heap s'.heap) (hj : c'.J s'.gens s'.os) (hb : HLe c'.h₀ s'.heap)
    (hl : ∀ a ∈ c'.mu, ∃ o, s'.heap.get? a = some o) : St c' ρ s' where
  j := hj
  keep := hb
  ns := let ⟨m, n⟩ := x.ns; ⟨m, by rw [he]; exact n.keeps hk⟩
  cells := fun y a e e' => let ⟨v, p⟩ := x.cells y a (by rw [← he]; exact e) (by rw [← he]; exact e'); ⟨v, p.keeps hk⟩
  vars := fun y sl e => by
    obtain ⟨u, n, p⟩ := x.vars y sl e
    refine ⟨u, ?_, p.vis hv ho he hk⟩
    rcases n with ⟨e1, m, n, q⟩ | ⟨e1, a', n, q⟩
    · exact .inl ⟨by rw [he]; exact e1, m, by rw [he]; exact n.keeps hk, q⟩
    · exact .inr ⟨by rw [he]; exact e1, a', by rw [he]; exact n, q.keeps hk⟩
  mutd := fun y z xs ys a e e' n n' => by
    have tr : ∀ w v, Nm c' s'.heap w v → Nm c s'.heap w v := fun w v n => by
      rcases n with ⟨e1, m, n, q⟩ | ⟨e1, a', n, q⟩
      · exact .inl ⟨by rw [← he]; exact e1, m, by rw [← he]; exact n, q⟩
      · exact .inr ⟨by rw [← he]; exact e1, a', by rw [← he]; exact n, q⟩
    obtain ⟨u, p, _⟩ := x.vars y _ e
    obtain ⟨u', p', _⟩ := x.vars z _ e'
    have q := (p.keeps hk).fun (tr _ _ n); subst q
    have q := (p'.keeps hk).fun (tr _ _ n'); subst q
    exact x.mutd y z xs ys a e e' p p'
  low := hl

/-- only the hidden I is changed -/
theorem St.hop {c c' : Cx} {T : Scope} {ρ : Rho} {s : Shared} {I : Addr} {h' : Heap} {tk : Nat} (x : St c ρ s) (ok : c.Ok T) (hI : I ∈ c.mu) (hIo : I ∉ c.ow) (hIb : c.h₀.get? I = none) (hnl : ∀ us, ¬ s.heap.PlainList I us)
    (ho : c'.ow = c.ow) (he : c'.env = c.env) (hj : c'.J = c.J) (hh : c'.h₀ = c.h₀) (hm : ∀ a ∈ c'.mu, a ∈ c.mu) (hk : ∀ b ob, b ≠ I → s.heap.get? b = some ob → h'.get? b = some ob) (hl : ∀ a ∈ c'.mu, ∃ o, h'.get? a = some o) :
    St c' ρ { s with heap := h', toks := tk } ∧ HLe (c.vis s.heap) (c'.vis h') := by
  have hv : HLe (c.vis s.heap) (c'.vis h') := fun b ob e => by
    have hb : b ∉ c.mu := fun q => by rw [show c.vis s.heap = hideAll s.heap c.mu from rfl, hideAll_none _ q] at e; cases e
    exact hideAll_get _ (hk b ob (fun q => hb (q ▸ hI)) (of_hideAll _ e)) fun q => hb (hm b q)
  have hne : ∀ {b : Addr}, b ∈ c.ow → b ≠ I := fun hb q => hIo (q ▸ hb)
  have nm : ∀ w u, Nm c s.heap w u → Nm c' h' w u := by
    intro w u nn
    rcases nn with ⟨e, m, nn, q⟩ | ⟨e, a, nn, q⟩
    · obtain ⟨o', es, ep, ho', r⟩ := nn
      exact .inl ⟨by rw [he]; exact e, m, by rw [he]; exact ⟨o', es, ep, hk _ _ (hne ok.loc) ho', r⟩, q⟩
    · obtain ⟨o', ho', hd'⟩ := q
      refine .inr ⟨by rw [he]; exact e, a, by rw [he]; exact nn, o', hk _ _ ?_ ho', hd'⟩
      rcases e with e | e
      · obtain ⟨a', e2, e3⟩ := ok.cell w (by rw [← ok.scope]; exact e)
        rw [nn] at e2; cases e2
        rcases e3 with e3 | ⟨_, o2, e3⟩
        · exact hne e3
        · intro q
          rw [q, hIb] at e3; cases e3
      · obtain ⟨a', o2, e2, e3⟩ := ok.free w (by rw [← ok.scope]; exact e)
        rw [nn] at e2; cases e2
        intro q
        rw [q, hIb] at e3; cases e3
  have mn : ∀ w u, Nm c' h' w u → (∃ v, Nm c s.heap w v) → Nm c s.heap w u := fun w u n ⟨v, q⟩ => by
    have := (nm _ _ q).fun n; subst this; exact q
  refine ⟨⟨by rw [hj]; exact x.j, fun b ob e => hk b ob (fun q => ?_) (x.keep b ob (by rw [← hh]; exact e)), ?_, fun z a e e' => ?_, fun z sl e => ?_, fun z w xs ys a e e' n1 n2 => ?_, hl⟩, hv⟩
  · rw [hh, q, hIb] at e; cases e
  · obtain ⟨m, o', es, ep, ho', r⟩ := x.ns
    exact ⟨m, by rw [he]; exact ⟨o', es, ep, hk _ _ (hne ok.loc) ho', r⟩⟩
  · rw [he] at e e'
    obtain ⟨v, o', ho', hd'⟩ := x.cells z a e e'
    obtain ⟨a', e2, e3⟩ := ok.cell z (by rw [← ok.scope]; exact e)
    rw [e'] at e2; cases e2
    refine ⟨v, o', hk _ _ ?_ ho', hd'⟩
    rcases e3 with e3 | ⟨_, o2, e3⟩
    · exact hne e3
    · intro q
      rw [q, hIb] at e3; cases e3
  · obtain ⟨u, nn, q⟩ := x.vars z sl e
    refine ⟨u, nm _ _ nn, ?_⟩
    cases sl with
    | val v => exact RV.mono hv q
    | «mut» xs => obtain ⟨b, us, e, hb', ⟨n', q⟩, r⟩ := q; exact ⟨b, us, e, ho ▸ hb', ⟨n', hk _ _ (hne hb') q⟩, RVs.mono hv r⟩
    | rd xs =>
      obtain ⟨b, us, e, hb', ⟨n', q⟩, r⟩ := q
      exact ⟨b, us, e, ho ▸ hb', ⟨n', hk _ _ (fun q' => hnl us.toArray ⟨n', q' ▸ q⟩) q⟩, RVs.mono hv r⟩
    | app w => obtain ⟨a, b, n', e, q⟩ := q; exact ⟨a, b, nm _ _ n', e, q.keeps hv⟩
  · obtain ⟨u, q, _⟩ := x.vars z _ e
    obtain ⟨u', q', _⟩ := x.vars w _ e'
    exact x.mutd z w xs ys a e e' (mn _ _ n1 ⟨u, q⟩) (mn _ _ n2 ⟨u', q'⟩)

section
variable {C : Cfg} {d : Nat} {J : Js} {T : Scope}

/-- how a loop ends: all items taken, or left in the turn k -/
inductive Ends (C : Cfg) (d : Nat) (J : Js) (T : Scope) (body : List Stmt) (y : Str) (ρ : Rho) (item : Option V) : Out → Prop where
  | done : item = none → Ends C d J T body y ρ item (.next ρ)
  | ret {v w : V} : item = some v → Ex C d J T (put ρ y (.val v)) body (.ret w) → Ends C d J T body y ρ item (.ret w)
  | brk {v : V} {ρ' : Rho} : item = some v → Ex C d J T (put ρ y (.val v)) body (.brk ρ') → Ends C d J T body y ρ item (.next ρ')

theorem for_core {c : Cx} {A : Around} {s₁ s₂ : Shared} {Q : Flow → Shared → Prop} {E : Value → Shared → Prop} {I : Addr} {fp : List Addr} {n : Nat} {P : Nat → Value → Prop} {Stt : Nat → Heap → Prop} {vs : Nat → V} {y : Str} {p : Pos} {body : List Stmt} {o : Out}
    (ρs : Nat → Rho) (k : Nat) (W : Walks C.prog C.w A I fp [I] n P Stt)
    (hJ : c.J = J) (ok : c.Ok T) (hown : c.own = true) (bs : C.Base (c.vis c.h₀)) (cn : Cnd A d) (x : St c (ρs 0) s₁) (hI : I = s₁.heap.objs.size) (hle : HLe s₁.heap s₂.heap) (hg : s₂.gens = s₁.gens) (ho : s₂.os = s₁.os) (hlive : ∃ o, s₂.heap.get? I = some o)
    (hfp : ∀ b ∈ fp, b = I ∨ (b ∉ c.ow ∧ ∃ o, s₁.heap.get? b = some o)) (hst : Stt 0 s₂.heap) (hP : ∀ i v, P i v → RV (c.vis s₁.heap) (vs i) v) (hnl : ∀ i h us, Stt i h → ¬ h.PlainList I us) (hlv : ∀ i h, Stt i h → ∃ o, h.get? I = some o)
    (hy : T.names.lookup y = some .local ∨ T.names.lookup y = some .cell) (hna : ∀ i, i ≤ k → noApp (ρs i) y = true) (hk : k ≤ n)
    (turn : ∀ i, i < k → Ex C d J T (put (ρs i) y (.val (vs i))) body (.next (ρs (i + 1))))
    (ends : Ends C d J T body y (ρs k) (if k < n then some (vs k) else none) o) (f : Fin T c Q o) :
    codeAny (model C.prog C.w) A (.forLoop (.Name y p) (.ref I) body [] c.env) (fun r s' => match r with | .ok f => Q f s' | .error e => cameBackBy (model C.prog C.w) A c.env E e s') s₂ := by
  have hIn : I ∉ c.mu := hI ▸ x.new_vis
  -- the frame in the loop: I is hidden
  let cI := c.hid I
  have okI : cI.Ok T := ok.hid I
  have hv0 : HLe (c.vis s₁.heap) (cI.vis s₂.heap) := fun b ob e => hideAll_get _ (hle _ _ (of_hideAll _ e)) fun q => by
    rcases List.mem_cons.mp q with q | q
    · have := Heap.lt_size (of_hideAll _ e); rw [q, hI] at this; exact Nat.lt_irrefl _ this
    · rw [show c.vis s₁.heap = hideAll s₁.heap c.mu from rfl, hideAll_none _ q] at e; cases e
  have xI : St cI (ρs 0) s₂ := x.re hv0 rfl rfl hle (by show c.J _ _; rw [hg, ho]; exact x.j) (x.keep.trans hle) fun a ha => by
    rcases List.mem_cons.mp ha with e | ha
    · rw [e]; exact hlive
    · obtain ⟨ob, e⟩ := x.low a ha; exact ⟨ob, hle _ _ e⟩
  have bsI : C.Base (cI.vis cI.h₀) := bs.keeps fun b ob e => hideAll_get _ (of_hideAll _ e) fun q => by
    rcases List.mem_cons.mp q with q | q
    · have h1 := hle _ _ (x.keep _ _ (of_hideAll _ e))
      have h2 := Heap.lt_size (x.keep _ _ (of_hideAll _ e)); rw [q, hI] at h2; exact Nat.lt_irrefl _ h2
    · rw [show c.vis c.h₀ = hideAll c.h₀ c.mu from rfl, hideAll_none _ q] at e; cases e
  -- out of the loop again
  have out : ∀ c' ρ s', Grow T cI c' → St c' ρ s' → ∃ c'', Grow T c c'' ∧ St c'' ρ s' := by
    rintro c' ρ s' ⟨⟨m, hm, e⟩, ok'⟩ x'
    subst e
    refine ⟨{ c with ow := m ++ c.ow, mu := m ++ c.mu }, ⟨⟨m, fun a ha q => hm a ha (List.mem_cons_of_mem _ q), rfl⟩, { scope := ok'.scope, kind := ok'.kind, glob := ok'.glob, blt := ok'.blt, loc := ok'.loc, sub := fun a ha => ?_, off := ok'.off, cell := fun y hy => let ⟨a, e, h⟩ := ok'.cell y hy; ⟨a, e, h.elim .inl fun q => by have q1 : c.own = false := q.1; rw [hown] at q1; cases q1⟩, inj := ok'.inj, free := ok.free }⟩, x'.re ?_ rfl rfl (HLe.refl _) x'.j x'.keep fun a ha => x'.low a ?_⟩
    · rcases List.mem_append.mp ha with ha | ha
      · exact List.mem_append_left _ ha
      · exact List.mem_append_right _ (ok.sub a ha)
    · refine hide_more fun b hb => ?_
      rcases List.mem_append.mp hb with hb | hb
      · exact List.mem_append_left _ hb
      · exact List.mem_append_right _ (List.mem_cons_of_mem _ hb)
    · rcases List.mem_append.mp ha with ha | ha
      · exact List.mem_append_left _ ha
      · exact List.mem_append_right _ (List.mem_cons_of_mem _ ha)
  have out0 : ∀ c', Grow T cI c' → ∃ c'', Grow T c c'' ∧ c''.ow = c'.ow ∧ c''.env = c'.env ∧ c''.J = c'.J ∧ c''.h₀ = c'.h₀ ∧ ∀ a ∈ c''.mu, a ∈ c'.ow ∨ a ∈ c.mu := by
    rintro c' ⟨⟨m, hm, e⟩, ok'⟩
    subst e
    refine ⟨{ c with ow := m ++ c.ow, mu := m ++ c.mu }, ⟨⟨m, fun a ha q => hm a ha (List.mem_cons_of_mem _ q), rfl⟩, { scope := ok'.scope, kind := ok'.kind, glob := ok'.glob, blt := ok'.blt, loc := ok'.loc, sub := fun a ha => ?_, off := ok'.off, cell := fun y hy => let ⟨a, e, h⟩ := ok'.cell y hy; ⟨a, e, h.elim .inl fun q => by have q1 : c.own = false := q.1; rw [hown] at q1; cases q1⟩, inj := ok'.inj, free := ok.free }⟩, rfl, rfl, rfl, rfl, fun a ha => ?_⟩
    · rcases List.mem_append.mp ha with ha | ha
      · exact List.mem_append_left _ ha
      · exact List.mem_append_right _ (ok.sub a ha)
    · rcases List.mem_append.mp ha with ha | ha
      · exact .inl (List.mem_append_left _ ha)
      · exact .inr ha
  let Inv : Nat → Shared → Prop := fun i s' => ∃ c', Grow T cI c' ∧ St c' (ρs i) s' ∧ Stt i s'.heap ∧ HLe (cI.vis s₂.heap) (c'.vis s'.heap) ∧ ∀ b ∈ fp, b ∉ c'.ow ∧ ∃ ob, s'.heap.get? b = some ob
  refine codeAny_forLoop (fun j s' => ∃ i, i ≤ k ∧ j = k + 1 - i ∧ Inv i s') ?_ (k + 1) ⟨0, Nat.zero_le _, rfl, cI, Grow.refl okI, xI, hst, HLe.refl _, fun b hb => ?_⟩
  · rintro j s' ⟨i, hik, rfl, c', g, x', st', hv, hb⟩
    have e1 : c'.env = c.env := by obtain ⟨⟨m, _, e⟩, _⟩ := g; subst e; rfl
    have eJ : c'.J = J := by obtain ⟨⟨m, _, e⟩, _⟩ := g; subst e; exact hJ
    have eown : c'.own = true := by obtain ⟨⟨m, _, e⟩, _⟩ := g; subst e; exact hown
    have eh : c'.h₀ = c.h₀ := by obtain ⟨⟨m, _, e⟩, _⟩ := g; subst e; rfl
    have hIm : I ∈ c'.mu := by obtain ⟨⟨m, _, e⟩, _⟩ := g; subst e; exact List.mem_append_right _ List.mem_cons_self
    have hIo : I ∉ c'.ow := (hb I (W.sub I (List.mem_singleton.mpr rfl))).1
    have hIb : c'.h₀.get? I = none := by
      cases q : c'.h₀.get? I with
      | none => rfl
      | some o' => rw [eh] at q; have h2 := Heap.lt_size (x.keep _ _ q); rw [hI] at h2; exact absurd h2 (Nat.lt_irrefl _)
    -- a turn, up to its body
    have step : ∀ (QQ : Flow → Shared → Prop) (EE : Value → Shared → Prop) (v : Value) (h' : Heap) (tk : Nat) (oo : Out), i < n → P i v → Stt (i + 1) h' → (∀ b ob, b ∉ [I] → s'.heap.get? b = some ob → h'.get? b = some ob) →
        Ex C d J T (put (ρs i) y (.val (vs i))) body oo → Fin T (c'.on h') QQ oo →
        wpAny (model C.prog C.w) A (assign (.Name y p) c.env v) (fun _ s₂ => wpAny (model C.prog C.w) A (execs body c.env) QQ EE s₂) EE { s' with heap := h', toks := tk } := by
      intro QQ EE v h' tk oo hin hPv st'' keep hb' ff
      have keep' : ∀ b ob, b ≠ I → s'.heap.get? b = some ob → h'.get? b = some ob := fun b ob hb e => keep b ob (fun q => hb (List.mem_singleton.mp q)) e
      have hI' : ∃ ob, h'.get? I = some ob := hlv (i + 1) h' st''
      obtain ⟨x2, hv2⟩ := x'.hop (c' := c') (tk := tk) g.ok hIm hIo hIb (fun us => hnl i _ us st') rfl rfl rfl rfl (fun _ h => h) keep' fun a ha => by
        by_cases q : a = I
        · rw [q]; exact hI'
        · obtain ⟨ob, e⟩ := x'.low a ha; exact ⟨ob, keep' a ob q e⟩
      have x3 : St (c'.on h') (ρs i) { s' with heap := h', toks := tk } := x2.on
      have okR : (c'.on h').Ok T := g.ok.on x2.keep
      have bR : C.Base ((c'.on h').vis (c'.on h').h₀) := (g.base bsI).keeps (vis_keeps (c := c') (on_le g.ok x2.keep))
      refine wpAny_assign_Name ?_
      rw [← e1]
      have rv : RV ((c'.on h').vis h') (vs i) v := RV.mono ((hv0.trans hv).trans hv2) (hP i v hPv)
      refine st_storeV (s := { s' with heap := h', toks := tk }) okR x3 (fun _ => eown) hy (hna i hik) rv fun h3 t3 x4 _ => ?_
      exact hb' (c'.on h') A _ QQ EE eJ ⟨okR, eown⟩ bR cn x4 ff
    have hoI : ∀ a ∈ c.mu, a ∈ c'.ow → a ∈ c.ow := by obtain ⟨⟨m, hm, e⟩, _⟩ := g; subst e; exact fun a ha q => (List.mem_append.mp q).resolve_left fun q => hm a q (List.mem_cons_of_mem _ ha)
    have hmI : ∀ a ∈ c.mu, a ∈ c'.mu := by obtain ⟨⟨m, _, e⟩, _⟩ := g; subst e; exact fun a ha => List.mem_append_right _ (List.mem_cons_of_mem _ ha)
    by_cases hin : i < n
    · refine W.item i s' _ _ hin st' fun v h' tk hPv st'' keep => ?_
      have keep' : ∀ b ob, b ≠ I → s'.heap.get? b = some ob → h'.get? b = some ob := fun b ob hb e => keep b ob (fun q => hb (List.mem_singleton.mp q)) e
      have hk0 : HLe c'.h₀ h' := fun b ob e => keep' b ob (fun q => by rw [q, hIb] at e; cases e) (x'.keep b ob e)
      by_cases hlt : i < k
      · refine step _ _ v h' tk _ hin hPv st'' keep (turn i hlt) fun c2 s2 g2 x2 => ?_
        refine ⟨k + 1 - (i + 1), by omega, i + 1, hlt, rfl, ?_⟩
        have hfpk : ∀ b ∈ fp, ∀ ob, h'.get? b = some ob → s2.heap.get? b = some ob := by
          intro b hb' ob e
          have h1 : (c'.on h').h₀.get? b = some ob := hideAll_get _ e (hb b hb').1
          have h2 : c2.h₀ = (c'.on h').h₀ := by obtain ⟨⟨m, _, e⟩, _⟩ := g2; subst e; rfl
          exact x2.keep b ob (by rw [h2]; exact h1)
        obtain ⟨c3, g3, e3, e3o, up⟩ := g2.off g.ok hk0
        have hlive' : ∀ b ∈ fp, ∃ ob, h'.get? b = some ob := fun b hb' => by
          by_cases q : b = I
          · rw [q]; exact hlv _ _ st''
          · obtain ⟨ob, e⟩ := (hb b hb').2; exact ⟨ob, keep' b ob q e⟩
        have hseen : ∀ b ob, b ∉ c'.ow → h'.get? b = some ob → b ∉ c3.ow ∧ s2.heap.get? b = some ob := by
          intro b ob hbo e
          have h1 : (c'.on h').h₀.get? b = some ob := hideAll_get _ e hbo
          have h2 : c2.h₀ = (c'.on h').h₀ := by obtain ⟨⟨m, _, e⟩, _⟩ := g2; subst e; rfl
          refine ⟨fun q => ?_, x2.keep b ob (by rw [h2]; exact h1)⟩
          have h3 := g2.ok.off b (e3o ▸ q)
          rw [h2, h1] at h3; cases h3
        refine ⟨c3, g.trans g3, up _ _ x2, W.frame (i + 1) h' s2.heap st'' hfpk, ?_, fun b hb' => ?_⟩
        · have hv1 : HLe (c'.vis s'.heap) (c'.vis h') := hide_le fun b ob hbm e => keep' b ob (fun q => hbm (q ▸ hIm)) e
          refine (hv.trans hv1).trans fun b ob e => ?_
          have hbm : b ∉ c'.mu := fun q => by rw [show c'.vis h' = hideAll h' c'.mu from rfl, hideAll_none _ q] at e; cases e
          obtain ⟨h1, h2⟩ := hseen b ob (fun q => hbm (g.ok.sub b q)) (of_hideAll _ e)
          refine hideAll_get _ h2 fun q => ?_
          rw [e3] at q
          obtain ⟨⟨m, _, e5⟩, _⟩ := g2
          subst e5
          rcases List.mem_append.mp q with q | q
          · exact h1 (by rw [e3o]; exact List.mem_append_left _ q)
          · exact hbm q
        · obtain ⟨ob, e⟩ := hlive' b hb'
          obtain ⟨h1, h2⟩ := hseen b ob (hb b hb').1 e
          exact ⟨h1, ob, h2⟩
      · have hik' : i = k := by omega
        subst hik'
        rw [if_pos hin] at ends
        cases ends with
        | done e => cases e
        | ret e hbody =>
          cases e
          refine step _ _ v h' tk _ hin hPv st'' keep hbody fun mu' s2 u hm hk2 j r => ?_
          exact f mu' s2 u (fun a ha => (hm a (hmI a ha)).imp (hoI a ha) id) (fun b ob e => hk2 b ob (on_le g.ok hk0 b ob (by rw [eh]; exact e))) (by rw [hJ]; rw [← eJ]; exact j) r
        | brk e hbody =>
          cases e
          refine step _ _ v h' tk _ hin hPv st'' keep hbody fun c2 s2 g2 x2 => ?_
          obtain ⟨c3, g3, _, _, up⟩ := g2.off g.ok hk0
          obtain ⟨c4, g4, x4⟩ := out _ _ _ (g.trans g3) (up _ _ x2)
          exact f c4 s2 g4 x4
    · have hin' : i = n := by omega
      have hkn : k = n := by omega
      subst hin'
      subst hkn
      rw [if_neg (Nat.lt_irrefl _)] at ends
      refine W.done s' _ _ st' fun h' tk keep => wpAny_execs_nil ?_
      have keep' : ∀ b ob, b ≠ I → s'.heap.get? b = some ob → h'.get? b = some ob := fun b ob hb e => keep b ob (fun q => hb (List.mem_singleton.mp q)) e
      cases ends with
      | done _ =>
        obtain ⟨c4, g4, eo, ee, ej, eh4, em⟩ := out0 _ g
        have hm4 : ∀ a ∈ c4.mu, a ≠ I := fun a ha q => by
          subst q
          rcases em a ha with h1 | h1
          · exact hIo h1
          · exact hIn h1
        obtain ⟨x4, _⟩ := x'.hop (c' := c4) (tk := tk) g.ok hIm hIo hIb (fun us => hnl _ _ us st') eo ee ej eh4 (fun a ha => by
          rcases em a ha with h1 | h1
          · exact g.ok.sub a h1
          · exact hmI a h1) keep' fun a ha => by
            have hma : a ∈ c'.mu := by
              rcases em a ha with h1 | h1
              · exact g.ok.sub a h1
              · exact hmI a h1
            obtain ⟨ob, e⟩ := x'.low a hma; exact ⟨ob, keep' a ob (hm4 a ha) e⟩
        exact f c4 _ g4 x4
      | ret e _ => cases e
      | brk e _ => cases e
  · rcases hfp b hb with e | ⟨h1, o', e⟩
    · subst e; exact ⟨fun q => hIn (ok.sub _ q), hlive⟩
    · exact ⟨h1, o', hle _ _ e⟩
end
end Mine

end
section
open PySem PySem.W PySem.Spec PySem.Calls PyProof.Rows
open PySem.Builtin PySem.Builtin.Str
set_option Elab.async false
set_option maxRecDepth 100000
namespace Mine
section
variable {C : Cfg} {d : Nat} {J : Js} {T : Scope} {ρ : Rho}

/-- a built-in step upon a list of values -/
noncomputable def OpN (C : Cfg) (d : Nat) {α : Type} (f : List Value → Sem α) (as : List V) (R : Heap → α → Prop) : Prop :=
  ∀ (c : Cx) (T : Scope) (ρ : Rho) (A : Around) (s : Shared) (us : List Value) (Q : α → Shared → Prop) (E : Value → Shared → Prop), c.Ok T → C.Base (c.vis c.h₀) → Cnd A d → St c ρ s → RVs (c.vis s.heap) as us →
    (∀ a s', Stp c s s' → R (c.vis s'.heap) a → Q a s') → wpAny (model C.prog C.w) A (f us) Q E s
theorem run_callB {p pos : Pos} {y : Str} {es : List Expr} {e : Expr} {id : String} {as : List V} {R : Heap → Value → Prop} (hf : Ev C d J T ρ (.Name y p) (.const (.builtin id))) (ha : EvA C d J T ρ pos (e :: es) as) (h : OpN C d (fun us => call (.builtin id) us) as R)
    (he : ∀ env, starEach (e :: es) env = (false, eval e env) :: starEach es env := by intro _; with_unfolding_all rfl) (hp : ∀ env, (backTo pos (starEach es env)).any (·.1) = false := by intro _; with_unfolding_all rfl) : Run C d J T ρ (fun env => eval (.Call (.Name y p) (e :: es) [] pos) env) R :=
  fun c A s Q E hJ k bs cn x q => by
    refine wpAny_Call_Name_kw (wpAny_mono (hf.use hJ k bs cn x) (fun u s₁ ⟨x₁, p₁, r₁⟩ => ?_) fun _ _ e => e)
    have r₁ : u = .builtin id := r₁
    subst r₁
    exact callWith_builtin1 (wpAny_mono (ha.use hJ k bs cn x₁) (fun us s₂ ⟨x₂, p₂, r₂⟩ => h c T ρ A s₂ us Q E k bs cn x₂ r₂ fun u s' p r => q u s' ((p₁.trans p₂).trans p) r) fun _ _ e => e) (he _) (hp _)
theorem run_callT {p pos : Pos} {y : Str} {es : List Expr} {e : Expr} {id : String} {as : List V} {R : Heap → Value → Prop} (hf : Ev C d J T ρ (.Name y p) (.const (.type id))) (ha : EvA C d J T ρ pos (e :: es) as) (h : OpN C d (fun us => call (.type id) us) as R)
    (he : ∀ env, starEach (e :: es) env = (false, eval e env) :: starEach es env := by intro _; with_unfolding_all rfl) (hp : ∀ env, (backTo pos (starEach es env)).any (·.1) = false := by intro _; with_unfolding_all rfl) : Run C d J T ρ (fun env => eval (.Call (.Name y p) (e :: es) [] pos) env) R :=
  fun c A s Q E hJ k bs cn x q => by
    refine wpAny_Call_Name_kw (wpAny_mono (hf.use hJ k bs cn x) (fun u s₁ ⟨x₁, p₁, r₁⟩ => ?_) fun _ _ e => e)
    have r₁ : u = .type id := r₁
    subst r₁
    exact callWith_type1 (wpAny_mono (ha.use hJ k bs cn x₁) (fun us s₂ ⟨x₂, p₂, r₂⟩ => h c T ρ A s₂ us Q E k bs cn x₂ r₂ fun u s' p r => q u s' ((p₁.trans p₂).trans p) r) fun _ _ e => e) (he _) (hp _)

theorem rvs1 {h : Heap} {a : V} {us : List Value} (r : RVs h [a] us) : ∃ u, us = [u] ∧ RV h a u := by
  obtain ⟨u, _, rfl, p, rfl⟩ := r
  exact ⟨u, rfl, p⟩
theorem rvs2 {h : Heap} {a b : V} {us : List Value} (r : RVs h [a, b] us) : ∃ u w, us = [u, w] ∧ RV h a u ∧ RV h b w := by
  obtain ⟨u, _, rfl, p, w, _, rfl, q, rfl⟩ := r
  exact ⟨u, w, rfl, p, q⟩

theorem op_lenS {l : List Nat} (hn : l.length ≤ sizeLine) : OpN C d (fun us => call (.builtin "len") us) [.str l] (fun h u => RV h (.int l.length) u) := fun c T ρ A s us Q E k b cn x r q => by
  obtain ⟨u, rfl, t, rfl⟩ := rvs1 r
  rw [sizeLine_eq] at hn
  refine P.len_str (by rw [S_len]; omega) (q _ _ (x.stok _) ⟨_, by rw [S_len]⟩)
theorem op_lenL {xs : List V} (hn : xs.length ≤ sizeLine) : OpN C d (fun us => call (.builtin "len") us) [.list xs] (fun h u => RV h (.int xs.length) u) := fun c T ρ A s us Q E k b cn x r q => by
  obtain ⟨u, rfl, a, vs, rfl, p, rv⟩ := rvs1 r
  rw [sizeLine_eq] at hn
  have hl := rv.len
  refine call_len_list (isList_of p) (by simp only [List.size_toArray]; omega) (q _ _ (x.stok _) ⟨_, by simp only [List.size_toArray]; rw [hl]⟩)

/-- a range's object -/
noncomputable def IsRg (a b : Int) (h : Heap) (u : Value) : Prop := ∃ r t u' v', u = .ref r ∧ IsRange h r a b 1 t u' v'
theorem op_range1 {n : Int} : OpN C d (fun us => call (.type "range") us) [.int n] (IsRg 0 n) := fun c T ρ A s us Q E k b cn x r q => by
  obtain ⟨u, rfl, t, rfl⟩ := rvs1 r
  exact call_range_1 (q _ _ (x.spush _ _) ⟨_, _, _, _, rfl, x.see _ rfl⟩)
theorem op_range2 {m n : Int} : OpN C d (fun us => call (.type "range") us) [.int m, .int n] (IsRg m n) := fun c T ρ A s us Q E k b cn x r q => by
  obtain ⟨u, w, rfl, ⟨t, rfl⟩, t', rfl⟩ := rvs2 r
  exact call_range_2 (q _ _ (x.spush _ _) ⟨_, _, _, _, rfl, x.see _ rfl⟩)

theorem ends_cast {body : List Stmt} {y : Str} {item item' : Option V} {o : Out} (h : Ends C d J T body y ρ item o) (e : item = item') : Ends C d J T body y ρ item' o := e ▸ h

theorem st_forL {y : Str} {p pos : Pos} {e : Expr} {body : List Stmt} {xs : List V} {o : Out} (ρs : Nat → Rho) (k : Nat) (h : Ev C d J T ρ e (.list xs)) (h0 : ρs 0 = ρ)
    (hy : T.names.lookup y = some .local ∨ T.names.lookup y = some .cell) (hna : ∀ i, i ≤ k → noApp (ρs i) y = true) (hk : k ≤ xs.length)
    (turn : ∀ i v, i < k → xs[i]? = some v → Ex C d J T (put (ρs i) y (.val v)) body (.next (ρs (i + 1))))
    (ends : Ends C d J T body y (ρs k) xs[k]? o) (hs : ∀ env x, foldedSetIterable e env x = pure x := by intro _ _; with_unfolding_all rfl) : Ex1 C d J T ρ (.For (.Name y p) e body [] pos) o :=
  fun c A s Q E hJ okk bs cn x f => have ok := okk.1; have hown := okk.2; wpAny_For (wpAny_mono (h.use hJ ok bs cn x) (fun u s₁ ⟨x₁, p₁, r₁⟩ => by
    obtain ⟨a, us, rfl, pl, r⟩ := r₁
    have il := isList_of pl
    have hl := r.len
    obtain ⟨ol, pl', _⟩ := pl
    have hav : a ∉ c.mu := fun q => by rw [show c.vis s₁.heap = hideAll s₁.heap c.mu from rfl, hideAll_none _ q] at pl'; cases pl'
    have hgo := of_hideAll _ pl'
    have hne : a ≠ s₁.heap.objs.size := Nat.ne_of_lt (Heap.lt_size hgo)
    refine wpAny_pyIter_list il ?_
    refine for_core (fp := [s₁.heap.objs.size, a]) (vs := fun i => xs.getD i .none) ρs k (Walks.list cn.hh _ a hne us.toArray) hJ ok hown bs cn (by rw [h0]; exact x₁) rfl (HLe.push _ _) rfl rfl ⟨_, Heap.get?_push_size _ rfl⟩ (fun b hb => ?_)
      ⟨⟨_, Heap.get?_push_size _ rfl, rfl, rfl⟩, il.at fun o e => Heap.get?_push_of_some _ e⟩ (fun i v hv => ?_) (fun i h us' ⟨⟨o, ho, hc, _⟩, _⟩ ⟨n2, q⟩ => ?_) (fun i h ⟨⟨o, ho, _⟩, _⟩ => ⟨o, ho⟩) hy hna (by simp only [List.size_toArray]; omega) (fun i hi => ?_) (ends_cast ends ?_) f
    · rcases List.mem_cons.mp hb with e | hb
      · exact .inl e
      · rw [List.mem_singleton.mp hb]; exact .inr ⟨fun q => hav (ok.sub _ q), _, hgo⟩
    · have hv' : us[i]? = some v := by simpa using hv
      have hi : i < xs.length := by rw [← hl]; rw [List.getElem?_eq_some_iff] at hv'; exact hv'.1
      obtain ⟨w, hw, rw'⟩ := r.get i xs[i] (by simp [hi])
      rw [hv'] at hw; cases hw
      simpa [List.getD, hi] using rw'
    · rw [ho] at q; cases q; exact absurd (Value.type.inj hc) (by decide)
    · have hi' : i < xs.length := by omega
      have : xs.getD i .none = xs[i] := by simp [List.getD, hi']
      rw [this]
      exact turn i _ hi (by simp [hi'])
    · simp only [List.size_toArray, hl]
      by_cases hlt : k < xs.length
      · rw [if_pos hlt]; simp [List.getD, hlt]
      · rw [if_neg hlt]; simp; omega) fun _ _ e => e) (hs _)

theorem rangeSize_one (a b : Int) (n : Nat) (h : b - a = n ∨ (b ≤ a ∧ n = 0)) : Builtin.Range.rangeSize a b 1 = n := by
  unfold Builtin.Range.rangeSize
  rw [if_pos (by decide)]
  split
  · rw [Int.ediv_one]; omega
  · omega
theorem st_forR {y : Str} {p pos : Pos} {e : Expr} {body : List Stmt} {a b : Int} {n : Nat} {o : Out} (ρs : Nat → Rho) (k : Nat) (h : Run C d J T ρ (fun env => eval e env) (IsRg a b)) (h0 : ρs 0 = ρ) (hn : b - a = n ∨ (b ≤ a ∧ n = 0)) (hsm : Builtin.Range.small a b 1 = true)
    (hy : T.names.lookup y = some .local ∨ T.names.lookup y = some .cell) (hna : ∀ i, i ≤ k → noApp (ρs i) y = true) (hk : k ≤ n)
    (turn : ∀ i, i < k → Ex C d J T (put (ρs i) y (.val (.int (a + i)))) body (.next (ρs (i + 1))))
    (ends : Ends C d J T body y (ρs k) (if k < n then some (.int (a + k)) else none) o) (hs : ∀ env x, foldedSetIterable e env x = pure x := by intro _ _; with_unfolding_all rfl) : Ex1 C d J T ρ (.For (.Name y p) e body [] pos) o :=
  fun c A s Q E hJ okk bs cn x f => have ok := okk.1; have hown := okk.2; wpAny_For (wpAny_mono (h.use hJ ok bs cn x) (fun u s₁ ⟨x₁, p₁, r₁⟩ => by
    obtain ⟨r, t, u', v', rfl, hr⟩ := r₁
    have hr' : IsRange s₁.heap r a b 1 t u' v' := of_hideAll _ hr
    refine wpAny_pyIter_range hr' hsm ?_
    rw [rangeSize_one a b n hn]
    refine for_core (fp := [s₁.heap.objs.size]) (vs := fun i => .int (a + i)) ρs k (Walks.range cn.hh _ a 1 n) hJ ok hown bs cn (by rw [h0]; exact x₁) rfl (HLe.push _ _) rfl rfl ⟨_, Heap.get?_push_size _ rfl⟩ (fun b hb => .inl (List.mem_singleton.mp hb))
      (by show IsRangeIter _ _ _ _ _; simpa using Heap.get?_push_size _ rfl) (fun i v hv => ?_) (fun i h us' hi ⟨n2, q⟩ => ?_) (fun i h hi => ⟨_, hi⟩) hy hna hk turn ends f
    · obtain ⟨t, rfl⟩ := hv
      exact ⟨t, by rw [Int.mul_one]⟩
    · rw [show h.get? _ = _ from hi] at q; exact absurd (Value.type.inj (congrArg Obj.cls (Option.some.inj q))) (by decide)) fun _ _ e => e) (hs _)
end
end Mine

end
section
open PySem PySem.W PySem.Spec PySem.Calls PyProof.Rows
open PySem.Builtin PySem.Builtin.Str
set_option Elab.async false
set_option maxRecDepth 100000
namespace Mine
section
variable {C : Cfg} {d : Nat} {J : Js} {T : Scope} {ρ : Rho}

theorem run_meth {o e : Expr} {name : Str} {id : String} {apos pos : Pos} {es : List Expr} {l : List Nat} {as : List V} {R : Heap → Value → Prop} (h₁ : Ev C d J T ρ o (.str l)) (h₂ : EvA C d J T ρ pos (e :: es) as) (slot : PySem.Slot "str" name id)
    (ty : typeOf (.builtin id) = pure (.type "method_descriptor")) (h : OpN C d (fun us => call (.builtin id) us) (.str l :: as) R)
    (hbase : ∀ env, attributeBase o name env (eval o env) = eval o env := by intro _; with_unfolding_all rfl)
    (he : ∀ env, starEach (e :: es) env = (false, eval e env) :: starEach es env := by intro _; with_unfolding_all rfl) (hp : ∀ env, (backTo pos (starEach es env)).any (·.1) = false := by intro _; with_unfolding_all rfl)
    (hfew : ∀ env, ((backTo pos (starEach (e :: es) env)).all (fun x => !x.1) && (backToKw pos (keywordEach [] env)).all (fun x => x.1.isSome)
      && decide ((e :: es).length + ([] : List Keyword).length + (if ([] : List Keyword).isEmpty then 0 else 1) < 30)) = true := by intro _; with_unfolding_all rfl)
    (hline : (apos.endLine == pos.line) = true := by with_unfolding_all rfl) : Run C d J T ρ (fun env => eval (.Call (.Attribute o name apos) (e :: es) [] pos) env) R :=
  fun c A s Q E hJ k bs cn x q => by
    refine wpAny_Call_method_lateS (hbase _) (hfew _) hline (wpAny_mono (h₁.use hJ k bs cn x) (fun u s₁ ⟨x₁, p₁, r₁⟩ => ?_) fun _ _ e => e)
    obtain ⟨t, rfl⟩ := r₁
    refine ⟨"str", id, PySem.F.plainAttrs_str, slot, ty, typeIs_str _ _ _, (fun _ e => nomatch e), ?_⟩
    have h₂' := h₂.use (E := E) hJ k bs cn x₁
    simp only [he] at h₂'
    rw [he]
    refine callWith_builtin (by show (false || (backTo pos (starEach es c.env)).any (·.1)) = false; rw [hp]; rfl) (evalArgs_plain (wpAny_mono h₂' (fun us s₂ ⟨x₂, p₂, r₂⟩ => ?_) fun _ _ e => e))
    exact h c T ρ A s₂ (.str (S l) t :: us) Q E k bs cn x₂ ⟨_, _, rfl, ⟨t, rfl⟩, r₂⟩ fun u s' p r => q u s' ((p₁.trans p₂).trans p) r

theorem op_startsw {l m : List Nat} : OpN C d (fun us => call (.builtin "str.startswith") us) [.str l, .str m] (fun h u => RV h (.bool (Txt.startswith (S l) (S m))) u) := fun c T ρ A s us Q E k b cn x r q => by
  obtain ⟨u, w, rfl, ⟨t, rfl⟩, t', rfl⟩ := rvs2 r
  exact SC.startswith (q _ _ x.sid rfl)
theorem op_endsw {l m : List Nat} : OpN C d (fun us => call (.builtin "str.endswith") us) [.str l, .str m] (fun h u => RV h (.bool (Txt.endswith (S l) (S m))) u) := fun c T ρ A s us Q E k b cn x r q => by
  obtain ⟨u, w, rfl, ⟨t, rfl⟩, t', rfl⟩ := rvs2 r
  exact SC.endswith (q _ _ x.sid rfl)
theorem op_find3 {l m : List Nat} {i : Int} : OpN C d (fun us => call (.builtin "str.find") us) [.str l, .str m, .int i] (fun h u => RV h (.int (Txt.find3 (S l) (S m) i)) u) := fun c T ρ A s us Q E k b cn x r q => by
  obtain ⟨_, _, rfl, ⟨t, rfl⟩, r⟩ := r
  obtain ⟨u, w, rfl, ⟨t', rfl⟩, t'', rfl⟩ := rvs2 r
  exact SC.find3 (q _ _ (x.stok _) ⟨_, rfl⟩)

/-- a text that the library makes -/
noncomputable def VS (x : Str) : V := .str x.cps.toList
theorem rv_VS {h : Heap} {x : Str} {t : Tok} : RV h (VS x) (.str x t) := ⟨t, by rw [S_of]⟩
theorem rvs_strs {h : Heap} : ∀ (l : List (Str × Tok)), RVs h (l.map fun p => VS p.1) (strValues l)
  | [] => rfl
  | p :: l => ⟨_, _, rfl, rv_VS, rvs_strs l⟩
theorem strs_rvs {h : Heap} : ∀ {ls : List (List Nat)} {us : List Value}, RVs h (ls.map .str) us → ∃ l : List (Str × Tok), us = strValues l ∧ l.map (·.1) = ls.map S
  | [], _, e => ⟨[], by cases e; rfl, rfl⟩
  | a :: ls, _, ⟨u, w, e, ⟨t, e'⟩, q⟩ => by
    obtain ⟨l, e1, e2⟩ := strs_rvs q
    subst e; subst e'; subst e1
    exact ⟨(S a, t) :: l, rfl, by simp [e2]⟩

theorem split_new {A : Around} {s : Shared} {E : Value → Shared → Prop} {x y : Str} {t u : Tok} {Q : Value → Shared → Prop} (hy : (y.length == 0) = false)
    (hq : ∀ l tk, l.map (·.1) = Txt.split x y → Q (.ref s.heap.objs.size) { s with heap := s.heap.push { cls := .type "list", data := .seq (strValues l).toArray }, toks := tk })
    (hsz : x.length ≤ sizeLine) (hsz2 : (partsBetween x (occurrences x y 0 x.length (x.length + 1)) y.length).length ≤ sizeLine) :
    wpAny (model C.prog C.w) A (call (.builtin "str.split") [.str x t, .str y u]) Q E s := by
  cases h1 : (decide (x.length < y.length) || decide (strKind x < strKind y))
  · cases hf : (occurrences x y 0 x.length (x.length + 1)).isEmpty
    · refine call_meets PySem.F.slot_str_split (typeIs_str _ _ _) PySem.F.entry_str_split (PySem.F.args_str_split_2 _ _) (meets_str_split_sep x y t u h1 hy hf hsz hsz2) ?_
      show wants Q E _ { s with toks := _, heap := s.heap.push { cls := .type "list", data := .seq (strsFrom s.toks (partsBetween x (occurrences x y 0 x.length (x.length + 1)) y.length)).toArray } }
      rw [strsFrom_eq]
      exact hq (numbered s.toks _) _ ((numbered_texts _ _).trans ((if_neg (ne_true_of_eq_false h1)).trans (if_neg (ne_true_of_eq_false hf))).symm)
    · exact call_meets PySem.F.slot_str_split (typeIs_str _ _ _) PySem.F.entry_str_split (PySem.F.args_str_split_2 _ _) (meets_str_split_not_found x y t u h1 hy hf)
        (hq [(x, t)] _ ((if_neg (ne_true_of_eq_false h1)).trans (if_pos hf)).symm)
  · exact call_meets PySem.F.slot_str_split (typeIs_str _ _ _) PySem.F.entry_str_split (PySem.F.args_str_split_2 _ _) (meets_str_split_cannot_occur x y t u h1)
      (hq [(x, t)] _ (if_pos h1).symm)
theorem op_split {l m : List Nat} (hm : m ≠ []) (hn : l.length ≤ sizeLine) (hp : (partsBetween (S l) (occurrences (S l) (S m) 0 (S l).length ((S l).length + 1)) (S m).length).length ≤ sizeLine) :
    OpN C d (fun us => call (.builtin "str.split") us) [.str l, .str m] (fun h u => RV h (.list ((Txt.split (S l) (S m)).map VS)) u) := fun c T ρ A s us Q E k b cn x r q => by
  obtain ⟨u, w, rfl, ⟨t, rfl⟩, t', rfl⟩ := rvs2 r
  refine split_new ?_ (fun ls tk e => ?_) (by rw [S_len]; exact hn) hp
  · rw [S_len]
    cases m with
    | nil => exact absurd rfl hm
    | cons a m => rfl
  · refine q _ _ (x.spush _ _) ⟨_, strValues ls, rfl, ⟨_, x.see _ rfl, rfl, 0, rfl⟩, ?_⟩
    rw [← e, List.map_map]
    exact rvs_strs ls
theorem op_join {m : List Nat} {ls : List (List Nat)} (hok : JoinOk (S m) (ls.map S) = true) : OpN C d (fun us => call (.builtin "str.join") us) [.str m, .list (ls.map .str)] (fun h u => RV h (VS (Txt.join (S m) (ls.map S))) u) := fun c T ρ A s us Q E k b cn x r q => by
  obtain ⟨u, w, rfl, ⟨t, rfl⟩, a, vs, rfl, p, rv⟩ := rvs2 r
  obtain ⟨l, rfl, e⟩ := strs_rvs rv
  exact SC.join (isList_of p) e hok fun t' k => q _ _ (x.stok _) rv_VS
end
end Mine

end
section
open PySem PySem.W PySem.Spec PySem.Calls PyProof.Rows
open PySem.Builtin PySem.Builtin.Str
set_option Elab.async false
set_option maxRecDepth 100000
namespace Mine

/-- a comprehension's names, as they stand in a frame of the scope T -/
noncomputable def relab (sc T : Scope) : Scope :=
  { sc with names := sc.names.map fun (n, k) => if (k == .free && T.kind == .function && T.names.lookup n == some .cell) then (n, .cell) else (n, k) }
noncomputable def relK (T : Scope) (n : Str) (k : NameKind) : NameKind := if (k == .free && T.kind == .function && T.names.lookup n == some .cell) then .cell else k
theorem relab_lookup (sc T : Scope) (z : Str) : (relab sc T).names.lookup z = (sc.names.lookup z).map (relK T z) := by
  show (sc.names.map _).lookup z = _
  induction sc.names with
  | nil => rfl
  | cons p r ih =>
    obtain ⟨n, k⟩ := p
    have e : (if (k == .free && T.kind == .function && T.names.lookup n == some .cell) then (n, NameKind.cell) else (n, k)) = (n, relK T n k) := by unfold relK; split <;> rfl
    simp only [List.map_cons, e]
    by_cases hz : z = n
    · subst hz; simp [List.lookup]
    · have hb : (z == n) = false := beq_eq_false_iff_ne.mpr hz
      simp only [List.lookup, hb]
      exact ih
theorem closure_ok {env : Env} (f : Str × NameKind → List (Str × Addr) → Sem (ForInStep (List (Str × Addr))))
    (hf : ∀ n k cs, f (n, k) cs = if k == .free then (do let a ← cellOf env n; pure (.yield ((n, a) :: cs))) else pure (.yield cs)) :
    ∀ (names : List (Str × NameKind)) (acc : List (Str × Addr)), (∀ n, (n, NameKind.free) ∈ names → ∃ a, env.cells.lookup n = some a) →
      ∃ cl, forIn names acc f = pure cl ∧ (∀ n a, acc.lookup n = some a → env.cells.lookup n = some a → cl.lookup n = some a) ∧ ∀ n, (n, NameKind.free) ∈ names → ∃ a, env.cells.lookup n = some a ∧ cl.lookup n = some a
  | [], acc, _ => ⟨acc, by rw [List.forIn_nil], fun _ _ e _ => e, fun _ h => nomatch h⟩
  | (n, k) :: r, acc, h => by
    rw [List.forIn_cons, hf]
    cases hk : k == NameKind.free with
    | false =>
      obtain ⟨cl, e, h1, h2⟩ := closure_ok f hf r acc fun n hn => h n (List.mem_cons_of_mem _ hn)
      refine ⟨cl, by rw [if_neg Bool.false_ne_true]; exact e, h1, fun m hm => ?_⟩
      rcases List.mem_cons.mp hm with e' | hm
      · cases e'; simp at hk
      · exact h2 m hm
    | true =>
      have hk' : k = .free := by simpa using hk
      subst hk'
      obtain ⟨a, ha⟩ := h n List.mem_cons_self
      obtain ⟨cl, e, h1, h2⟩ := closure_ok f hf r ((n, a) :: acc) fun n hn => h n (List.mem_cons_of_mem _ hn)
      have hc : cellOf env n = pure a := by unfold cellOf; rw [ha]
      have up : ∀ m b, acc.lookup m = some b → env.cells.lookup m = some b → cl.lookup m = some b := fun m b hm hb => by
        refine h1 m b ?_ hb
        by_cases q : m = n
        · subst q; rw [ha] at hb; cases hb; simp [List.lookup]
        · have hb' : (m == n) = false := beq_eq_false_iff_ne.mpr q
          simp only [List.lookup, hb']; exact hm
      refine ⟨cl, by rw [if_pos rfl, hc]; exact e, up, fun m hm => ?_⟩
      rcases List.mem_cons.mp hm with e' | hm
      · cases e'; exact ⟨a, ha, h1 n a (by simp [List.lookup]) ha⟩
      · exact h2 m hm
theorem closureFor_ok {sc : Scope} {env : Env} (h : ∀ n, (n, NameKind.free) ∈ sc.names → ∃ a, env.cells.lookup n = some a) :
    ∃ cl, closureFor sc env = pure cl ∧ ∀ n, (n, NameKind.free) ∈ sc.names → ∃ a, env.cells.lookup n = some a ∧ cl.lookup n = some a := by
  obtain ⟨cl, e, _, h2⟩ := closure_ok (env := env) (fun x cs => if x.2 == .free then (do let a ← cellOf env x.1; pure (.yield ((x.1, a) :: cs))) else pure (.yield cs)) (fun _ _ _ => rfl) sc.names [] h
  refine ⟨cl, ?_, h2⟩
  unfold closureFor
  refine Eq.trans ?_ e
  simp only [bind_pure]

/-- how a comprehension sees what stands under a name of the frame around it -/
noncomputable def inComp : Slot → Option Slot
  | .val v => some (.val v)
  | .mut xs => some (.rd xs)
  | .rd xs => some (.rd xs)
  | .app _ => none

section
variable {C : Cfg} {d : Nat} {J : Js} {T : Scope}

/-- the tests of a clause -/
noncomputable def testsOf (ifs : List Expr) (env : Env) : Sem Bool := forIn ifs true fun c r => if r = true then do let ok ← isTrue c env (eval c env); pure (ForInStep.yield ok) else pure (ForInStep.yield r)
noncomputable abbrev Tss (C : Cfg) (d : Nat) (J : Js) (T : Scope) (ρ : Rho) (ifs : List Expr) (b : Bool) : Prop := Run C d J T ρ (testsOf ifs) (fun _ x => x = b)
theorem tss_nil {ρ : Rho} : Tss C d J T ρ [] true := fun _ _ _ _ _ _ _ _ _ x q => wpAny_tests_nil (q _ _ x.sid rfl)
theorem tss_one {ρ : Rho} {e : Expr} {b : Bool} (h : Tst C d J T ρ e b) : Tss C d J T ρ [e] b := fun c A s Q E hJ k bs cn x q => wpAny_tests_one (h c A s Q E hJ k bs cn x q)

theorem comp_core {c : Cx} {A : Around} {s₁ s₂ : Shared} {ρ ρf : Rho} {I : Addr} {fp : List Addr} {n : Nat} {P : Nat → Value → Prop} {Stt : Nat → Heap → Prop} {vs : Nat → V} {x : Str} {px pos : Pos} {elt iter : Expr} {ifs : List Expr} {sc : Scope} {cl : List (Str × Addr)}
    {RR : Value → Addr → Result → Shared → Prop} (b : Nat → Bool) (y : Nat → V) (ysf : Nat → List V) (W : Walks C.prog C.w A I fp [I] n P Stt)
    (hJ : c.J = J) (ok : c.Ok T) (bs : C.Base (c.vis c.h₀)) (cn : Cnd A d) (st : St c ρ s₁) (hI : I = s₁.heap.objs.size) (hle : HLe s₁.heap s₂.heap) (hg : s₂.gens = s₁.gens) (ho : s₂.os = s₁.os) (hlive : ∃ o, s₂.heap.get? I = some o)
    (hfp : ∀ b ∈ fp, b = I ∨ ∃ o, s₁.heap.get? b = some o) (hst : Stt 0 s₂.heap) (hP : ∀ i v, P i v → RV (c.vis s₁.heap) (vs i) v) (hlv : ∀ i h, Stt i h → ∃ o, h.get? I = some o) (hn : n ≤ sizeLine)
    (hclos : ∀ n, (n, NameKind.free) ∈ sc.names → ∃ a, c.env.cells.lookup n = some a ∧ cl.lookup n = some a)
    (hfr : ∀ z, (z, NameKind.free) ∈ sc.names → T.names.lookup z = some .cell) (hcell : ∀ p ∈ sc.names, p.2 ≠ .cell) (hkind : sc.kind = .function) (hx : sc.names.lookup x = some .local)
    (hρ : ∀ z sl, ρf.lookup z = some sl → ∃ sl₀, ρ.lookup z = some sl₀ ∧ inComp sl₀ = some sl ∧ sc.names.lookup z = some .free)
    (hna : noApp ρf x = true) (hys : ysf 0 = [] ∧ ∀ i, i < n → ysf (i + 1) = if b i then ysf i ++ [y i] else ysf i)
    (htest : ∀ i, i < n → Tss C d J (relab sc T) (put ρf x (.val (vs i))) ifs (b i))
    (helt : ∀ i, i < n → b i = true → Ev C d J (relab sc T) (put ρf x (.val (vs i))) elt (y i))
    (fin : ∀ (D Lc : Addr) (s' : Shared) (us : List Value), D ∉ c.mu → s₁.heap.get? D = none → s₁.heap.get? Lc = none → D ≠ Lc → (∃ m, s'.heap.Ns Lc m) → s'.heap.PlainList D us.toArray → RVs (hideAll s'.heap (Lc :: D :: c.mu)) (ysf n) us → HLe s₁.heap s'.heap → J s'.gens s'.os → RR (.ref D) Lc (.ok .next) s') :
    wpAny (model C.prog C.w) A (newList []) (fun acc s₃ => wpAny (model C.prog C.w) A (newFunctionEnv sc c.env.globals cl [] c.env.qual none .none (some c.env)) (fun cenv s₄ =>
      codeAny (model C.prog C.w) A (.compStart (.ListComp elt [⟨.Name x px, iter, ifs, 0⟩] sc pos) 0 (.ref I) acc { cenv with scope := relabel sc c.env }) (RR acc cenv.locals) s₄) E s₃) E s₂ := by
  -- the addresses
  have hD1 : s₂.heap.objs.size ∉ c.mu := fun q => by
    obtain ⟨o, e⟩ := st.low _ q
    exact Nat.lt_irrefl _ (Heap.lt_size (hle _ _ e))
  have fresh : ∀ a, s₂.heap.objs.size ≤ a → s₂.heap.get? a = none := fun a ha => by
    cases e : s₂.heap.get? a with
    | none => rfl
    | some o' => exact absurd (Heap.lt_size e) (Nat.not_lt.mpr ha)
  have hI1 : I ∉ c.mu := hI ▸ st.new_vis
  have hIlt : I < s₂.heap.objs.size := by obtain ⟨o, e⟩ := hlive; exact Heap.lt_size e
  refine wpAny_newList ?_ (by show 0 ≤ sizeLine; exact Nat.zero_le _)
  refine wpAny_newFunctionEnv hcell (fun _ h => nomatch h) (fun h' hns hsb => ?_) hkind
  rw [show ({ s₂ with heap := s₂.heap.push { cls := .type "list", data := .seq ([] : List Value).toArray } } : Shared).heap.objs.size = s₂.heap.objs.size + 1 from Heap.size_push ..] at hns hsb ⊢
  dsimp only at hsb
  generalize hDD : s₂.heap.objs.size = D at hsb hns hD1 fresh hIlt ⊢
  generalize hLL : D + 1 = L at hsb hns ⊢
  have hDL : D ≠ L := by rw [← hLL]; exact Nat.ne_of_lt (Nat.lt_succ_self _)
  have hID : I ≠ D := Nat.ne_of_lt hIlt
  have hIL : I ≠ L := by rw [← hLL]; exact Nat.ne_of_lt (Nat.lt_succ_of_lt hIlt)
  have lt_of : ∀ {a o}, s₂.heap.get? a = some o → a ≠ D ∧ a ≠ L := fun {a o} e => by
    refine ⟨fun q => ?_, fun q => ?_⟩
    · rw [fresh a (Nat.le_of_eq q.symm)] at e; cases e
    · rw [fresh a (by rw [q, ← hLL]; exact Nat.le_succ _)] at e; cases e
  have hLmu : L ∉ c.mu := fun q => by
    obtain ⟨o, e⟩ := st.low _ q
    exact (lt_of (hle _ _ e)).2 rfl
  have old : ∀ a o, s₂.heap.get? a = some o → h'.get? a = some o := fun a o e => hsb.extBut a o (lt_of e).2 (Heap.get?_push_of_some _ (Heap.get?_push_of_some _ e))
  have hacc : h'.PlainList D #[] := ⟨_, hsb.extBut _ _ hDL (Heap.get?_push_of_some _ (hDD ▸ Heap.get?_push_size _ rfl))⟩
  have hst₁ : Stt 0 h' := W.frame _ _ _ hst fun b _ o e => old b o e
  let cenv : Env := { newEnv sc L c.env.globals cl c.env.qual none .none (some c.env) 0 with scope := relabel sc c.env }
  have hsc : cenv.scope = relab sc T := by show relabel sc c.env = _; unfold relabel relab Env.kindOf; rw [ok.scope]
  have hTk : T.kind = .function := ok.kind
  have hxl : (relab sc T).names.lookup x = some .local := by rw [relab_lookup, hx]; rfl
  have hfree : ∀ z, sc.names.lookup z = some .free → (relab sc T).names.lookup z = some .cell := fun z hz => by
    rw [relab_lookup, hz]
    show some (relK T z .free) = _
    unfold relK
    rw [hfr z (mem_of_lookup hz), hTk]; rfl
  have hkinds : ∀ z k, (relab sc T).names.lookup z = some k → k = .cell → sc.names.lookup z = some .free := fun z k hz hk => by
    rw [relab_lookup] at hz
    cases q : sc.names.lookup z with
    | none => rw [q] at hz; cases hz
    | some k0 =>
      rw [q] at hz
      have hz' : relK T z k0 = k := Option.some.inj hz
      unfold relK at hz'
      split at hz'
      · rename_i hc
        rw [Bool.and_eq_true, Bool.and_eq_true] at hc
        have : k0 = .free := by simpa using hc.1.1
        rw [this]
      · subst hz'; subst hk
        exact absurd rfl (hcell _ (mem_of_lookup q))
  have hnofree : ∀ z, (relab sc T).names.lookup z ≠ some .free := fun z hz => by
    rw [relab_lookup] at hz
    cases q : sc.names.lookup z with
    | none => rw [q] at hz; cases hz
    | some k0 =>
      rw [q] at hz
      have hz' : relK T z k0 = .free := Option.some.inj hz
      unfold relK at hz'
      split at hz'
      · cases hz'
      · rename_i hc
        subst hz'
        rw [hfr z (mem_of_lookup q), hTk] at hc
        exact hc rfl
  let muc := L :: D :: I :: c.mu
  have hv0 : HLe (c.vis s₁.heap) (hideAll h' muc) := fun a o e => by
    have ha : a ∉ c.mu := fun q => by rw [show c.vis s₁.heap = hideAll s₁.heap c.mu from rfl, hideAll_none _ q] at e; cases e
    have e1 := of_hideAll _ e
    have e2 := hle _ _ e1
    refine hideAll_get _ (old _ _ e2) fun q => ?_
    rcases List.mem_cons.mp q with q | q
    · exact (lt_of e2).2 q
    · rcases List.mem_cons.mp q with q | q
      · exact (lt_of e2).1 q
      · rcases List.mem_cons.mp q with q | q
        · rw [q, hI] at e1; exact Nat.lt_irrefl _ (Heap.lt_size e1)
        · exact ha q
  have hlen : ∀ i, i ≤ n → (ysf i).length ≤ i := by
    intro i
    induction i with
    | zero => intro _; rw [hys.1]; exact Nat.le_refl _
    | succ i ih =>
      intro hi
      rw [hys.2 i hi]
      have := ih (Nat.le_of_lt hi)
      split
      · rw [List.length_append, List.length_singleton]; omega
      · omega
  -- the state of a turn
  let Inv : Nat → Shared → Prop := fun i s' => ∃ us : List Value, s'.heap.PlainList D us.toArray ∧ RVs (hideAll s'.heap muc) (ysf i) us ∧ Stt i s'.heap ∧ (∃ m, s'.heap.Ns L m) ∧
    (∀ a o, a ≠ I → s₂.heap.get? a = some o → s'.heap.get? a = some o) ∧ J s'.gens s'.os ∧ ∀ b ∈ fp, ∃ o, s'.heap.get? b = some o
  have frm : ∀ i (s' : Shared) (us : List Value), i ≤ n → s'.heap.PlainList D us.toArray → (∃ o, s'.heap.get? I = some o) → (∃ m, s'.heap.Ns L m) → (∀ a o, a ≠ I → s₂.heap.get? a = some o → s'.heap.get? a = some o) → J s'.gens s'.os →
      let cc : Cx := { J := J, h₀ := hideAll s'.heap [L], ow := [L], mu := muc, env := cenv, own := false }
      cc.Ok (relab sc T) ∧ St cc ρf s' ∧ C.Base (cc.vis cc.h₀) ∧ HLe (c.vis s₁.heap) (cc.vis s'.heap) := by
    intro i s' us _ hpl hIl hns' hold hj cc
    have hold1 : HLe s₁.heap s'.heap := fun a o e => hold a o (fun q => by rw [q, hI] at e; exact Nat.lt_irrefl _ (Heap.lt_size e)) (hle _ _ e)
    have hne1 : ∀ {a o}, s₁.heap.get? a = some o → a ∉ [L, D, I] := fun {a o} e q => by
      have e2 := hle _ _ e
      rcases List.mem_cons.mp q with q | q
      · exact (lt_of e2).2 q
      · rcases List.mem_cons.mp q with q | q
        · exact (lt_of e2).1 q
        · rw [List.mem_singleton.mp q, hI] at e; exact Nat.lt_irrefl _ (Heap.lt_size e)
    have hmuc : ∀ {a o}, s₁.heap.get? a = some o → a ∉ c.mu → a ∉ muc := fun {a o} e ha q => by
      rcases List.mem_cons.mp q with q | q
      · exact hne1 e (by rw [q]; exact List.mem_cons_self)
      · rcases List.mem_cons.mp q with q | q
        · exact hne1 e (by rw [q]; exact List.mem_cons_of_mem _ List.mem_cons_self)
        · rcases List.mem_cons.mp q with q | q
          · exact hne1 e (by rw [q]; exact List.mem_cons_of_mem _ (List.mem_cons_of_mem _ List.mem_cons_self))
          · exact ha q
    have hvv : HLe (c.vis s₁.heap) (cc.vis s'.heap) := fun a o e => by
      have ha : a ∉ c.mu := fun q => by rw [show c.vis s₁.heap = hideAll s₁.heap c.mu from rfl, hideAll_none _ q] at e; cases e
      exact hideAll_get _ (hold1 _ _ (of_hideAll _ e)) (hmuc (of_hideAll _ e) ha)
    -- the cells of the frame around
    have hcells : ∀ z, sc.names.lookup z = some .free → ∃ a, c.env.cells.lookup z = some a ∧ cl.lookup z = some a ∧ ∃ v, s₁.heap.IsCell a v := fun z hz => by
      obtain ⟨a, e1, e2⟩ := hclos z (mem_of_lookup hz)
      obtain ⟨v, p⟩ := st.cells z a (by rw [ok.scope]; exact hfr z (mem_of_lookup hz)) e1
      exact ⟨a, e1, e2, v, p⟩
    refine ⟨{ scope := hsc, kind := hkind, glob := ok.glob, blt := ok.blt, loc := List.mem_cons_self, sub := fun a ha => (by rw [List.mem_singleton.mp ha]; exact List.mem_cons_self), off := fun a ha => hideAll_none _ ha, cell := fun z hz => ?_, inj := fun q => (by cases q), free := fun z hz => absurd hz (hnofree z) }, ⟨hj, fun _ _ e => of_hideAll _ e, hns', fun z a e e' => ?_, fun z sl e => ?_, fun z w xs ys' a e => ?_, fun a ha => ?_⟩, bs.keeps fun a o e => ?_, hvv⟩
    · obtain ⟨a, _, e2, v, o, ho', _⟩ := hcells z (hkinds z _ hz rfl)
      refine ⟨a, e2, .inr ⟨rfl, o, hideAll_get _ (hold1 _ _ ho') fun q => hne1 ho' ?_⟩⟩
      rw [List.mem_singleton.mp q]; exact List.mem_cons_self
    · rw [show cc.env.scope = relab sc T from hsc] at e
      obtain ⟨a', _, e2, v, p⟩ := hcells z (hkinds z _ e rfl)
      have e'' : cl.lookup z = some a := e'
      rw [e2] at e''; cases e''
      exact ⟨v, p.keeps hold1⟩
    · obtain ⟨sl₀, h1, h2, h3⟩ := hρ z sl e
      obtain ⟨u, nm, p⟩ := st.vars z sl₀ h1
      obtain ⟨a, e1, e2, v, pc⟩ := hcells z h3
      have hnm : Nm cc s'.heap z u := by
        rcases nm with ⟨q, _⟩ | ⟨_, a', q1, q2⟩
        · rw [ok.scope, hfr z (mem_of_lookup h3)] at q; cases q
        · rw [e1] at q1; cases q1
          exact .inr ⟨.inl (by rw [show cc.env.scope = relab sc T from hsc]; exact hfree z h3), a, e2, q2.keeps hold1⟩
      refine ⟨u, hnm, ?_⟩
      cases sl₀ with
      | val v => cases h2; exact RV.mono hvv p
      | «mut» xs =>
        cases h2
        obtain ⟨a', us', e', ha', pl, r⟩ := p
        obtain ⟨n', pl'⟩ := id pl
        refine ⟨a', us', e', fun q => ?_, plain_keeps hold1 pl, RVs.mono hvv r⟩
        exact hne1 pl' (by rw [List.mem_singleton.mp q]; exact List.mem_cons_self)
      | rd xs =>
        cases h2
        obtain ⟨a', us', e', ha', pl, r⟩ := p
        obtain ⟨n', pl'⟩ := id pl
        refine ⟨a', us', e', fun q => ?_, plain_keeps hold1 pl, RVs.mono hvv r⟩
        exact hne1 pl' (by rw [List.mem_singleton.mp q]; exact List.mem_cons_self)
      | app _ => cases h2
    · obtain ⟨sl₀, h1, h2, h3⟩ := hρ z _ e
      cases sl₀ <;> cases h2
    · rcases List.mem_cons.mp ha with e | ha
      · obtain ⟨m, o, _, _, e', _⟩ := hns'; exact ⟨o, e ▸ e'⟩
      · rcases List.mem_cons.mp ha with e | ha
        · obtain ⟨k, e'⟩ := hpl; exact ⟨_, e ▸ e'⟩
        · rcases List.mem_cons.mp ha with e | ha
          · rw [e]; exact hIl
          · obtain ⟨o, e⟩ := st.low a ha; exact ⟨o, hold1 _ _ e⟩
    · have ha : a ∉ c.mu := fun q => by rw [show c.vis c.h₀ = hideAll c.h₀ c.mu from rfl, hideAll_none _ q] at e; cases e
      have e1 := st.keep _ _ (of_hideAll _ e)
      exact hideAll_get _ (hideAll_get _ (hold1 _ _ e1) fun q => hne1 e1 (by rw [List.mem_singleton.mp q]; exact List.mem_cons_self)) (hmuc e1 ha)
  have loop : ∀ s₄ : Shared, s₄ = { s₂ with heap := h', toks := s₂.toks + ([] : List (Str × Value)).length } →
      codeAny (model C.prog C.w) A (.compLoop (.ListComp elt [⟨.Name x px, iter, ifs, 0⟩] sc pos) 0 (.ref I) (.ref D) cenv) (RR (.ref D) L) s₄ := by
    rintro s₄ rfl
    refine codeAny_compLoop_tests (fun j s' => ∃ i, i ≤ n ∧ j = n + 1 - i ∧ Inv i s') ?_ (n + 1) ⟨0, Nat.zero_le _, rfl, [], hacc, by rw [hys.1]; rfl, hst₁, ⟨_, hns⟩, fun a o _ e => old a o e, ?_, fun b hb => ?_⟩
    · rintro j s' ⟨i, hin, rfl, us, hpl, hrv, hst', hns', hold, hj, hfpl⟩
      by_cases hlt : i < n
      · refine W.item i s' _ _ hlt hst' fun v h1 tk hPv hst2 keep => ?_
        have keep' : ∀ a o, a ≠ I → s'.heap.get? a = some o → h1.get? a = some o := fun a o ha e => keep a o (fun q => ha (List.mem_singleton.mp q)) e
        have hpl1 : h1.PlainList D us.toArray := let ⟨k, e⟩ := hpl; ⟨k, keep' _ _ (Ne.symm hID) e⟩
        have hns1 : ∃ m, h1.Ns L m := let ⟨m, o, es, ep, e, r⟩ := hns'; ⟨m, o, es, ep, keep' _ _ (Ne.symm hIL) e, r⟩
        have hI1' := hlv _ _ hst2
        obtain ⟨okc, stc, bsc, hvv⟩ := frm i { s' with heap := h1, toks := tk } us hin hpl1 hI1' hns1 (fun a o ha e => keep' a o ha (hold a o ha e)) hj
        have hvm : HLe (hideAll s'.heap muc) (hideAll h1 muc) := hide_le fun a o ha e => keep' a o (fun q => ha (by rw [q]; exact List.mem_cons_of_mem _ (List.mem_cons_of_mem _ List.mem_cons_self))) e
        refine wpAny_assign_Name ?_
        refine st_storeV (c := { J := J, h₀ := hideAll h1 [L], ow := [L], mu := muc, env := cenv, own := false }) okc stc (y := x) (fun q => by rw [hxl] at q; cases q) (.inl hxl) ?_ (RV.mono hvv (hP i v hPv)) fun h2 t2 st2 hv2 => ?_
        · exact hna
        have hk2 : ∀ a o, a ≠ L → h1.get? a = some o → h2.get? a = some o := fun a o ha e => st2.keep a o (hideAll_get _ e fun q => ha (List.mem_singleton.mp q))
        have rv2 : RVs (hideAll h2 muc) (ysf i) us := RVs.mono (hvm.trans hv2) hrv
        refine wpAny_mono (Run.use (E := _) (htest i hlt) rfl okc bsc cn st2) (fun ok3 s3 ⟨st3, p3, e3⟩ => ?_) fun _ _ e => e
        have hfp2 : ∀ (h9 : Heap), (∀ a o, a ≠ D → h2.get? a = some o → h9.get? a = some o) → ∀ bb ∈ fp, ∀ o, h1.get? bb = some o → h9.get? bb = some o := by
          intro h9 hk9 bb hb o e
          rcases hfp bb hb with q | ⟨o', q⟩
          · exact hk9 _ _ (by rw [q]; exact hID) (hk2 _ _ (by rw [q]; exact hIL) e)
          · exact hk9 _ _ (lt_of (hle _ _ q)).1 (hk2 _ _ (lt_of (hle _ _ q)).2 e)
        have hold9 : ∀ (h9 : Heap), (∀ a o, a ≠ D → h2.get? a = some o → h9.get? a = some o) → ∀ a o, a ≠ I → s₂.heap.get? a = some o → h9.get? a = some o := fun h9 hk9 a o ha e =>
          hk9 _ _ (lt_of e).1 (hk2 _ _ (lt_of e).2 (keep' a o ha (hold a o ha e)))
        have hlive9 : ∀ (h9 : Heap), (∀ a o, a ≠ D → h2.get? a = some o → h9.get? a = some o) → ∀ bb ∈ fp, ∃ o, h9.get? bb = some o := fun h9 hk9 bb hb => by
          have : ∃ o, h1.get? bb = some o := by
            by_cases q : bb = I
            · rw [q]; exact hI1'
            · obtain ⟨o, e⟩ := hfpl bb hb; exact ⟨o, keep' _ _ q e⟩
          obtain ⟨o, e⟩ := this
          exact ⟨o, hfp2 h9 hk9 bb hb o e⟩
        subst e3
        cases hb : b i with
        | false =>
          rw [if_neg Bool.false_ne_true]
          refine ⟨n + 1 - (i + 1), by omega, i + 1, hlt, rfl, us, ?_, ?_, W.frame _ _ _ hst2 (hfp2 s3.heap fun a o _ e => p3.le a o e), ?_, hold9 _ (fun a o _ e => p3.le a o e), p3.j, hlive9 _ (fun a o _ e => p3.le a o e)⟩
          · exact plain_keeps p3.le (let ⟨k, e⟩ := hpl1; ⟨k, hk2 _ _ hDL e⟩)
          · rw [hys.2 i hlt, hb, if_neg Bool.false_ne_true]
            exact RVs.mono p3.vis rv2
          · exact st3.ns
        | true =>
          rw [if_pos rfl]
          refine wpAny_mono (Run.use (E := _) (helt i hlt hb) rfl okc bsc cn st3) (fun u s4 ⟨st4, p4, r4⟩ => ?_) fun _ _ e => e
          have hle4 : ∀ a o, h2.get? a = some o → s4.heap.get? a = some o := fun a o e => p4.le _ _ (p3.le _ _ e)
          have hpl4 : s4.heap.PlainList D us.toArray := plain_keeps p4.le (plain_keeps p3.le (let ⟨k, e⟩ := hpl1; ⟨k, hk2 _ _ hDL e⟩))
          have hul : us.length = (ysf i).length := hrv.len
          refine wpAny_list_append_plain hpl4 (fun h5 hpl5 hs5 => ?_) (by simp only [List.size_toArray]; have := hlen i hin; omega)
          have hk5 : ∀ a o, a ≠ D → h2.get? a = some o → h5.get? a = some o := fun a o ha e => hs5.extBut a o ha (hle4 a o e)
          refine ⟨n + 1 - (i + 1), by omega, i + 1, hlt, rfl, us ++ [u], ?_, ?_, W.frame _ _ _ hst2 (hfp2 h5 hk5), ?_, hold9 h5 hk5, p4.j, hlive9 h5 hk5⟩
          · have : (us ++ [u]).toArray = us.toArray.push u := by simp
            rw [this]; exact hpl5
          · rw [hys.2 i hlt, hb, if_pos rfl]
            have hv5 : HLe (hideAll s4.heap muc) (hideAll h5 muc) := hide_sameBut hs5 (List.mem_cons_of_mem _ List.mem_cons_self)
            exact (RVs.mono ((p3.vis.trans p4.vis).trans hv5) rv2).append (RVs.one (RV.mono hv5 r4))
          · obtain ⟨m, nn⟩ := st4.ns
            exact ⟨m, nn.sameBut hs5 (Ne.symm hDL)⟩
      · have hin' : i = n := by omega
        subst hin'
        refine W.done s' _ _ hst' fun h1 tk keep => ?_
        have keep' : ∀ a o, a ≠ I → s'.heap.get? a = some o → h1.get? a = some o := fun a o ha e => keep a o (fun q => ha (List.mem_singleton.mp q)) e
        refine fin D L _ us hD1 ?_ ?_ hDL ?_ ?_ ?_ (fun a o e => keep' a o (fun q => ?_) (hold a o (fun q => ?_) (hle _ _ e))) hj
        · cases q : s₁.heap.get? D with
          | none => rfl
          | some o => exact absurd rfl (lt_of (hle _ _ q)).1
        · cases q : s₁.heap.get? L with
          | none => rfl
          | some o => exact absurd rfl (lt_of (hle _ _ q)).2
        · obtain ⟨m, o, es, ep, e, r⟩ := hns'; exact ⟨m, o, es, ep, keep' _ _ (Ne.symm hIL) e, r⟩
        · obtain ⟨k, e⟩ := hpl; exact ⟨k, keep' _ _ (Ne.symm hID) e⟩
        · refine RVs.mono (fun a o e => ?_) hrv
          have ha : a ∉ muc := fun q => by rw [hideAll_none _ q] at e; cases e
          refine hideAll_get _ (keep' a o (fun q => ha (by rw [q]; exact List.mem_cons_of_mem _ (List.mem_cons_of_mem _ List.mem_cons_self))) (of_hideAll _ e)) fun q => ha ?_
          rcases List.mem_cons.mp q with q | q
          · rw [q]; exact List.mem_cons_self
          · rcases List.mem_cons.mp q with q | q
            · rw [q]; exact List.mem_cons_of_mem _ List.mem_cons_self
            · exact List.mem_cons_of_mem _ (List.mem_cons_of_mem _ (List.mem_cons_of_mem _ q))
        · rw [q, hI] at e; exact Nat.lt_irrefl _ (Heap.lt_size e)
        · rw [q, hI] at e; exact Nat.lt_irrefl _ (Heap.lt_size e)
    · show J s₂.gens s₂.os
      rw [hg, ho, ← hJ]; exact st.j
    · rcases hfp b hb with q | ⟨o, q⟩
      · rw [q]; obtain ⟨o, e⟩ := hlive; exact ⟨o, old _ _ e⟩
      · exact ⟨o, old _ _ (hle _ _ q)⟩
  exact codeAny_compStart_list (loop _ rfl) (W.self 0 _ _ _ hst₁ (loop _ rfl))
end
end Mine

end
section
open PySem PySem.W PySem.Spec PySem.Calls PyProof.Rows
open PySem.Builtin PySem.Builtin.Str
set_option Elab.async false
set_option maxRecDepth 100000
namespace Mine
section
variable {C : Cfg} {d : Nat} {J : Js} {T : Scope} {ρ : Rho}

/-- what is iterated: n items -/
noncomputable def Iters (C : Cfg) (c : Cx) (A : Around) (s₁ : Shared) (xv : Value) (n : Nat) (vs : Nat → V) : Prop :=
  ∀ (Q E : Value → Shared → Prop), (∀ fp P Stt (s₂ : Shared), Walks C.prog C.w A s₁.heap.objs.size fp [s₁.heap.objs.size] n P Stt → HLe s₁.heap s₂.heap → s₂.gens = s₁.gens → s₂.os = s₁.os → (∃ o, s₂.heap.get? s₁.heap.objs.size = some o) →
    (∀ b ∈ fp, b = s₁.heap.objs.size ∨ (b ∉ c.ow ∧ ∃ o, s₁.heap.get? b = some o)) → Stt 0 s₂.heap → (∀ i v, P i v → RV (c.vis s₁.heap) (vs i) v) → (∀ i h us, Stt i h → ¬ h.PlainList s₁.heap.objs.size us) → (∀ i h, Stt i h → ∃ o, h.get? s₁.heap.objs.size = some o) →
    Q (.ref s₁.heap.objs.size) s₂) → wpAny (model C.prog C.w) A (pyIter xv) Q E s₁
noncomputable def Src (C : Cfg) (d : Nat) (J : Js) (T : Scope) (ρ : Rho) (e : Expr) (n : Nat) (vs : Nat → V) : Prop :=
  ∀ (c : Cx) (A : Around) (s : Shared) (Q E : Value → Shared → Prop), c.J = J → c.Ok T → C.Base (c.vis c.h₀) → Cnd A d → St c ρ s →
    (∀ u s', Stp c s s' → Iters C c A s' u n vs → Q u s') → wpAny (model C.prog C.w) A (eval e c.env) Q E s

theorem src_list {e : Expr} {xs : List V} (h : Ev C d J T ρ e (.list xs)) : Src C d J T ρ e xs.length (fun i => xs.getD i .none) :=
  fun c A s Q E hJ ok bs cn x q => wpAny_mono (h.use hJ ok bs cn x) (fun u s₁ ⟨x₁, p₁, r₁⟩ => q u s₁ p₁ fun Q E q => by
    obtain ⟨a, us, rfl, pl, r⟩ := r₁
    have il := isList_of pl
    have hl := r.len
    obtain ⟨ol, pl', _⟩ := pl
    have hav : a ∉ c.mu := fun q => by rw [show c.vis s₁.heap = hideAll s₁.heap c.mu from rfl, hideAll_none _ q] at pl'; cases pl'
    have hgo := of_hideAll _ pl'
    have hne : a ≠ s₁.heap.objs.size := Nat.ne_of_lt (Heap.lt_size hgo)
    refine wpAny_pyIter_list il ?_
    have W := Walks.list (prog := C.prog) (w := C.w) (A := A) cn.hh s₁.heap.objs.size a hne us.toArray
    rw [show us.toArray.size = xs.length by simp [hl]] at W
    refine q _ _ _ _ W (HLe.push _ _) rfl rfl ⟨_, Heap.get?_push_size _ rfl⟩ (fun b hb => ?_) ⟨⟨_, Heap.get?_push_size _ rfl, rfl, rfl⟩, il.at fun o e => Heap.get?_push_of_some _ e⟩ (fun i v hv => ?_)
      (fun i h us' ⟨⟨o, ho, hc, _⟩, _⟩ ⟨n2, q⟩ => ?_) (fun i h ⟨⟨o, ho, _⟩, _⟩ => ⟨o, ho⟩)
    · rcases List.mem_cons.mp hb with e | hb
      · exact .inl e
      · rw [List.mem_singleton.mp hb]; exact .inr ⟨fun q => hav (ok.sub _ q), _, hgo⟩
    · have hv' : us[i]? = some v := by simpa using hv
      have hi : i < xs.length := by rw [← hl]; rw [List.getElem?_eq_some_iff] at hv'; exact hv'.1
      obtain ⟨w, hw, rw'⟩ := r.get i xs[i] (by simp [hi])
      rw [hv'] at hw; cases hw
      simpa [List.getD, hi] using rw'
    · rw [ho] at q; cases q; exact absurd (Value.type.inj hc) (by decide)) fun _ _ e => e
theorem src_tup {e : Expr} {xs : List V} (h : Ev C d J T ρ e (.tup xs)) : Src C d J T ρ e xs.length (fun i => xs.getD i .none) :=
  fun c A s Q E hJ ok bs cn x q => wpAny_mono (h.use hJ ok bs cn x) (fun u s₁ ⟨x₁, p₁, r₁⟩ => q u s₁ p₁ fun Q E q => by
    obtain ⟨a, us, rfl, pl, r⟩ := r₁
    have il : s₁.heap.IsTuple a us.toArray := isTup_of pl
    have hl := r.len
    obtain ⟨ol, pl', _⟩ := pl
    have hav : a ∉ c.mu := fun q => by rw [show c.vis s₁.heap = hideAll s₁.heap c.mu from rfl, hideAll_none _ q] at pl'; cases pl'
    have hgo := of_hideAll _ pl'
    have hne : a ≠ s₁.heap.objs.size := Nat.ne_of_lt (Heap.lt_size hgo)
    refine wpAny_pyIter_tuple il ?_
    have W := Walks.tuple (prog := C.prog) (w := C.w) (A := A) cn.hh s₁.heap.objs.size a hne us.toArray
    rw [show us.toArray.size = xs.length by simp [hl]] at W
    refine q _ _ _ _ W (HLe.push _ _) rfl rfl ⟨_, Heap.get?_push_size _ rfl⟩ (fun b hb => ?_) ⟨⟨_, Heap.get?_push_size _ rfl, rfl, rfl⟩, let ⟨o, e, r⟩ := il; ⟨o, Heap.get?_push_of_some _ e, r⟩⟩ (fun i v hv => ?_)
      (fun i h us' ⟨⟨o, ho, hc, _⟩, _⟩ ⟨n2, q⟩ => ?_) (fun i h ⟨⟨o, ho, _⟩, _⟩ => ⟨o, ho⟩)
    · rcases List.mem_cons.mp hb with e | hb
      · exact .inl e
      · rw [List.mem_singleton.mp hb]; exact .inr ⟨fun q => hav (ok.sub _ q), _, hgo⟩
    · have hv' : us[i]? = some v := by simpa using hv
      have hi : i < xs.length := by rw [← hl]; rw [List.getElem?_eq_some_iff] at hv'; exact hv'.1
      obtain ⟨w, hw, rw'⟩ := r.get i xs[i] (by simp [hi])
      rw [hv'] at hw; cases hw
      simpa [List.getD, hi] using rw'
    · rw [ho] at q; cases q; exact absurd (Value.type.inj hc) (by decide)) fun _ _ e => e
theorem src_range {e : Expr} {a b : Int} {n : Nat} (h : Run C d J T ρ (fun env => eval e env) (IsRg a b)) (hn : b - a = n ∨ (b ≤ a ∧ n = 0)) (hsm : Builtin.Range.small a b 1 = true) : Src C d J T ρ e n (fun i => .int (a + i)) :=
  fun c A s Q E hJ ok bs cn x q => wpAny_mono (h.use hJ ok bs cn x) (fun u s₁ ⟨x₁, p₁, r₁⟩ => q u s₁ p₁ fun Q E q => by
    obtain ⟨r, t, u', v', rfl, hr⟩ := r₁
    have hr' : IsRange s₁.heap r a b 1 t u' v' := of_hideAll _ hr
    refine wpAny_pyIter_range hr' hsm ?_
    rw [rangeSize_one a b n hn]
    refine q _ _ _ _ (Walks.range cn.hh _ a 1 n) (HLe.push _ _) rfl rfl ⟨_, Heap.get?_push_size _ rfl⟩ (fun b hb => .inl (List.mem_singleton.mp hb)) (by show IsRangeIter _ _ _ _ _; simpa using Heap.get?_push_size _ rfl) (fun i v hv => ?_) (fun i h us' hi ⟨n2, q⟩ => ?_) (fun i h hi => ⟨_, hi⟩)
    · obtain ⟨t, rfl⟩ := hv
      exact ⟨t, by rw [Int.mul_one]⟩
    · rw [show h.get? _ = _ from hi] at q; exact absurd (Value.type.inj (congrArg Obj.cls (Option.some.inj q))) (by decide)) fun _ _ e => e

theorem st_for {y : Str} {p pos : Pos} {e : Expr} {body : List Stmt} {n : Nat} {vs : Nat → V} {o : Out} (ρs : Nat → Rho) (k : Nat) (h : Src C d J T ρ e n vs) (h0 : ρs 0 = ρ)
    (hy : T.names.lookup y = some .local ∨ T.names.lookup y = some .cell) (hna : ∀ i, i ≤ k → noApp (ρs i) y = true) (hk : k ≤ n)
    (turn : ∀ i, i < k → Ex C d J T (put (ρs i) y (.val (vs i))) body (.next (ρs (i + 1))))
    (ends : Ends C d J T body y (ρs k) (if k < n then some (vs k) else none) o) (hs : ∀ env x, foldedSetIterable e env x = pure x := by intro _ _; with_unfolding_all rfl) : Ex1 C d J T ρ (.For (.Name y p) e body [] pos) o :=
  fun c A s Q E hJ ok bs cn x f => wpAny_For (h c A s _ E hJ ok.1 bs cn x fun u s₁ p₁ it => it _ _ fun fp P Stt s₂ W hle hg ho hl hfp hst hP hnl hlv =>
    for_core (fp := fp) (vs := vs) ρs k W hJ ok.1 ok.2 bs cn (by rw [h0]; exact x.step p₁) rfl hle hg ho hl hfp hst hP hnl hlv hy hna hk turn ends f) (hs _)

theorem ev_comp {x : Str} {px pos : Pos} {elt iter : Expr} {ifs : List Expr} {sc : Scope} {n : Nat} {vs : Nat → V} {ys : List V} (ρf : Rho) (b : Nat → Bool) (y : Nat → V) (ysf : Nat → List V) (h : Src C d J T ρ iter n vs) (hn : n ≤ sizeLine)
    (hfr : ∀ z, (z, NameKind.free) ∈ sc.names → T.names.lookup z = some .cell) (hcell : ∀ p ∈ sc.names, p.2 ≠ .cell) (hkind : sc.kind = .function) (hnames : ∀ x ∈ sc.names, x.2 = .local → sc.names.lookup x.1 = some .local) (hx : sc.names.lookup x = some .local)
    (hρ : ∀ z sl, ρf.lookup z = some sl → ∃ sl₀, ρ.lookup z = some sl₀ ∧ inComp sl₀ = some sl ∧ sc.names.lookup z = some .free)
    (hna : noApp ρf x = true) (hys : ysf 0 = [] ∧ ∀ i, i < n → ysf (i + 1) = if b i then ysf i ++ [y i] else ysf i) (hyn : ysf n = ys)
    (htest : ∀ i, i < n → Tss C d J (relab sc T) (put ρf x (.val (vs i))) ifs (b i))
    (helt : ∀ i, i < n → b i = true → Ev C d J (relab sc T) (put ρf x (.val (vs i))) elt (y i)) (hs : ∀ env x, foldedSetIterable iter env x = pure x := by intro _ _; with_unfolding_all rfl) :
    Ev C d J T ρ (.ListComp elt [⟨.Name x px, iter, ifs, 0⟩] sc pos) (.list ys) := by
  intro c A s Q E hJ ok bs cn x0 q
  obtain ⟨cl, hcl, hcl2⟩ := closureFor_ok (sc := sc) (env := c.env) fun z hz => let ⟨a, e, _⟩ := ok.cell z (hfr z hz); ⟨a, e⟩
  show wpAny _ _ (eval (.ListComp elt [⟨.Name x px, iter, ifs, 0⟩] sc pos) c.env) _ _ _
  rw [eval_ListComp]
  refine wpAny_comprehension_free (use := none) rfl (hs _) hcl hkind hnames (h c A s _ E hJ ok bs cn x0 fun u s₁ p₁ it => it _ _ fun fp P Stt s₂ W hle hg ho hl hfp hst hP hnl hlv => ?_)
  refine comp_core (RR := fun acc Lc => compPost (model C.prog C.w) A E none Q acc Lc) b y ysf W hJ ok bs cn (x0.step p₁) rfl hle hg ho hl (fun b hb => (hfp b hb).imp id And.right) hst hP hlv hn hcl2 hfr hcell hkind hx hρ hna hys htest helt ?_
  intro D Lc s' us hD hD1 hL1 hDL hns hpl hrv hle1 hj
  obtain ⟨m, hm⟩ := hns
  refine ⟨m, hm, fun h' hsb => ?_⟩
  have hk : HLe s₁.heap h' := fun a o e => hsb.extBut a o (fun q => by rw [q, hL1] at e; cases e) (hle1 a o e)
  refine q (.ref D) _ (p₁.trans ⟨hk, by rw [hJ]; exact hj⟩) ⟨D, us, rfl, ?_, ?_⟩
  · obtain ⟨k, e⟩ := hpl
    exact ⟨_, hideAll_get _ (hsb.extBut D _ hDL e) hD, rfl, k, rfl⟩
  · rw [← hyn]
    refine RVs.mono (fun a o e => ?_) hrv
    have ha : a ∉ Lc :: D :: c.mu := fun q => by rw [hideAll_none _ q] at e; cases e
    exact hideAll_get _ (hsb.extBut a o (fun q => ha (by rw [q]; exact List.mem_cons_self)) (of_hideAll _ e)) fun q => ha (List.mem_cons_of_mem _ (List.mem_cons_of_mem _ q))

/-- a comprehension assigned to a name of the frame -/
theorem st_compAssign {x z : Str} {px pz pos spos : Pos} {elt iter : Expr} {ifs : List Expr} {sc : Scope} {n : Nat} {vs : Nat → V} {ys : List V} (ρf : Rho) (b : Nat → Bool) (y : Nat → V) (ysf : Nat → List V) (h : Src C d J T ρ iter n vs) (hn : n ≤ sizeLine)
    (hz : T.names.lookup z = some .local) (hnz : noApp ρ z = true) (hsw : ∀ env : Env, env.scope = T → swapsWith (.ListComp elt [⟨.Name x px, iter, ifs, 0⟩] sc pos) (some (.Name z pz)) spos.line env = pure true)
    (hfr : ∀ z, (z, NameKind.free) ∈ sc.names → T.names.lookup z = some .cell) (hcell : ∀ p ∈ sc.names, p.2 ≠ .cell) (hkind : sc.kind = .function) (hnames : ∀ x ∈ sc.names, x.2 = .local → sc.names.lookup x.1 = some .local) (hx : sc.names.lookup x = some .local)
    (hρ : ∀ z sl, ρf.lookup z = some sl → ∃ sl₀, ρ.lookup z = some sl₀ ∧ inComp sl₀ = some sl ∧ sc.names.lookup z = some .free)
    (hna : noApp ρf x = true) (hys : ysf 0 = [] ∧ ∀ i, i < n → ysf (i + 1) = if b i then ysf i ++ [y i] else ysf i) (hyn : ysf n = ys)
    (htest : ∀ i, i < n → Tss C d J (relab sc T) (put ρf x (.val (vs i))) ifs (b i))
    (helt : ∀ i, i < n → b i = true → Ev C d J (relab sc T) (put ρf x (.val (vs i))) elt (y i)) (hs : ∀ env x, foldedSetIterable iter env x = pure x := by intro _ _; with_unfolding_all rfl) :
    Ex1 C d J T ρ (.Assign [.Name z pz] (.ListComp elt [⟨.Name x px, iter, ifs, 0⟩] sc pos) spos) (.next (put ρ z (.val (.list ys)))) := by
  intro c A s Q E hJ okk bs cn x0 f
  have ok := okk.1
  obtain ⟨cl, hcl, hcl2⟩ := closureFor_ok (sc := sc) (env := c.env) fun z hz => let ⟨a, e, _⟩ := ok.cell z (hfr z hz); ⟨a, e⟩
  rw [exec_Assign_Name_used _ _ _ _ (hsw _ ok.scope)]
  refine wpAny_bind (wpAny_standAt (wpAny_bind ?_))
  show wpAny _ A (do let _ ← comprehension (.ListComp elt [⟨.Name x px, iter, ifs, 0⟩] sc pos) sc c.env _ (newList []) false (eval iter c.env) (some (assign (.Name z pz) c.env))) _ _ s
  refine wpAny_bind (wpAny_mono (wpAny_comprehension_free (use := some (assign (.Name z pz) c.env)) (Q := fun _ s' => Q .next s') rfl (hs _) hcl hkind hnames
    (h c A s _ E hJ ok bs cn x0 fun u s₁ p₁ it => it _ _ fun fp P Stt s₂ W hle hg ho hl hfp hst hP hnl hlv => ?_)) (fun _ s' hq => wpAny_pure (wpAny_pure hq)) fun _ _ e => e)
  refine comp_core (RR := fun acc Lc => compPost (model C.prog C.w) A E (some (assign (.Name z pz) c.env)) (fun _ s' => Q .next s') acc Lc) b y ysf W hJ ok bs cn (x0.step p₁) rfl hle hg ho hl (fun b hb => (hfp b hb).imp id And.right) hst hP hlv hn hcl2 hfr hcell hkind hx hρ hna hys htest helt ?_
  intro D Lc s' us hD hD1 hL1 hDL hns hpl hrv hle1 hj
  obtain ⟨m, hm⟩ := hns
  have x1 : St c ρ s₁ := x0.step p₁
  have hLm : Lc ∉ c.mu := fun q => by obtain ⟨o, e⟩ := x1.low _ q; rw [hL1] at e; cases e
  have hLo : Lc ∉ c.ow := fun q => hLm (ok.sub _ q)
  have hL0 : c.h₀.get? Lc = none := by
    cases e : c.h₀.get? Lc with
    | none => rfl
    | some o => have := x1.keep _ _ e; rw [hL1] at this; cases this
  obtain ⟨oL, esL, epL, hoL, hrL⟩ := hm
  have hvv : HLe (c.vis s₁.heap) ((c.hid Lc).vis s'.heap) := fun b o e => by
    have hb : b ∉ c.mu := fun q => by rw [show c.vis s₁.heap = hideAll s₁.heap c.mu from rfl, hideAll_none _ q] at e; cases e
    have e1 := of_hideAll _ e
    refine hideAll_get _ (hle1 _ _ e1) fun q => ?_
    rcases List.mem_cons.mp q with q | q
    · rw [q, hL1] at e1; cases e1
    · exact hb q
  have x2 : St (c.hid Lc) ρ s' := x1.re hvv rfl rfl hle1 (by show c.J _ _; rw [hJ]; exact hj) (x1.keep.trans hle1) fun a ha => by
    rcases List.mem_cons.mp ha with q | q
    · subst q; exact ⟨_, hoL⟩
    · obtain ⟨o, e⟩ := x1.low a q; exact ⟨o, hle1 _ _ e⟩
  have x3 := x2.on
  have ok2 := (ok.hid Lc).on x2.keep
  show wpAny _ A (assign (.Name z pz) c.env (.ref D)) _ E s'
  refine wpAny_assign_Name (st_storeV (c := (c.hid Lc).on s'.heap) ok2 x3 (fun q => by rw [hz] at q; cases q) (v := .list ys) (.inl hz) hnz ⟨D, us, rfl, ?_, ?_⟩ fun h'' t x4 hv4 => ?_)
  · obtain ⟨k, e⟩ := hpl
    refine ⟨_, hideAll_get _ e fun q => ?_, rfl, k, rfl⟩
    rcases List.mem_cons.mp q with q | q
    · exact hDL q
    · exact hD q
  · rw [← hyn]
    refine RVs.mono (fun a o e => ?_) hrv
    have ha : a ∉ Lc :: D :: c.mu := fun q => by rw [hideAll_none _ q] at e; cases e
    exact hideAll_get _ (of_hideAll _ e) fun q => ha (by
      rcases List.mem_cons.mp q with q | q
      · rw [q]; exact List.mem_cons_self
      · exact List.mem_cons_of_mem _ (List.mem_cons_of_mem _ q))
  · have hnL : h''.Ns Lc m := ⟨oL, esL, epL, x4.keep _ _ (hideAll_get _ hoL hLo), hrL⟩
    refine ⟨m, hnL, fun h3 hsb => ?_⟩
    have x5 : St (c.hid Lc) _ _ := x4.off (ok.hid Lc) x2.keep
    have hj := x5.hop (c' := c) (I := Lc) (h' := h3) (tk := t) (ok.hid Lc) List.mem_cons_self hLo hL0 (fun us => Ns.noList hnL us) rfl rfl rfl rfl (fun a ha => List.mem_cons_of_mem _ ha)
      (fun b ob hb e => (hsb.2 b hb).trans e) (fun a ha => by
        obtain ⟨o, e⟩ := x5.low a (List.mem_cons_of_mem _ ha)
        exact ⟨o, (hsb.2 a fun q => hLm (q ▸ ha)).trans e⟩)
    exact f c _ (Grow.refl ok) hj.1
end
end Mine

end
section
open PySem PySem.W PySem.Spec PySem.Calls PyProof.Rows
open PySem.Builtin PySem.Builtin.Str
set_option Elab.async false
set_option maxRecDepth 100000
namespace Mine

noncomputable def recOf : Stmt → FnRec
  | .FunctionDef n a b _ _ _ sc _ _ _ => ⟨n, a, b, sc⟩
  | _ => ⟨"", ⟨[], [], none, [], [], none, []⟩, [], ⟨.module, [], false, false, []⟩⟩
/-- the def that stands at a place of the top -/
noncomputable def rec (n : Nat) : FnRec := recOf ((PySem.Challenge.pw_rx0081_01.main.body.drop n).headD (.Pass ⟨0, 0, 0, 0⟩))

/-- what the top has left behind -/
structure Good (C : Cfg) : Prop where
  fn : ∀ (n : Nat) (y : Str), (rec n).name = y → y ≠ "" → ∃ a, C.mg y = some (.ref a) ∧ C.fn a = some (rec n)

inductive At : Rho → Str → Slot → Prop
  | here {y sl r} : At ((y, sl) :: r) y sl
  | there {x sl' y sl r} : At r y sl → ((y == x) = false) → At ((x, sl') :: r) y sl
theorem At.hereE {y sl sl' r} (h : sl = sl') : At ((y, sl) :: r) y sl' := h ▸ .here
theorem At.eq {ρ y sl} (h : At ρ y sl) : ρ.lookup y = some sl := by
  induction h with
  | here => simp [List.lookup]
  | there _ e ih => simp only [List.lookup, e]; exact ih
inductive Put : Rho → Str → Slot → Rho → Prop
  | new {y sl} : Put [] y sl [(y, sl)]
  | here {y sl sl' r} : Put ((y, sl') :: r) y sl ((y, sl) :: r)
  | there {x sl' y sl r r'} : Put r y sl r' → ((x == y) = false) → Put ((x, sl') :: r) y sl ((x, sl') :: r')
theorem Put.eq {ρ y sl ρ'} (h : Put ρ y sl ρ') : put ρ y sl = ρ' := by
  induction h with
  | new => rfl
  | here => unfold put; simp
  | there _ e ih => unfold put; rw [e, ih]; simp
inductive Sub : Rho → Rho → Prop
  | nil {ρ} : Sub ρ []
  | cons {ρ y sl r} : At ρ y sl → Sub ρ r → Sub ρ ((y, sl) :: r)
theorem Sub.get {ρ ρ'} (h : Sub ρ ρ') : ∀ x sl, ρ'.lookup x = some sl → ρ.lookup x = some sl := by
  induction h with
  | nil => intro x sl e; simp at e
  | @cons y s r a _ ih =>
    intro x sl e
    by_cases h : x = y
    · subst h; simp [List.lookup] at e; subst e; exact a.eq
    · have : (x == y) = false := beq_eq_false_iff_ne.mpr h
      simp only [List.lookup, this] at e
      exact ih x sl e
theorem St.less {c : Cx} {ρ ρ' : Rho} {s : Shared} (x : St c ρ s) (h : Sub ρ ρ') : St c ρ' s where
  j := x.j
  keep := x.keep
  ns := x.ns
  cells := x.cells
  vars := fun y sl e => x.vars y sl (h.get y sl e)
  mutd := fun y z xs ys a e e' => x.mutd y z xs ys a (h.get _ _ e) (h.get _ _ e')
  low := x.low
inductive NoApp : Rho → Str → Prop
  | nil {y} : NoApp [] y
  | val {x v y r} : NoApp r y → NoApp ((x, .val v) :: r) y
  | mu {x v y r} : NoApp r y → NoApp ((x, .mut v) :: r) y
  | rd {x v y r} : NoApp r y → NoApp ((x, .rd v) :: r) y
  | app {x z y r} : NoApp r y → ((z == y) = false) → NoApp ((x, .app z) :: r) y
theorem NoApp.eq {ρ y} (h : NoApp ρ y) : noApp ρ y = true := by
  unfold noApp
  induction h with
  | nil => rfl
  | val _ ih => simpa using ih
  | mu _ ih => simpa using ih
  | rd _ ih => simpa using ih
  | app _ e ih => simp only [List.all_cons, e, ih]; rfl

section
variable {C : Cfg} {d : Nat} {J : Js} {T : Scope} {ρ : Rho}
theorem ev_loc {y : Str} {v : V} {pos : Pos} (h : At ρ y (.val v)) (hd : ((y == ("__debug__" : Str)) || (y == ("__classdict__" : Str))) = false) : Ev C d J T ρ (.Name y pos) v := ev_name h.eq hd
theorem Ev.cast {e : Expr} {v w : V} (h : Ev C d J T ρ e v) (hv : v = w) : Ev C d J T ρ e w := hv ▸ h
theorem Tst.cast {e : Expr} {v w : Bool} (h : Tst C d J T ρ e v) (hv : v = w) : Tst C d J T ρ e w := hv ▸ h
theorem st_set {y : Str} {p pos : Pos} {e : Expr} {v : V} {ρ' : Rho} (h : Ev C d J T ρ e v) (hp : Put ρ y (.val v) ρ') (hy : T.names.lookup y = some .local ∨ T.names.lookup y = some .cell) (hna : NoApp ρ y)
    (hs : ∀ env, swapsWith e (some (.Name y p)) pos.line env = pure false := by intro _; with_unfolding_all rfl) : Ex1 C d J T ρ (.Assign [.Name y p] e pos) (.next ρ') :=
  hp.eq ▸ st_assign h hy hna.eq hs
theorem Ex.less {ρ' : Rho} {sts : List Stmt} {o : Out} (h : Ex C d J T ρ' sts o) (hs : Sub ρ ρ') : Ex C d J T ρ sts o := fun c A s Q E hJ k b cn x f => h c A s Q E hJ k b cn (x.less hs) f
theorem Ex.less1 {ρ' : Rho} {sts : Stmt} {o : Out} (h : Ex1 C d J T ρ' sts o) (hs : Sub ρ ρ') : Ex1 C d J T ρ sts o := fun c A s Q E hJ k b cn x f => h c A s Q E hJ k b cn (x.less hs) f
theorem Ex.end {ρ' : Rho} (hs : Sub ρ ρ') : Ex C d J T ρ [] (.next ρ') := ex_nil.less hs
theorem ex_start {body body' : List Stmt} {o : Out} (h : Ex C d J T ρ body' o) (e : body = body') : Ex C d J T ρ body o := e ▸ h
end
end Mine
open Mine

end
section
open PySem PySem.W PySem.Spec PySem.Calls PyProof.Rows
open PySem.Builtin PySem.Builtin.Str
set_option Elab.async false
set_option maxRecDepth 100000
namespace Mine
/-- a built-in name that the module does not hide -/
structure Blt (C : Cfg) (y : Str) (v : Value) : Prop where
  m : C.mg y = none
  b : C.mb y = some v
section
variable {C : Cfg} {d : Nat} {J : Js} {T : Scope} {ρ : Rho}
theorem ev_bl {y : Str} {v : Value} {pos : Pos} (hx : T.names.lookup y = some .globalImplicit) (h : Blt C y v) (hd : (y == ("__debug__" : Str)) = false) : Ev C d J T ρ (.Name y pos) (.const v) := ev_blt hx h.m h.b hd
theorem ev_iteS {t e₁ e₂ : Expr} {pos : Pos} {r : Bool} {a b : List Nat} (h : Tst C d J T ρ t r) (h₁ : Ev C d J T ρ e₁ (.str a)) (h₂ : Ev C d J T ρ e₂ (.str b)) : Ev C d J T ρ (.IfExp t e₁ e₂ pos) (.str (if r then a else b)) :=
  ev_if h (fun e => by subst e; exact h₁) fun e => by subst e; exact h₂
theorem ev_strE {y : Str} {l : List Nat} {k : Nat} {pos : Pos} (h : y.cps.toList = l) : Ev C d J T ρ (.Constant (.str y) k pos) (.str l) := h ▸ ev_str
theorem cs_nil : ("" : Str).cps.toList = [] := by decide +kernel
theorem cs_slash : ("/" : Str).cps.toList = [47] := by decide +kernel
theorem cs_star : ("*" : Str).cps.toList = [42] := by decide +kernel
theorem cs_quest : ("?" : Str).cps.toList = [63] := by decide +kernel
theorem cs_open : ("[" : Str).cps.toList = [91] := by decide +kernel
theorem cs_dot : ("." : Str).cps.toList = [46] := by decide +kernel
theorem cs_figs : ("0123456789" : Str).cps.toList = [48, 49, 50, 51, 52, 53, 54, 55, 56, 57] := by decide +kernel
theorem cs_rest : ("273105" : Str).cps.toList = [50, 55, 51, 49, 48, 53] := by decide +kernel
/-- a whole run of a loop -/
theorem st_forA {y : Str} {p pos : Pos} {e : Expr} {body : List Stmt} {n : Nat} {vs : Nat → V} (ρs : Nat → Rho) (h : Src C d J T (ρs 0) e n vs) (h0 : Sub ρ (ρs 0))
    (hy : T.names.lookup y = some .local ∨ T.names.lookup y = some .cell) (hna : ∀ i, i ≤ n → NoApp (ρs i) y)
    (turn : ∀ i, i < n → Ex C d J T (put (ρs i) y (.val (vs i))) body (.next (ρs (i + 1)))) (hs : ∀ env x, foldedSetIterable e env x = pure x := by intro _ _; rfl) : Ex1 C d J T ρ (.For (.Name y p) e body [] pos) (.next (ρs n)) :=
  Ex.less1 (ρ' := ρs 0) (st_for ρs n h rfl hy (fun i hi => (hna i hi).eq) (Nat.le_refl _) turn (.done (by simp)) hs) h0
end
end Mine

end
section
open PySem PySem.W PySem.Spec PySem.Calls PyProof.Rows
open PySem.Builtin PySem.Builtin.Str
set_option Elab.async false
set_option maxRecDepth 100000
namespace Mine
section
variable {C : Cfg} {d : Nat} {J : Js} {T : Scope} {ρ : Rho}

theorem small_ok {a b : Int} (ha : -1000000 ≤ a) (ha' : a ≤ 1000000) (hb : -1000000 ≤ b) (hb' : b ≤ 1000000) : Builtin.Range.small a b 1 = true := by
  have h : ∀ n : Nat, (b - a = n ∨ (b ≤ a ∧ n = 0)) → Builtin.Range.small a b 1 = true := fun n hn => by
    unfold Builtin.Range.small
    rw [rangeSize_one a b n hn]
    simp only [Builtin.Range.rangeFitsLong, Bool.and_eq_true, Bool.or_eq_true, decide_eq_true_eq]
    refine ⟨⟨⟨⟨⟨by omega, by omega⟩, by omega, by omega⟩, by omega, by omega⟩, by omega, by omega⟩, .inr ?_⟩
    rw [if_pos (by omega)]
    simp only [Bool.and_eq_true, decide_eq_true_eq]
    omega
  by_cases q : b ≤ a
  · exact h 0 (.inr ⟨q, rfl⟩)
  · exact h (b - a).toNat (.inl (by omega))

/-- a new address of the frame's own -/
theorem St.own {c : Cx} {s : Shared} (x : St c ρ s) (ok : c.Ok T) {h' : Heap} {t : Nat} {a : Addr} (ha : s.heap.get? a = none) (hl : ∃ o, h'.get? a = some o) (k : HLe s.heap h') :
    Grow T c { c with ow := a :: c.ow, mu := a :: c.mu } ∧ St { c with ow := a :: c.ow, mu := a :: c.mu } ρ { s with heap := h', toks := t } := by
  have hm : a ∉ c.mu := fun q => by obtain ⟨o, e⟩ := x.low a q; rw [ha] at e; cases e
  have h0 : c.h₀.get? a = none := by
    cases e : c.h₀.get? a with
    | none => rfl
    | some o => have := x.keep _ _ e; rw [ha] at this; cases this
  have ok' : ({ c with ow := a :: c.ow, mu := a :: c.mu } : Cx).Ok T := ⟨ok.scope, ok.kind, ok.glob, ok.blt, List.mem_cons_of_mem _ ok.loc, fun b hb => by
    rcases List.mem_cons.mp hb with e | hb
    · exact e ▸ List.mem_cons_self
    · exact List.mem_cons_of_mem _ (ok.sub b hb), fun b hb => by
    rcases List.mem_cons.mp hb with e | hb
    · exact e ▸ h0
    · exact ok.off b hb, fun y e => let ⟨b, e1, e2⟩ := ok.cell y e; ⟨b, e1, e2.imp (List.mem_cons_of_mem _) id⟩, ok.inj, ok.free⟩
  have hv : HLe (c.vis s.heap) (({ c with ow := a :: c.ow, mu := a :: c.mu } : Cx).vis h') := fun b o e => by
    have e1 := of_hideAll _ e
    refine hideAll_get _ (k _ _ e1) fun q => ?_
    rcases List.mem_cons.mp q with q | q
    · rw [q, ha] at e1; cases e1
    · rw [show c.vis s.heap = hideAll s.heap c.mu from rfl, hideAll_none _ q] at e; cases e
  refine ⟨⟨⟨[a], fun b hb => by rw [List.mem_singleton.mp hb]; exact hm, rfl⟩, ok'⟩, ?_⟩
  have nm : ∀ w u, Nm c s.heap w u → Nm { c with ow := a :: c.ow, mu := a :: c.mu } h' w u := fun w u n => Nm.keeps (c := c) k n
  refine ⟨x.j, x.keep.trans k, let ⟨m, n⟩ := x.ns; ⟨m, n.keeps k⟩, fun y b e e' => let ⟨v, p⟩ := x.cells y b e e'; ⟨v, p.keeps k⟩, fun y sl e => ?_, fun y z xs ys b e e' n n' => ?_, fun b hb => ?_⟩
  · obtain ⟨u, n, p⟩ := x.vars y sl e
    refine ⟨u, nm _ _ n, ?_⟩
    cases sl with
    | val v => exact RV.mono hv p
    | «mut» xs => obtain ⟨b, us, e, hb, q, r⟩ := p; exact ⟨b, us, e, List.mem_cons_of_mem _ hb, plain_keeps k q, RVs.mono hv r⟩
    | rd xs =>
      obtain ⟨b, us, e, hb, q, r⟩ := p
      refine ⟨b, us, e, fun q' => ?_, plain_keeps k q, RVs.mono hv r⟩
      rcases List.mem_cons.mp q' with q' | q'
      · obtain ⟨_, q⟩ := q; rw [q', ha] at q; cases q
      · exact hb q'
    | app z => obtain ⟨b, b', n, e, p⟩ := p; exact ⟨b, b', nm _ _ n, e, p.keeps hv⟩
  · obtain ⟨u, p, _⟩ := x.vars y _ e
    obtain ⟨u', p', _⟩ := x.vars z _ e'
    have q := (nm _ _ p).fun n; subst q
    have q := (nm _ _ p').fun n'; subst q
    exact x.mutd y z xs ys b e e' p p'
  · rcases List.mem_cons.mp hb with q | q
    · rw [q]; exact hl
    · obtain ⟨o, e⟩ := x.low b q; exact ⟨o, k _ _ e⟩

/-- a fresh list is named -/
theorem st_fresh {y : Str} {p pos lp : Pos} {ρ' : Rho} (hp : Put ρ y (.mut []) ρ') (hy : T.names.lookup y = some .local ∨ T.names.lookup y = some .cell) (hna : NoApp ρ y)
    (hs : ∀ env, swapsWith (.List [] lp) (some (.Name y p)) pos.line env = pure false := by intro _; with_unfolding_all rfl) : Ex1 C d J T ρ (.Assign [.Name y p] (.List [] lp) pos) (.next ρ') :=
  fun c A s _ E hJ k b cn x f => wpAny_Assign_Name (wpAny_List (wpAny_items_nil ⟨by simp, by
    have hnew : s.heap.get? s.heap.objs.size = none := by
      cases e : s.heap.get? s.heap.objs.size with
      | none => rfl
      | some o => exact absurd (Heap.lt_size e) (Nat.lt_irrefl _)
    obtain ⟨g, x'⟩ := x.own k.1 (h' := s.heap.push { cls := .type "list", data := .seq #[] }) (t := s.toks) hnew ⟨_, Heap.get?_push_size _ rfl⟩ (HLe.push _ _)
    refine st_store (sl := .mut []) g.ok x' (fun _ => k.2) hy hna.eq (fun h' _ hv hpl => ⟨_, [], rfl, List.mem_cons_self, hpl _ _ ⟨0, Heap.get?_push_size _ rfl⟩, rfl⟩) (fun xs e a ea z ys hz ez n => ?_) fun h' t x'' hv => f _ _ g (hp.eq ▸ x'')
    cases ea
    obtain ⟨u, n', sl⟩ := x.vars z _ ez
    have n2 : Nm c (s.heap.push { cls := .type "list", data := .seq #[] }) z u := Nm.keeps (HLe.push _ _) n'
    have := Nm.fun (c := c) n2 n
    subst this
    obtain ⟨b, us, e, hb, q, r⟩ := sl
    cases e
    obtain ⟨_, q⟩ := q
    rw [hnew] at q; cases q⟩)) (hs _)

/-- the list that a name holds has grown by one -/
theorem St.app {c : Cx} {s : Shared} (x : St c ρ s) (ok : c.Ok T) {y : Str} {xs : List V} {ρ' : Rho} {v : V} {u : Value} {a : Addr} {us : List Value} (hy : ρ.lookup y = some (.mut xs)) (hn : Nm c s.heap y (.ref a)) (ha : a ∈ c.ow) (hpl : s.heap.PlainList a us.toArray) (hr : RVs (c.vis s.heap) xs us)
    (hv : RV (c.vis s.heap) v u) (hput : Put ρ y (.mut (xs ++ [v])) ρ') {h' : Heap} {t : Nat} (hpl' : h'.PlainList a (us.toArray.push u)) (hs : Heap.SameBut a s.heap h') : St c ρ' { s with heap := h', toks := t } := by
  have hm := ok.sub a ha
  have hvis := hide_sameBut hs hm
  have hns : ∀ m, s.heap.Ns c.env.locals m → h'.Ns c.env.locals m := fun m n => n.sameBut hs fun q => Ns.noList (q ▸ n) us.toArray hpl
  have hcl : ∀ b v, s.heap.IsCell b v → h'.IsCell b v := fun b v n => n.sameBut hs fun q => IsCell.noList (q ▸ n) us.toArray hpl
  have nm : ∀ w u, Nm c s.heap w u → Nm c h' w u := fun w u n => by
    rcases n with ⟨e, m, n, q⟩ | ⟨e, b, n, q⟩
    · exact .inl ⟨e, m, hns m n, q⟩
    · exact .inr ⟨e, b, n, hcl _ _ q⟩
  refine ⟨x.j, fun b o e => (hs.2 b fun q => ?_).trans (x.keep b o e), let ⟨m, n⟩ := x.ns; ⟨m, hns m n⟩, fun z b e e' => let ⟨v, p⟩ := x.cells z b e e'; ⟨v, hcl _ _ p⟩, fun z sl e => ?_, fun z w ys zs b e e' n n' => ?_, fun b hb => ?_⟩
  · have := ok.off a ha; rw [← q, e] at this; cases this
  · rw [← hput.eq, put_get] at e
    by_cases hz : z = y
    · rw [if_pos hz] at e; cases e; subst hz
      refine ⟨.ref a, nm _ _ hn, a, us ++ [u], rfl, ha, by simpa using hpl', RVs.append (RVs.mono hvis hr) (RVs.one (RV.mono hvis hv))⟩
    · rw [if_neg hz] at e
      obtain ⟨u', n, p⟩ := x.vars z sl e
      refine ⟨u', nm _ _ n, ?_⟩
      cases sl with
      | val v => exact RV.mono hvis p
      | «mut» ys =>
        obtain ⟨b, ws, e2, hb, q, r⟩ := p
        subst e2
        have hne : b ≠ a := fun q' => hz (x.mutd z y ys xs a e hy (q' ▸ n) hn)
        obtain ⟨k, q⟩ := q
        exact ⟨b, ws, rfl, hb, ⟨k, (hs.2 b hne).trans q⟩, RVs.mono hvis r⟩
      | rd ys =>
        obtain ⟨b, ws, e2, hb, q, r⟩ := p
        subst e2
        have hne : b ≠ a := fun q' => hb (q' ▸ ha)
        obtain ⟨k, q⟩ := q
        exact ⟨b, ws, rfl, hb, ⟨k, (hs.2 b hne).trans q⟩, RVs.mono hvis r⟩
      | app w => obtain ⟨b, b', n, e2, p⟩ := p; exact ⟨b, b', nm _ _ n, e2, p.keeps hvis⟩
  · have old : ∀ q ws, ρ'.lookup q = some (.mut ws) → ∃ ws', ρ.lookup q = some (.mut ws') := fun q ws e => by
      rw [← hput.eq, put_get] at e
      by_cases hq : q = y
      · exact ⟨xs, hq ▸ hy⟩
      · rw [if_neg hq] at e; exact ⟨ws, e⟩
    obtain ⟨ys', e1⟩ := old z ys e
    obtain ⟨zs', e2⟩ := old w zs e'
    obtain ⟨u1, p1, _⟩ := x.vars z _ e1
    obtain ⟨u2, p2, _⟩ := x.vars w _ e2
    have q := (nm _ _ p1).fun n; subst q
    have q := (nm _ _ p2).fun n'; subst q
    exact x.mutd z w ys' zs' b e1 e2 p1 p2
  · by_cases q : b = a
    · rw [q]; obtain ⟨k, e⟩ := hpl'; exact ⟨_, e⟩
    · obtain ⟨o, e⟩ := x.low b hb; exact ⟨o, (hs.2 b q).trans e⟩

/-- append to a list of the frame's own -/
theorem st_append {y : Str} {p apos cpos pos : Pos} {e : Expr} {xs : List V} {v : V} {ρ' : Rho} (hy : At ρ y (.mut xs)) (h : Ev C d J T ρ e v) (hput : Put ρ y (.mut (xs ++ [v])) ρ') (hn : xs.length ≤ sizeLine)
    (hd : ((y == ("__debug__" : Str)) || (y == ("__classdict__" : Str))) = false)
    (hbase : ∀ env, attributeBase (.Name y p) "append" env (eval (.Name y p) env) = eval (.Name y p) env := by intro _; with_unfolding_all rfl)
    (hfew : ∀ env, ((backTo cpos (starEach [e] env)).all (fun x => !x.1) && (backToKw cpos (keywordEach [] env)).all (fun x => x.1.isSome)
      && decide (([e] : List Expr).length + ([] : List Keyword).length + (if ([] : List Keyword).isEmpty then 0 else 1) < 30)) = true := by intro _; with_unfolding_all rfl)
    (hline : (apos.endLine == cpos.line) = true := by with_unfolding_all rfl)
    (htrees : ∀ env, backTo cpos (starEach [e] env) = [(false, eval e env)] := by intro _; with_unfolding_all rfl)
    (hi : ∀ env : Env, env.scope = T → interactive env = false) (hs : ∀ env, swapsWith (.Call (.Attribute (.Name y p) "append" apos) [e] [] cpos) none pos.line env = pure false := by intro _; with_unfolding_all rfl) :
    Ex1 C d J T ρ (.Expr (.Call (.Attribute (.Name y p) "append" apos) [e] [] cpos) pos) (.next ρ') :=
  fun c A s Q E hJ k b cn x f => wpAny_Expr (wpAny_Call_append (hbase _) (hfew _) hline (htrees _) (by
    obtain ⟨u, n, a, us, rfl, ha, pl, r⟩ := x.vars y _ hy.eq
    have hl := r.len
    refine eval_nm k.1 n ⟨a, us.toArray, rfl, let ⟨k, e⟩ := pl; ⟨_, k, e, rfl, rfl, rfl⟩, ?_⟩ hd
    refine wpAny_mono (h.use hJ k.1 b cn x) (fun w s₁ ⟨x₁, p₁, r₁⟩ => ?_) fun _ _ e => e
    refine wpAny_list_append_plain (plain_keeps p₁.le pl) (fun h' hpl' hsb => ?_) (by simpa [hl] using hn)
    exact f c _ (Grow.refl k.1) (x₁.app k.1 hy.eq (n.keeps p₁.le) ha (plain_keeps p₁.le pl) (RVs.mono p₁.vis r) r₁ hput (t := s₁.toks) hpl' hsb))) (hi _ k.1.scope) (hs _)

/-- an own list is given back -/
theorem st_returnM {y : Str} {p pos : Pos} {xs : List V} (hy : At ρ y (.mut xs)) (hd : ((y == ("__debug__" : Str)) || (y == ("__classdict__" : Str))) = false) : Ex1 C d J T ρ (.Return (some (.Name y p)) pos) (.ret (.list xs)) :=
  fun c A s Q E hJ k b cn x f => wpAny_Return_some (by
    obtain ⟨u, n, a, us, rfl, ha, pl, r⟩ := x.vars y _ hy.eq
    refine eval_nm k.1 n ?_ hd
    have hi : ∀ z ∈ c.mu, z ∈ c.ow ∨ z ∈ c.mu.filter (fun z => !c.ow.contains z) := fun z hz => by
      by_cases q : z ∈ c.ow
      · exact .inl q
      · exact .inr (List.mem_filter.mpr ⟨hz, by simpa using q⟩)
    refine f (c.mu.filter fun z => !c.ow.contains z) s (.ref a) hi x.keep x.j ⟨a, us, rfl, ?_, RVs.mono (hide_more fun z hz => (List.mem_filter.mp hz).1) r⟩
    obtain ⟨k, e⟩ := pl
    exact ⟨_, hideAll_get _ e fun q => by have := (List.mem_filter.mp q).2; simp [ha] at this, rfl, k, rfl⟩)
end
end Mine

end
section
open PySem PySem.W PySem.Spec PySem.Calls PyProof.Rows
open PySem.Builtin PySem.Builtin.Str
set_option Elab.async false
set_option maxRecDepth 100000
namespace Mine

noncomputable def boundApp (a : Addr) : Obj := { cls := .type "builtin_function_or_method", data := .fields #[.builtin "list.append", .ref a] }
theorem md_get : PySem.Slot "method_descriptor" "__get__" "method_descriptor.__get__" :=
  .of (owner := "method_descriptor") (n := "__get__") (by rw [typeLookup_type, builtinLookup_eq_fast]; kernel_rfl) (by decide +kernel) (by decide +kernel) (by decide +kernel)
    (by first | exact .inl (by decide +kernel) | exact .inr (by decide +kernel)) (by rw [isSubtype_type]; kernel_rfl)
theorem md_entry : entryFor table "method_descriptor.__get__" = some Builtin.«method_descriptor.__get__» := entryFor_of_tree (by kernel_rfl)
theorem md_args (a b c : Value) : argsOk "method_descriptor.__get__" ⟨[a, b, c], []⟩ := by unfold argsOk; kernel_rfl
theorem md_type : typeOf (.builtin "list.append") = pure (.type "method_descriptor") := by show builtinType _ = _; rw [builtinType_eq_fast]; kernel_rfl
theorem md_set : typeLookup (.type "method_descriptor") "__set__" = pure none := by rw [typeLookup_type, builtinLookup_eq_fast]; kernel_rfl
theorem md_del : typeLookup (.type "method_descriptor") "__delete__" = pure none := by rw [typeLookup_type, builtinLookup_eq_fast]; kernel_rfl
theorem list_sub : isSubtype (.type "list") (.type "list") = pure true := by rw [isSubtype_type]; kernel_rfl

section
variable {prog : Program} {w : World} {M : Model} {A : Around} {E : Value → Shared → Prop} {s : Shared} {a : Addr} {xs : Array Value} {k : Nat}

theorem md_run {P : PySem.Fin → Shared → Prop} (hT : s.TypeIs (.ref a) "list") (h : P (.done (.ret (.ref s.heap.objs.size))) { s with heap := s.heap.push (boundApp a) }) :
    wpAny M A (Builtin.«method_descriptor.__get__» ⟨[.builtin "list.append", .ref a, .type "list"], []⟩) P E s := by
  unfold Builtin.«method_descriptor.__get__»
  refine wpAny_bind (wpAny_of_eq (a := (.builtin "list.append", some (.ref a), some (.type "list"))) (by first | rfl | kernel_rfl) ?_)
  dsimp only
  rw [show (Manifest.toldItsClass.contains "list.append") = false by decide +kernel]
  simp only [Bool.false_eq_true, if_false]
  refine wpAny_bind (wpAny_bind (wpAny_of_eq (a := ((("append" : String) : Str), Value.type "list")) (by first | rfl | kernel_rfl) ?_))
  dsimp only
  refine wpAny_bind (wpAny_isInstance (T := "list") (b := true) hT list_sub ?_)
  simp only [Bool.not_true, Bool.false_eq_true, if_false]
  refine wpAny_pure ?_
  exact wpAny_bind (wpAny_newObj_type (wpAny_pure h))
theorem ga_run {P : PySem.Fin → Shared → Prop} {u : Tok} {o : Obj} (ho : s.heap.get? a = some o) (hc : o.cls = .type "list") (hdat : o.data = .seq xs k) (hd : o.dict = none)
    (h : ∀ t, P (.done (.ret (.ref s.heap.objs.size))) { s with heap := s.heap.push (boundApp a), toks := t }) :
    wpAny (model prog w) A (Builtin.«object.__getattribute__» ⟨[.ref a, .str "append" u], []⟩) P E s := by
  obtain ⟨hp, g, d, tk, os⟩ := s
  obtain ⟨oc, od, odd, osl⟩ := o
  simp only at hc hd ho hdat
  subst hc hd hdat
  have hc : (Value.type "list") = Value.type "list" := rfl
  have hT : ∀ tk', (⟨hp, g, d, tk', os⟩ : Shared).TypeIs (.ref a) "list" := fun _ => ⟨_, ho, hc⟩
  have f1 := slot_list_append.lookup
  have f2 : typeOf (.builtin "list.append") = pure (.type "method_descriptor") := md_type
  have f3 := md_get.lookup
  have f4 := md_set
  have f5 := md_del
  unfold Builtin.«object.__getattribute__»
  repeat (any_goals (first | assumption | exact hT _ | wp_step))
  refine codeAny_call_builtin md_get.plain md_entry (md_get.check _ _ _ _ _ _ _ _ md_type (md_args _ _ _) (md_run (hT _) ?_))
  exact wpAny_pure (h _)
theorem list_entry_ga : entryFor table "list.__getattribute__" = some Builtin.«object.__getattribute__» :=
  entryFor_alias (id' := "object.__getattribute__") (by kernel_rfl) (by first | rfl | decide +kernel) (by decide +kernel) (by kernel_rfl)
theorem getAttr_append {Q : Value → Shared → Prop} {o : Obj} (ho : s.heap.get? a = some o) (hc : o.cls = .type "list") (hdat : o.data = .seq xs k) (hd : o.dict = none)
    (h : ∀ t, Q (.ref s.heap.objs.size) { s with heap := s.heap.push (boundApp a), toks := t }) : wpAny (model prog w) A (getAttr (.ref a) "append" true) Q E s := by
  obtain ⟨hp, g, d, tk, os⟩ := s
  obtain ⟨oc, od, odd, osl⟩ := o
  simp only at hc hd ho hdat
  subst hc hd hdat
  have hT : ∀ tk', (⟨hp, g, d, tk', os⟩ : Shared).TypeIs (.ref a) "list" := fun _ => ⟨_, ho, rfl⟩
  have f3 := F.slot_list_getattribute.lookup
  have f4 := F.slot_list_getattribute.bind (.ref a)
  have f5 := am_list_getattr_none
  unfold getAttr getAttrBy
  repeat (any_goals (first | assumption | exact hT _ | wp_step))
  refine codeAny_call_builtin F.slot_list_getattribute.plain list_entry_ga (F.slot_list_getattribute.check _ _ _ _ _ _ _ _ (hT _) (F.args_list_getattribute_2 _ _) (ga_run ho rfl rfl rfl fun t => ?_))
  repeat (any_goals (first | assumption | exact hT _ | exact h _ | wp_step))
  trace_state
end
end Mine

end
section
open PySem PySem.W PySem.Spec PySem.Calls PyProof.Rows
open PySem.Builtin PySem.Builtin.Str
set_option Elab.async false
set_option maxRecDepth 100000
namespace Mine
section
variable {prog : Program} {w : World} {M : Model} {A : Around} {E : Value → Shared → Prop} {s : Shared} {a b : Addr}

theorem callWith_app {pos : Pos} {first : List Value} {args : List (Bool × Sem Value)} {Q : Value → Shared → Prop} (hplain : args.any (·.1) = false)
    (h : wpAny M A (evalArgs (.ref b) true args []) (fun x s₁ => (∃ o vs, s₁.heap.get? b = some o ∧ o.cls = .type "builtin_function_or_method" ∧ o.data = .fields vs) ∧ wpAny M A (call (.ref b) (first ++ x.pos) x.kw) Q E s₁) E s) : wpAny M A (callWith pos (.ref b) first args []) Q E s := by
  unfold callWith
  refine wpAny_bind (wpAny_holding (wpAny_mono h (fun x s₁ h₁ => wpAny_bind (wpAny_standAt ?_)) fun _ _ x => x))
  obtain ⟨⟨⟨oc, od, odd, osl⟩, vs, ho, hc, hd⟩, hcall⟩ := h₁
  simp only at hc hd
  subst hc hd
  simp only [hplain, List.any_nil, Bool.or_false]
  refine wpAny_bind (m := keeperOf (.ref b)) ?_
  unfold keeperOf
  refine wpAny_bind (wpAny_load ho ?_)
  simp only [show (Value.type "builtin_function_or_method" != Value.type "method") = true by decide, show (Value.type "builtin_function_or_method" == Value.type "builtin_function_or_method" || Value.type "builtin_function_or_method" == Value.type "method-wrapper") = true by decide, if_true]
  refine wpAny_pure ?_
  exact wpAny_bind (wpAny_mono hcall (fun r s₂ hr => wpAny_bind (wpAny_holding (wpAny_point (wpAny_pure hr)))) fun _ _ x => x)
theorem sig_app : (Manifest.signature? "list.append").isSome = true := by decide +kernel
theorem kind_app : builtinKind "list.append" = some .method := by first | kernel_rfl | decide +kernel
noncomputable def sigApp : Manifest.Signature := (Manifest.signature? "list.append").get sig_app
theorem sigApp_eq : Manifest.signature? "list.append" = some sigApp := by unfold sigApp; rw [Option.some_get]
theorem sigApp_args {x v : Value} : Bind.checkArgs "list.append" { sigApp with full := s!"{Bind.lastOf "list"}.{Bind.lastOf "list.append"}" } ⟨[x, v], []⟩ = pure () := by kernel_rfl
theorem sub_lm : isSubtype (.type "list") (.type "module") = pure false := by rw [isSubtype_type]; kernel_rfl
theorem sub_lt : isSubtype (.type "list") (.type "type") = pure false := by rw [isSubtype_type]; kernel_rfl
theorem check_app {v : Value} {us : Array Value} {n : Nat} {Q : Unit → Shared → Prop} (ho : s.heap.get? a = some { cls := .type "list", data := .seq us n }) (h : Q () s) : wpAny M A (checkBoundCall "list.append" ⟨[.ref a, v], []⟩) Q E s := by
  have hT : s.TypeIs (.ref a) "list" := ⟨_, ho, rfl⟩
  unfold checkBoundCall
  simp only [sigApp_eq, kind_app]
  rw [if_neg (by decide)]
  refine wpAny_bind (wpAny_isInstance (T := "list") (b := false) hT sub_lm ?_)
  rw [show (Manifest.varargsMethods.contains "list.append" || false) = false by decide +kernel]
  simp only [Bool.false_eq_true, if_false]
  have h1 := sub_lt
  have hh : wpAny M A (Bind.checkArgs "list.append" { sigApp with full := s!"{Bind.lastOf "list"}.{Bind.lastOf "list.append"}" } ⟨[.ref a, v], []⟩) Q E s := wpAny_of_eq sigApp_args h
  obtain ⟨hp, g, d, tk, os⟩ := s
  repeat (any_goals (first | assumption | exact hh | wp_step))
theorem quiet_app {as : Args} : (Code.builtin "list.append" as).quiet = true := Code.quiet_builtin _ (by decide +kernel)
theorem call_app {us : Array Value} {v : Value} {Q : Value → Shared → Prop} (hb : IsApp s.heap b a) (hl : s.heap.PlainList a us) (hsz : us.size ≤ sizeLine)
    (h : ∀ h', h'.PlainList a (us.push v) → Heap.SameBut a s.heap h' → Q .none { s with heap := h' }) : wpAny (model prog w) A (call (.ref b) [v]) Q E s := by
  obtain ⟨⟨oc, od, odd, osl⟩, vs, ho, hc, hd, h0, h1⟩ := hb
  simp only at hc hd
  subst hc hd
  obtain ⟨n, hl⟩ := hl
  refine wpAny_call (codeAny_of_tree ?_)
  show wpAny _ A.in1 (callAny (.ref b) ⟨[v], []⟩) _ _ s
  simp only [callAny]
  refine wpAny_bind (wpAny_load ho ?_)
  simp only [show (Value.type "builtin_function_or_method" == Value.type "method" || Value.type "builtin_function_or_method" == Value.type "builtin_function_or_method" || Value.type "builtin_function_or_method" == Value.type "method-wrapper") = true by decide, if_true, h0, h1]
  rw [if_pos (by decide)]
  refine wpAny_bind (check_app hl ?_)
  refine wpAny_bind (wpAny_pure (wpAny_pure ?_))
  refine ⟨quiet_app, codeAny_builtin entry_list_append ?_⟩
  show wpAny _ _ (updateSeq a (·.push v) >>= fun _ => ret .none) _ _ s
  refine wpAny_bind (wpAny_updateSeq hl rfl (wpAny_pure ?_) (by size_fits) (by simp; omega))
  refine h _ ⟨n + 1, ?_⟩ (Heap.SameBut.update ..)
  rw [Heap.get?_update_self _ hl (by rw [Obj.mapSeq_push_plain]; rfl), Obj.mapSeq_push_plain]
end
end Mine

end
section
open PySem PySem.W PySem.Spec PySem.Calls PyProof.Rows
open PySem.Builtin PySem.Builtin.Str
set_option Elab.async false
set_option maxRecDepth 100000
namespace Mine
section
variable {C : Cfg} {d : Nat} {J : Js} {T : Scope} {ρ : Rho}

theorem st_bound {y z : Str} {p zp ap pos : Pos} {xs : List V} {ρ' : Rho} (hy : At ρ y (.mut xs)) (hp : Put ρ z (.app y) ρ') (hz : T.names.lookup z = some .local ∨ T.names.lookup z = some .cell) (hna : NoApp ρ z) (hne : (y == z) = false)
    (hd : ((y == ("__debug__" : Str)) || (y == ("__classdict__" : Str))) = false)
    (hs : ∀ env, swapsWith (.Attribute (.Name y p) "append" ap) (some (.Name z zp)) pos.line env = pure false := by intro _; with_unfolding_all rfl) :
    Ex1 C d J T ρ (.Assign [.Name z zp] (.Attribute (.Name y p) "append" ap) pos) (.next ρ') :=
  fun c A s Q E hJ k b cn x f => wpAny_Assign_Name (Attribute_name (by
    obtain ⟨u, n, a, us, rfl, ha, ⟨nn, pl⟩, r⟩ := x.vars y _ hy.eq
    refine eval_nm k.1 n (getAttr_append pl rfl rfl rfl fun t => ?_) hd
    have x' : St c ρ { s with heap := s.heap.push (boundApp a), toks := t } := x.push (boundApp a)
    have hb : IsApp (c.vis (s.heap.push (boundApp a))) s.heap.objs.size a := ⟨_, _, x.see _ rfl, rfl, rfl, rfl, rfl⟩
    have n' : Nm c (s.heap.push (boundApp a)) y (.ref a) := Nm.keeps (HLe.push _ _) n
    refine st_store (sl := .app y) k.1 x' (fun _ => k.2) hz hna.eq (fun h' hn hv _ => ⟨a, _, hn y _ (beq_eq_false_iff_ne.mp hne) n', rfl, hb.keeps hv⟩) (fun _ e => nomatch e) fun h' t x'' hv => f c _ (Grow.refl k.1) (hp.eq ▸ x''))) (hs _)

theorem st_add {y z : Str} {p cpos pos : Pos} {e : Expr} {xs : List V} {v : V} {ρ' : Rho} (hz : At ρ z (.app y)) (hy : At ρ y (.mut xs)) (h : Ev C d J T ρ e v) (hput : Put ρ y (.mut (xs ++ [v])) ρ') (hn : xs.length ≤ sizeLine)
    (hd : ((z == ("__debug__" : Str)) || (z == ("__classdict__" : Str))) = false)
    (he : ∀ env, starEach [e] env = (false, eval e env) :: starEach [] env := by intro _; with_unfolding_all rfl)
    (hi : ∀ env : Env, env.scope = T → interactive env = false) (hs : ∀ env, swapsWith (.Call (.Name z p) [e] [] cpos) none pos.line env = pure false := by intro _; with_unfolding_all rfl) :
    Ex1 C d J T ρ (.Expr (.Call (.Name z p) [e] [] cpos) pos) (.next ρ') :=
  fun c A s Q E hJ k b cn x f => wpAny_Expr (wpAny_Call_Name_kw (by
    obtain ⟨u, n, a, bb, ny, rfl, hb⟩ := x.vars z _ hz.eq
    obtain ⟨u2, n2, a2, us, rfl, ha, pl, r⟩ := x.vars y _ hy.eq
    have := ny.fun n2; cases this
    have hl := r.len
    refine eval_nm k.1 n ?_ hd
    have h2 := (eva_cons (pos := cpos) h eva_nil he).use (E := E) hJ k.1 b cn x
    simp only [he] at h2
    rw [he]
    refine callWith_app (by show (false || (backTo cpos (starEach [] c.env)).any (·.1)) = false; rfl) (evalArgs_plain (wpAny_mono h2 (fun ws s₁ ⟨x₁, p₁, rs⟩ => ?_) fun _ _ e => e))
    obtain ⟨w, e1, r₁⟩ := rvs1 rs
    subst e1
    obtain ⟨o, vs, e2, e3, e4, e5, e6⟩ := hb.keeps p₁.vis
    refine ⟨⟨o, vs, of_hideAll _ e2, e3, e4⟩, call_app ⟨o, vs, of_hideAll _ e2, e3, e4, e5, e6⟩ (plain_keeps p₁.le pl) (by simpa [hl] using hn) fun h' hpl' hsb => ?_⟩
    exact f c _ (Grow.refl k.1) (x₁.app k.1 hy.eq (n2.keeps p₁.le) ha (plain_keeps p₁.le pl) (RVs.mono p₁.vis r) r₁ hput (t := s₁.toks) hpl' hsb))) (hi _ k.1.scope) (hs _)
end
end Mine

end
section
open PySem PySem.W PySem.Spec PySem.Calls PyProof.Rows
open PySem.Builtin PySem.Builtin.Str
set_option Elab.async false
set_option maxRecDepth 100000
namespace Mine
section
variable {C : Cfg} {d : Nat} {J : Js} {T : Scope} {ρ : Rho}

inductive EndW (C : Cfg) (d : Nat) (J : Js) (T : Scope) (test : Expr) (body : List Stmt) (ρ : Rho) : Out → Prop where
  | done : Tst C d J T ρ test false → EndW C d J T test body ρ (.next ρ)
  | ret {w : V} : Tst C d J T ρ test true → Ex C d J T ρ body (.ret w) → EndW C d J T test body ρ (.ret w)
  | brk {ρ' : Rho} : Tst C d J T ρ test true → Ex C d J T ρ body (.brk ρ') → EndW C d J T test body ρ (.next ρ')

theorem st_while {test : Expr} {body : List Stmt} {pos : Pos} {o : Out} (ρs : Nat → Rho) (k : Nat) (h0 : ρs 0 = ρ) (turn : ∀ i, i < k → Tst C d J T (ρs i) test true ∧ Ex C d J T (ρs i) body (.next (ρs (i + 1)))) (ends : EndW C d J T test body (ρs k) o) :
    Ex1 C d J T ρ (.While test body [] pos) o :=
  fun c A s Q E hJ kk b cn x f => wpAny_While (by
    refine codeAny_whileLoop (fun j s' => ∃ i, i ≤ k ∧ j = k - i ∧ ∃ c', Grow T c c' ∧ St c' (ρs i) s') ?_ k ⟨0, Nat.zero_le _, rfl, c, Grow.refl kk.1, h0 ▸ x⟩
    rintro j s' ⟨i, hi, rfl, c', g, x'⟩
    have e1 : c'.env = c.env := by obtain ⟨⟨n, _, e⟩, _⟩ := g; subst e; rfl
    have e2 : c'.J = J := by obtain ⟨⟨n, _, e⟩, _⟩ := g; subst e; exact hJ
    have e3 : c'.own = true := by obtain ⟨⟨n, _, e⟩, _⟩ := g; subst e; exact kk.2
    rw [← e1]
    by_cases hik : i < k
    · obtain ⟨t, hb⟩ := turn i hik
      refine wpAny_mono (t.use e2 g.ok (g.base b) cn x') (fun r s₁ ⟨x₁, p₁, r₁⟩ => ?_) fun _ _ e => e
      subst r₁
      exact hb c' A s₁ _ _ e2 ⟨g.ok, e3⟩ (g.base b) cn x₁ fun c'' s₂ g' x₂ => ⟨k - (i + 1), by omega, i + 1, hik, rfl, c'', g.trans g', x₂⟩
    · have : i = k := by omega
      subst this
      cases ends with
      | done t =>
        refine wpAny_mono (t.use e2 g.ok (g.base b) cn x') (fun r s₁ ⟨x₁, p₁, r₁⟩ => ?_) fun _ _ e => e
        subst r₁
        exact wpAny_execs_nil (f c' s₁ g x₁)
      | ret t hb =>
        refine wpAny_mono (t.use e2 g.ok (g.base b) cn x') (fun r s₁ ⟨x₁, p₁, r₁⟩ => ?_) fun _ _ e => e
        subst r₁
        exact hb c' A s₁ _ _ e2 ⟨g.ok, e3⟩ (g.base b) cn x₁ (f.grow g)
      | brk t hb =>
        refine wpAny_mono (t.use e2 g.ok (g.base b) cn x') (fun r s₁ ⟨x₁, p₁, r₁⟩ => ?_) fun _ _ e => e
        subst r₁
        exact hb c' A s₁ _ _ e2 ⟨g.ok, e3⟩ (g.base b) cn x₁ fun c'' s₂ g' x₂ => f c'' s₂ (g.trans g') x₂)
end
end Mine

end
section
open PySem PySem.W PySem.Spec PySem.Calls PyProof.Rows
open PySem.Builtin PySem.Builtin.Str
set_option Elab.async false
set_option maxRecDepth 100000
namespace Mine
section
variable {C : Cfg} {d : Nat} {J : Js} {T : Scope} {ρ : Rho}

theorem st_pair {x y : Str} {px py tpos vpos pos : Pos} {k k' : Nat} {e₁ e₂ : Expr} {a b : V} {ρ₁ ρ₂ : Rho} (h₁ : Ev C d J T ρ e₁ a) (h₂ : Ev C d J T ρ e₂ b) (hp1 : Put ρ y (.val b) ρ₁) (hp2 : Put ρ₁ x (.val a) ρ₂)
    (hx : T.names.lookup x = some .local) (hy : T.names.lookup y = some .local) (hn1 : NoApp ρ y) (hn2 : NoApp ρ₁ x)
    (he1 : ∀ env, starEach [e₁, e₂] env = (false, eval e₁ env) :: starEach [e₂] env := by intro _; with_unfolding_all rfl) (he2 : ∀ env, starEach [e₂] env = (false, eval e₂ env) :: starEach [] env := by intro _; with_unfolding_all rfl)
    (hs : ∀ env, swapsWithSole [.Tuple [.Name x px, .Name y py] k tpos] (.Tuple [e₁, e₂] k' vpos) pos.line env = pure false := by intro _; with_unfolding_all rfl)
    (hw : ∀ env : Env, env.scope = T → swappedStores [.Tuple [.Name x px, .Name y py] k tpos] (.Tuple [e₁, e₂] k' vpos) env = pure (some [x, y])) :
    Ex1 C d J T ρ (.Assign [.Tuple [.Name x px, .Name y py] k tpos] (.Tuple [e₁, e₂] k' vpos) pos) (.next ρ₂) :=
  fun c A s Q E hJ kk bs cn x0 f => by
    refine Assign_Tuple_swapped (names := [x, y]) (wpAny_mono ((ev_tup (k := k') (pos := vpos) (eva_cons h₁ (eva_cons h₂ eva_nil he2) he1) (by simp only [List.length_cons, List.length_nil, sizeLine_eq]; omega)).use hJ kk.1 bs cn x0) (fun u s₁ ⟨x₁, p₁, r₁⟩ => ?_) fun _ _ e => e) (hs _) (hw _ kk.1.scope)
    obtain ⟨t, us, rfl, pl, r⟩ := r₁
    obtain ⟨u, w, rfl, ra, rb⟩ := rvs2 r
    refine unpackItems_tuple (items := #[u, w]) cn.hh (isTup_of pl) fun h' he => ?_
    have hle : HLe s₁.heap h' := fun b o e => he b o (Nat.ne_of_lt (Heap.lt_size e)) e
    have x₂ : St c ρ { s₁ with heap := h' } := x₁.grow (t := s₁.toks) hle
    show wpAny _ _ (assignInOrder [bindName c.env y, bindName c.env x] [w, u]) _ _ _
    refine wpAny_bind (wpAny_holding (wpAny_bindName (st_storeV kk.1 x₂ (fun _ => kk.2) (.inl hy) hn1.eq (RV.mono (vis_keeps hle) rb) fun h2 t2 x3 hv => ?_)))
    refine wpAny_bind (wpAny_holding (wpAny_bindName (st_storeV kk.1 (hp1.eq ▸ x3) (fun _ => kk.2) (.inl hx) hn2.eq (RV.mono hv (RV.mono (vis_keeps hle) ra)) fun h3 t3 x4 _ => ?_)))
    exact wpAny_pure (f c _ (Grow.refl kk.1) (hp2.eq ▸ x4))
end
end Mine

end
section
open PySem PySem.W PySem.Spec PySem.Calls PyProof.Rows
open PySem.Builtin PySem.Builtin.Str
set_option Elab.async false
set_option maxRecDepth 100000
namespace Mine
section
variable {C : Cfg} {d : Nat} {J : Js} {T : Scope} {ρ : Rho}

theorem st_try {body : List Stmt} {h₀ : ExceptHandler} {hs : List ExceptHandler} {pos : Pos} {o : Out} (h : Ex C d J T ρ body o) : Ex1 C d J T ρ (.Try body (h₀ :: hs) [] [] pos) o :=
  fun c A s Q E hJ kk b cn x f => wpAny_Try_except (h c A s _ _ hJ kk b cn x (by
    cases o with
    | next ρ' => exact fun c' s' g x' => wpAny_execs_nil (f c' s' g x')
    | brk ρ' => exact fun c' s' g x' => f c' s' g x'
    | ret v => exact fun mu' s' u hm hk j r => f mu' s' u hm hk j r))

theorem op_typeS {l : List Nat} : OpN C d (fun us => call (.type "type") us) [.str l] (fun h u => RV h (.const (.type "str")) u) := fun c T ρ A s us Q E k b cn x r q => by
  obtain ⟨u, rfl, t, rfl⟩ := rvs1 r
  exact call_type_of (Tx := "str") rfl (by decide) (q _ _ x.sid rfl)
theorem op_isiS {l : List Nat} : OpN C d (fun us => call (.builtin "isinstance") us) [.str l, .const (.type "str")] (fun h u => RV h (.bool true) u) := fun c T ρ A s us Q E k b cn x r q => by
  obtain ⟨u, w, rfl, ⟨t, rfl⟩, e⟩ := rvs2 r
  have e : w = .type "str" := e
  subst e
  exact call_isinstance_yes (Tx := "str") rfl (by rfl) (by rw [isSubtype_type]; kernel_rfl) (q _ _ x.sid rfl)
theorem op_isiB {l : List Nat} : OpN C d (fun us => call (.builtin "isinstance") us) [.str l, .const (.type "bytes")] (fun h u => RV h (.bool false) u) := fun c T ρ A s us Q E k b cn x r q => by
  obtain ⟨u, w, rfl, ⟨t, rfl⟩, e⟩ := rvs2 r
  have e : w = .type "bytes" := e
  subst e
  refine call_isinstance_of (isinstance_nested_false_str (by decide) (by rfl) (by rw [isSubtype_type]; kernel_rfl) ?_)
  exact q _ _ (x.stok _) rfl

theorem preSum_list (ns : List Int) : ∀ j, preSum (fun i => ns.getD i 0) j = (ns.take j).sum := preSum_getD ns
theorem op_sum {ns : List Int} : OpN C d (fun us => call (.builtin "sum") us) [.list (ns.map .int)] (fun h u => RV h (.int ns.sum) u) := fun c T ρ A s us Q E k b cn x r q => by
  obtain ⟨u, rfl, a, us, rfl, pl, rv⟩ := rvs1 r
  have il := isList_of pl
  have hl := rv.len
  obtain ⟨ol, hgo, _⟩ := il
  have hne : a ≠ s.heap.objs.size := Nat.ne_of_lt (Heap.lt_size hgo)
  have hh : A.in1.handled = none := cn.hh
  refine call_sum_walkG (wpAny_pyIter_list (isList_of pl) ⟨_, _, _, _, _, _, fun i => ns.getD i 0, rfl, Walks.list hh s.heap.objs.size a hne us.toArray, ⟨⟨_, Heap.get?_push_size _ rfl, rfl, rfl⟩, (isList_of pl).at fun o e => Heap.get?_push_of_some _ e⟩, fun b hb => ?_, fun i v hv => ?_, fun h' tk t' hk => ?_⟩)
  · show b < (s.heap.push _).objs.size
    rw [Heap.size_push]
    rcases List.mem_cons.mp hb with e | hb
    · rw [e]; exact Nat.lt_succ_self _
    · rw [List.mem_singleton.mp hb]; exact Nat.lt_succ_of_lt (Heap.lt_size hgo)
  · have hv' : us[i]? = some v := by simpa using hv
    have hi : i < us.length := by rw [List.getElem?_eq_some_iff] at hv'; exact hv'.1
    have hi2 : i < ns.length := by rw [hl] at hi; simpa using hi
    obtain ⟨w, hw, rw'⟩ := rv.get i (.int (ns[i])) (by simp [hi2])
    rw [hv'] at hw; cases hw
    obtain ⟨t, rfl⟩ := rw'
    exact ⟨t, by simp [List.getD, hi2]⟩
  · have e : preSum (fun i => ns.getD i 0) us.toArray.size = ns.sum := by
      rw [preSum_list, List.size_toArray, hl, List.length_map, List.take_length]
    rw [e]
    refine q _ _ (x.sle (fun b o e => hk b o (fun q => ?_) (Heap.get?_push_of_some _ e)) tk) ⟨_, rfl⟩
    rw [List.mem_singleton.mp q] at e
    exact absurd (Heap.lt_size e) (Nat.lt_irrefl _)
end
end Mine

end
section
open PySem PySem.W PySem.Spec PySem.Calls PyProof.Rows
open PySem.Builtin PySem.Builtin.Str
set_option Elab.async false
set_option maxRecDepth 100000
namespace Mine
section
variable {C : Cfg} {d : Nat} {J : Js} {T : Scope}

inductive Loop (C : Cfg) (d : Nat) (J : Js) (T : Scope) (body : List Stmt) (y : Str) : Rho → List V → Out → Prop where
  | done {ρ : Rho} : NoApp ρ y → Loop C d J T body y ρ [] (.next ρ)
  | step {ρ ρ' : Rho} {v : V} {xs : List V} {o : Out} : NoApp ρ y → Ex C d J T (put ρ y (.val v)) body (.next ρ') → Loop C d J T body y ρ' xs o → Loop C d J T body y ρ (v :: xs) o
  | ret {ρ : Rho} {v w : V} {xs : List V} : NoApp ρ y → Ex C d J T (put ρ y (.val v)) body (.ret w) → Loop C d J T body y ρ (v :: xs) (.ret w)
  | brk {ρ ρ' : Rho} {v : V} {xs : List V} : NoApp ρ y → Ex C d J T (put ρ y (.val v)) body (.brk ρ') → Loop C d J T body y ρ (v :: xs) (.next ρ')

theorem Loop.run {body : List Stmt} {y : Str} {ρ : Rho} {xs : List V} {o : Out} (h : Loop C d J T body y ρ xs o) :
    ∃ (ρs : Nat → Rho) (k : Nat), ρs 0 = ρ ∧ k ≤ xs.length ∧ (∀ i, i ≤ k → noApp (ρs i) y = true) ∧ (∀ i, i < k → Ex C d J T (put (ρs i) y (.val (xs.getD i .none))) body (.next (ρs (i + 1)))) ∧
      Ends C d J T body y (ρs k) (if k < xs.length then some (xs.getD k .none) else none) o := by
  induction h with
  | @done ρ hn => exact ⟨fun _ => ρ, 0, rfl, Nat.le_refl _, fun _ _ => hn.eq, fun i hi => absurd hi (Nat.not_lt_zero _), .done rfl⟩
  | @step ρ ρ' v xs o hn hb _ ih =>
    obtain ⟨ρs, k, h0, hk, hna, ht, he⟩ := ih
    refine ⟨fun i => match i with | 0 => ρ | i + 1 => ρs i, k + 1, rfl, Nat.succ_le_succ hk, fun i hi => ?_, fun i hi => ?_, ?_⟩
    · cases i with
      | zero => exact hn.eq
      | succ i => exact hna i (Nat.le_of_succ_le_succ hi)
    · cases i with
      | zero => show Ex C d J T (put ρ y (.val v)) body (.next (ρs 0)); rw [h0]; exact hb
      | succ i => exact ht i (Nat.lt_of_succ_lt_succ hi)
    · have : (if k + 1 < (v :: xs).length then some ((v :: xs).getD (k + 1) .none) else none) = (if k < xs.length then some (xs.getD k .none) else none) := by
        simp
      rw [this]
      exact he
  | @ret ρ v w xs hn hb => exact ⟨fun _ => ρ, 0, rfl, Nat.zero_le _, fun _ _ => hn.eq, fun i hi => absurd hi (Nat.not_lt_zero _), .ret (v := v) (by simp) hb⟩
  | @brk ρ ρ' v xs hn hb => exact ⟨fun _ => ρ, 0, rfl, Nat.zero_le _, fun _ _ => hn.eq, fun i hi => absurd hi (Nat.not_lt_zero _), .brk (v := v) (by simp) hb⟩

theorem st_loop {ρ ρ₀ : Rho} {y : Str} {p pos : Pos} {e : Expr} {body : List Stmt} {xs : List V} {o : Out} (h : Src C d J T ρ e xs.length (fun i => xs.getD i .none)) (h0 : Sub ρ₀ ρ)
    (hy : T.names.lookup y = some .local ∨ T.names.lookup y = some .cell) (hl : Loop C d J T body y ρ xs o)
    (hs : ∀ env x, foldedSetIterable e env x = pure x := by intro _ _; with_unfolding_all rfl) : Ex1 C d J T ρ₀ (.For (.Name y p) e body [] pos) o := by
  obtain ⟨ρs, k, e0, hk, hna, ht, he⟩ := hl.run
  exact Ex.less1 (st_for ρs k (e0 ▸ h) e0 hy hna hk ht he hs) h0

theorem Walks.only {prog : Program} {w : World} {A : Around} {I : Addr} {fp wr : List Addr} {n : Nat} {P : Nat → Value → Prop} {Stt : Nat → Heap → Prop} (W : Walks prog w A I fp wr n P Stt) : Walks prog w A I fp wr n (fun i v => i < n ∧ P i v) Stt where
  sub := W.sub
  frame := W.frame
  item := fun i s Q E hi st hQ => W.item i s Q E hi st fun v h' t hp => hQ v h' t ⟨hi, hp⟩
  done := W.done
  self := W.self
theorem Src.list {ρ : Rho} {e : Expr} {n : Nat} {vs : Nat → V} (h : Src C d J T ρ e n vs) : Src C d J T ρ e ((List.range n).map vs).length (fun i => ((List.range n).map vs).getD i .none) :=
  fun c A s Q E hJ ok bs cn x q => h c A s Q E hJ ok bs cn x fun u s' p it => q u s' p fun Q2 E2 q2 => it Q2 E2 fun fp P Stt s₂ W hle hg ho hl hfp hst hP hnl hlv => by
    refine q2 fp (fun i v => i < n ∧ P i v) Stt s₂ ?_ hle hg ho hl hfp hst (fun i v hv => ?_) hnl hlv
    · rw [List.length_map, List.length_range]; exact Walks.only W
    · have := hP i v hv.2
      simpa [List.getD, hv.1] using this

inductive WLoop (C : Cfg) (d : Nat) (J : Js) (T : Scope) (test : Expr) (body : List Stmt) : Rho → Out → Prop where
  | done {ρ : Rho} : Tst C d J T ρ test false → WLoop C d J T test body ρ (.next ρ)
  | step {ρ ρ' : Rho} {o : Out} : Tst C d J T ρ test true → Ex C d J T ρ body (.next ρ') → WLoop C d J T test body ρ' o → WLoop C d J T test body ρ o
  | ret {ρ : Rho} {w : V} : Tst C d J T ρ test true → Ex C d J T ρ body (.ret w) → WLoop C d J T test body ρ (.ret w)
  | brk {ρ ρ' : Rho} : Tst C d J T ρ test true → Ex C d J T ρ body (.brk ρ') → WLoop C d J T test body ρ (.next ρ')
theorem WLoop.run {test : Expr} {body : List Stmt} {ρ : Rho} {o : Out} (h : WLoop C d J T test body ρ o) :
    ∃ (ρs : Nat → Rho) (k : Nat), ρs 0 = ρ ∧ (∀ i, i < k → Tst C d J T (ρs i) test true ∧ Ex C d J T (ρs i) body (.next (ρs (i + 1)))) ∧ EndW C d J T test body (ρs k) o := by
  induction h with
  | @done ρ t => exact ⟨fun _ => ρ, 0, rfl, fun i hi => absurd hi (Nat.not_lt_zero _), .done t⟩
  | @step ρ ρ' o t hb _ ih =>
    obtain ⟨ρs, k, h0, ht, he⟩ := ih
    refine ⟨fun i => match i with | 0 => ρ | i + 1 => ρs i, k + 1, rfl, fun i hi => ?_, he⟩
    cases i with
    | zero => show Tst C d J T ρ test true ∧ Ex C d J T ρ body (.next (ρs 0)); rw [h0]; exact ⟨t, hb⟩
    | succ i => exact ht i (Nat.lt_of_succ_lt_succ hi)
  | @ret ρ w t hb => exact ⟨fun _ => ρ, 0, rfl, fun i hi => absurd hi (Nat.not_lt_zero _), .ret t hb⟩
  | @brk ρ ρ' t hb => exact ⟨fun _ => ρ, 0, rfl, fun i hi => absurd hi (Nat.not_lt_zero _), .brk t hb⟩
theorem st_wloop {ρ ρ₀ : Rho} {test : Expr} {body : List Stmt} {pos : Pos} {o : Out} (h : WLoop C d J T test body ρ o) (h0 : Sub ρ₀ ρ) : Ex1 C d J T ρ₀ (.While test body [] pos) o := by
  obtain ⟨ρs, k, e0, ht, he⟩ := h.run
  exact Ex.less1 (st_while ρs k e0 ht he) h0
end
end Mine

end
section
open PySem PySem.W PySem.Spec PySem.Calls PyProof.Rows
open PySem.Builtin PySem.Builtin.Str
set_option Elab.async false
set_option maxRecDepth 100000
namespace Mine
section
variable {C : Cfg} {d : Nat} {J : Js} {T : Scope} {ρ : Rho}

inductive CompR (ρ : Rho) (sc : Scope) : Rho → Prop where
  | nil : CompR ρ sc []
  | val {z v r} : At ρ z (.val v) → sc.names.lookup z = some .free → CompR ρ sc r → CompR ρ sc ((z, .val v) :: r)
  | mu {z xs r} : At ρ z (.mut xs) → sc.names.lookup z = some .free → CompR ρ sc r → CompR ρ sc ((z, .rd xs) :: r)
theorem CompR.get {sc : Scope} {ρf : Rho} (h : CompR ρ sc ρf) : ∀ z sl, ρf.lookup z = some sl → ∃ sl₀, ρ.lookup z = some sl₀ ∧ inComp sl₀ = some sl ∧ sc.names.lookup z = some .free := by
  induction h with
  | nil => intro z sl e; simp at e
  | @val x v r a b _ ih =>
    intro z sl e
    by_cases h : z = x
    · subst h; simp [List.lookup] at e; subst e; exact ⟨_, a.eq, rfl, b⟩
    · have : (z == x) = false := beq_eq_false_iff_ne.mpr h
      simp only [List.lookup, this] at e
      exact ih z sl e
  | @mu x v r a b _ ih =>
    intro z sl e
    by_cases h : z = x
    · subst h; simp [List.lookup] at e; subst e; exact ⟨_, a.eq, rfl, b⟩
    · have : (z == x) = false := beq_eq_false_iff_ne.mpr h
      simp only [List.lookup, this] at e
      exact ih z sl e

noncomputable def compOk (sc T : Scope) (x : Str) : Bool :=
  decide (sc.kind = .function) && decide (sc.names.lookup x = some .local) && sc.names.all fun p => match p.2 with
    | .free => decide (T.names.lookup p.1 = some .cell)
    | .cell => false
    | .local => decide (sc.names.lookup p.1 = some .local)
    | _ => true
theorem compOk_all {sc T : Scope} {x : Str} (h : compOk sc T x = true) : (∀ z, (z, NameKind.free) ∈ sc.names → T.names.lookup z = some .cell) ∧ (∀ p ∈ sc.names, p.2 ≠ .cell) ∧ sc.kind = .function ∧
    (∀ x ∈ sc.names, x.2 = .local → sc.names.lookup x.1 = some .local) ∧ sc.names.lookup x = some .local := by
  unfold compOk at h
  simp only [Bool.and_eq_true, decide_eq_true_eq, List.all_eq_true] at h
  obtain ⟨⟨h1, h2⟩, h3⟩ := h
  refine ⟨fun z hz => ?_, fun p hp e => ?_, h1, fun p hp e => ?_, h2⟩
  · simpa using h3 _ hz
  · have := h3 p hp; rw [e] at this; simp at this
  · have := h3 p hp; rw [e] at this; simpa using this

theorem fil_step {α : Type} (b : Nat → Bool) (y : Nat → α) (i : Nat) : ((List.range (i + 1)).filter b).map y = if b i then ((List.range i).filter b).map y ++ [y i] else ((List.range i).filter b).map y := by
  rw [List.range_succ, List.filter_append, List.map_append]
  cases h : b i <;> simp [h]

theorem ev_compF {x : Str} {px pos : Pos} {elt iter : Expr} {ifs : List Expr} {sc : Scope} {n : Nat} {vs : Nat → V} (ρf : Rho) (b : Nat → Bool) (y : Nat → V) (hc : compOk sc T x = true) (h : Src C d J T ρ iter n vs) (hn : n ≤ sizeLine)
    (hρ : CompR ρ sc ρf) (hna : NoApp ρf x)
    (htest : ∀ i, i < n → Tss C d J (relab sc T) (put ρf x (.val (vs i))) ifs (b i))
    (helt : ∀ i, i < n → b i = true → Ev C d J (relab sc T) (put ρf x (.val (vs i))) elt (y i)) (hs : ∀ env x, foldedSetIterable iter env x = pure x := by intro _ _; with_unfolding_all rfl) :
    Ev C d J T ρ (.ListComp elt [⟨.Name x px, iter, ifs, 0⟩] sc pos) (.list (((List.range n).filter b).map y)) :=
  let ⟨h1, h2, h3, h4, h5⟩ := compOk_all hc
  ev_comp ρf b y (fun i => ((List.range i).filter b).map y) h hn h1 h2 h3 h4 h5 hρ.get hna.eq ⟨rfl, fun i _ => fil_step b y i⟩ rfl htest helt hs
theorem st_compF {x z : Str} {px pz pos spos : Pos} {elt iter : Expr} {ifs : List Expr} {sc : Scope} {n : Nat} {vs : Nat → V} {ρ' : Rho} (ρf : Rho) (b : Nat → Bool) (y : Nat → V) (hc : compOk sc T x = true) (h : Src C d J T ρ iter n vs) (hn : n ≤ sizeLine)
    (hz : T.names.lookup z = some .local) (hnz : NoApp ρ z) (hput : Put ρ z (.val (.list (((List.range n).filter b).map y))) ρ') (hsw : ∀ env : Env, env.scope = T → swapsWith (.ListComp elt [⟨.Name x px, iter, ifs, 0⟩] sc pos) (some (.Name z pz)) spos.line env = pure true)
    (hρ : CompR ρ sc ρf) (hna : NoApp ρf x)
    (htest : ∀ i, i < n → Tss C d J (relab sc T) (put ρf x (.val (vs i))) ifs (b i))
    (helt : ∀ i, i < n → b i = true → Ev C d J (relab sc T) (put ρf x (.val (vs i))) elt (y i)) (hs : ∀ env x, foldedSetIterable iter env x = pure x := by intro _ _; with_unfolding_all rfl) :
    Ex1 C d J T ρ (.Assign [.Name z pz] (.ListComp elt [⟨.Name x px, iter, ifs, 0⟩] sc pos) spos) (.next ρ') :=
  let ⟨h1, h2, h3, h4, h5⟩ := compOk_all hc
  hput.eq ▸ st_compAssign ρf b y (fun i => ((List.range i).filter b).map y) h hn hz hnz.eq hsw h1 h2 h3 h4 h5 hρ.get hna.eq ⟨rfl, fun i _ => fil_step b y i⟩ rfl htest helt hs

noncomputable def bodyOf : Stmt → List Stmt
  | .For _ _ b _ _ => b
  | .While _ b _ _ => b
  | .Try b _ _ _ _ => b
  | .If _ b _ _ => b
  | _ => []
noncomputable def testOf : Stmt → Expr
  | .While t _ _ _ => t
  | .If t _ _ _ => t
  | _ => .Constant .none 0 ⟨0, 0, 0, 0⟩
noncomputable def elseOf : Stmt → List Stmt
  | .If _ _ b _ => b
  | _ => []
noncomputable def nth (l : List Stmt) (i : Nat) : Stmt := (l.drop i).headD (.Pass ⟨0, 0, 0, 0⟩)
theorem pow_bits {n : Nat} (h : n ≤ 1000) : (Builtin.Int.intBits 2 : Int) * n ≤ 2 ^ 27 := by
  have : (Builtin.Int.intBits 2 : Int) ≤ 8 := by decide +kernel
  have h2 : (Builtin.Int.intBits 2 : Int) * n ≤ 8 * n := Int.mul_le_mul_of_nonneg_right this (by omega)
  omega
end
end Mine

end
section
open PySem PySem.W PySem.Spec PySem.Calls PyProof.Rows
open PySem.Builtin PySem.Builtin.Str
set_option Elab.async false
set_option maxRecDepth 100000
namespace Mine
section
variable {prog : Program} {w : World} {A : Around} {E : Value → Shared → Prop} {s : Shared}

theorem sub_str_str : isSubtype (.type "str") (.type "str") = pure true := by rw [isSubtype_type]; kernel_rfl
theorem issub_inner {dep : Int} {tk : Tok} {P : PySem.Fin → Shared → Prop} (h : P (.done (.ret (.bool true))) s) :
    wpAny (model prog w) A (Builtin.«issubclass.nested» ⟨[.type "str", .type "str", .int dep tk], []⟩) P E s := by
  have hself := sub_str_str
  have ht : typeOf (.type "str") = pure (.type "type") := by rfl
  repeat (any_goals (first | assumption | (rw [hself]) | wp_step))
theorem kind_issn : builtinKind "issubclass.nested" = none := by decide +kernel
theorem plain_issn : plainId "issubclass.nested" = true := by decide +kernel
theorem args_issn (a b c : Value) : argsOk "issubclass.nested" ⟨[a, b, c], []⟩ := by unfold argsOk; kernel_rfl
theorem call_issn {Q : Value → Shared → Prop} {tk : Tok} {i : Int} (h : Q (.bool true) s) : wpAny (model prog w) A (call (.builtin "issubclass.nested") [.type "str", .type "str", .int i tk]) Q E s := by
  refine call_function_tree kind_issn plain_issn F.entry_issubclass_nested (args_issn _ _ _) (issub_inner ?_)
  exact h
theorem issub_tup {t : Addr} {P : PySem.Fin → Shared → Prop} (hT : IsTup s.heap t #[.type "str", .type "bytes"]) (h : ∀ tk, P (.done (.ret (.bool true))) { s with toks := tk }) :
    wpAny (model prog w) A (Builtin.«issubclass.nested» ⟨[.type "str", .ref t, rawInt 0], []⟩) P E s := by
  obtain ⟨⟨oc, od, odd, osl⟩, ho, hc, n, hd⟩ := hT
  simp only at hc hd
  subst hc hd
  obtain ⟨hp, g, d, tk, os⟩ := s
  have hT : ∀ tk', (⟨hp, g, d, tk', os⟩ : Shared).TypeIs (.ref t) "tuple" := fun _ => ⟨_, ho, rfl⟩
  have ht : typeOf (.type "str") = pure (.type "type") := by rfl
  have h1 : isSubtype (.type "tuple") (.type "tuple") = pure true := by rw [isSubtype_type]; kernel_rfl
  unfold Builtin.«issubclass.nested»
  repeat (any_goals (first | assumption | exact hT _ | ((with_reducible show wpAny _ _ (call (Value.builtin "issubclass.nested") _) _ _ _); refine call_issn (i := 1) ?_) | wp_step))
  exact h _
end
section
variable {C : Cfg} {d : Nat} {J : Js} {T : Scope} {ρ : Rho}
theorem op_issub : OpN C d (fun us => call (.builtin "issubclass") us) [.const (.type "str"), .tup [.const (.type "str"), .const (.type "bytes")]] (fun h u => RV h (.bool true) u) := fun c T ρ A s us Q E k b cn x r q => by
  obtain ⟨u, w, rfl, e1, r2⟩ := rvs2 r
  have e1 : u = .type "str" := e1
  subst e1
  obtain ⟨t, vs, rfl, pl, rv⟩ := r2
  obtain ⟨a, b', rfl, e1, e2⟩ := rvs2 rv
  have e1 : a = .type "str" := e1
  have e2 : b' = .type "bytes" := e2
  subst e1 e2
  refine call_function_tree F.kind_issubclass F.plain_issubclass F.entry_issubclass (F.args_issubclass_2 _ _) (issubclass_outer (R := fun r s' => match r with | .ok (.ret v) => Q v s' | .ok _ => False | .error e => E e s') (issub_tup (isTup_of pl) fun tk => ?_))
  exact q _ _ (x.stok _) rfl
end
end Mine

end
section
open PySem PySem.W PySem.Spec PySem.Calls PyProof.Rows
open PySem.Builtin PySem.Builtin.Str
set_option Elab.async false
set_option maxRecDepth 100000
namespace Mine
section
variable {prog : Program} {w : World} {A : Around} {E : Value → Shared → Prop} {s : Shared}

theorem sub_key_look : isSubtype (.type "KeyError") (.type "LookupError") = pure true := by rw [isSubtype_type]; kernel_rfl
theorem tr_lookup {dm : Addr} {f : Int → Option Value} {c : Nat} {Q : Mapped → Shared → Prop} (hd : (dm == sysModules) = false) (hh : A.handled = none) (hm : s.heap.MapOf (intKind prog w) dm f) (hf : f c = none)
    (h : ∀ h' tk, HLe s.heap h' → Q .keep { s with heap := h', toks := tk }) : wpAny (model prog w) A (tableLookup (.ref dm) c) Q E s := by
  unfold tableLookup
  refine wpAny_bind (wpAny_attempt ?_)
  refine wpAny_bind (wpAny_mkInt ?_)
  refine wpAny_getItem_missing_of (k := (c : Int)) (by simp [intKind, Value.isInt]) hd hh hm hf fun h' e hne => ?_
  obtain ⟨ob, t, hob, hc, _⟩ := hne.there
  dsimp only
  refine wpAny_bind (wpAny_isInstance (T := "KeyError") (b := true) ⟨ob, hob, hc⟩ sub_key_look ?_)
  rw [if_pos rfl]
  exact wpAny_bind (wpAny_rule (wpAny_pure (h _ _ hne.keeps)))
theorem tr_run {dm : Addr} {f : Int → Option Value} {c : Nat} {t : Tok} {P : PySem.Fin → Shared → Prop} (hd : (dm == sysModules) = false) (hh : A.handled = none) (hm : s.heap.MapOf (intKind prog w) dm f) (hf : f c = none) (h128 : c < 128)
    (h : ∀ h' tk t', HLe s.heap h' → P (.done (.ret (.str (S [c]) t'))) { s with heap := h', toks := tk }) : wpAny (model prog w) A (Builtin.«str.translate» ⟨[.str (S [c]) t, .ref dm], []⟩) P E s := by
  unfold Builtin.«str.translate»
  refine wpAny_bind (m := strOneArg "translate" _) (wpAny_bind (wpAny_of_eq (a := (.str (S [c]) t, .ref dm)) (by rfl) ?_))
  refine wpAny_bind (wpAny_of_eq (a := S [c]) (by rfl) (wpAny_pure ?_))
  have h1 : ((S [c]).length == 0) = false := by simp [S, Str.length]
  have h2 : (S [c]).cps.all (· < 128) = true := by simp [S, h128]
  simp only [h1, h2, Bool.false_eq_true, if_false]
  have e : (S [c]).cps = [c].toArray := rfl
  rw [e]
  simp only [List.forIn_toArray, List.forIn_cons, List.forIn_nil]
  have h3 : tooLong 0 = false := by rfl
  simp only [h3, Bool.false_eq_true, if_false, if_true, List.lookup]
  refine wpAny_bind (wpAny_bind (wpAny_bind (tr_lookup hd hh hm hf fun h' tk hk => ?_)))
  dsimp only
  refine wpAny_bind (wpAny_pure ?_)
  refine wpAny_pure (wpAny_pure ?_)
  rw [if_neg (by show ¬ (tooLong (0 + 1) = true); decide)]
  show wpAny _ _ (retStr (S [c])) _ _ _
  exact wpAny_bind (wpAny_mkStr (wpAny_pure (h _ _ _ hk)) (by rw [S_len, sizeLine_eq]; simp))
end
section
variable {C : Cfg} {d : Nat} {J : Js} {T : Scope} {ρ : Rho}
/-- the map of the signs that are set apart -/
structure SpMap (C : Cfg) : Prop where
  m : ∃ dm, C.mg "_special_chars_map" = some (.ref dm) ∧ (dm == sysModules) = false ∧ ∀ h, C.extra h → ∃ f, h.MapOf (intKind C.prog C.w) dm f ∧ ∀ c : Nat, 47 ≤ c → c ≤ 57 → f c = none
theorem op_trans {dm : Addr} {c : Nat} (hd : (dm == sysModules) = false) (hm : ∀ h, C.extra h → ∃ f, h.MapOf (intKind C.prog C.w) dm f ∧ ∀ c : Nat, 47 ≤ c → c ≤ 57 → f c = none) (h1 : 47 ≤ c) (h2 : c ≤ 57) :
    OpN C d (fun us => call (.builtin "str.translate") us) [.str [c], .const (.ref dm)] (fun h u => RV h (.str [c]) u) := fun cx T ρ A s us Q E k b cn x r q => by
  obtain ⟨u, w, rfl, ⟨t, rfl⟩, e1⟩ := rvs2 r
  have e1 : w = .ref dm := e1
  subst e1
  obtain ⟨f, hf, hf2⟩ := hm s.heap (b.now x.keep).extra
  exact wpAny_call_entry PySem.F.slot_str_translate (typeIs_str _ _ _) PySem.F.entry_str_translate (tr_run hd cn.hh hf (hf2 c h1 h2) (by omega) fun h' tk t' hk => ⟨_, rfl, q _ _ (x.sle hk tk) ⟨t', rfl⟩⟩) (PySem.F.args_str_translate_2 _ _)
end
end Mine

end
section
open PySem PySem.W PySem.Spec PySem.Calls PyProof.Rows
open PySem.Builtin PySem.Builtin.Str
set_option Elab.async false
set_option maxRecDepth 100000
namespace Mine
section
variable {C : Cfg} {d : Nat} {J : Js} {T : Scope} {ρ : Rho}
theorem tst_mut {y : Str} {p : Pos} {xs : List V} (h : At ρ y (.mut xs)) (hn : xs.length ≤ sizeLine) (hd : ((y == ("__debug__" : Str)) || (y == ("__classdict__" : Str))) = false) : Tst C d J T ρ (.Name y p) (!xs.isEmpty) :=
  fun c A s Q E hJ kk b cn x q => by
    obtain ⟨a, us, n, pl, r⟩ := x.mlist (.inl h.eq)
    have hl := r.len
    rw [sizeLine_eq] at hn
    refine isTrue_plain (e := .Name y p) (eval_nm kk n ?_ hd) (by rfl)
    refine wpAny_truthy_list (items := us.toArray) pl.isList (by simp only [List.size_toArray]; omega) (q _ _ (x.stok _) ?_)
    cases xs with
    | nil => cases r; rfl
    | cons a l => cases us with
      | nil => simp at hl
      | cons b vs => simp
theorem ev_itemMu {y : Str} {p : Pos} {i : Expr} {pos : Pos} {xs : List V} {k : Int} {v : V} (j : Nat) (hy : At ρ y (.mut xs)) (h₂ : Ev C d J T ρ i (.int k)) (hj : at? xs.length k j) (hx : xs[j]? = some v) (hn : xs.length ≤ sizeLine)
    (hd : ((y == ("__debug__" : Str)) || (y == ("__classdict__" : Str))) = false)
    (hs : ∀ o y, subscripted i false o y = operate [o, y] (getItem o y) := by intro _ _; with_unfolding_all rfl) : Ev C d J T ρ (.Subscript (.Name y p) i pos) v := ev_itemM j (.inl hy.eq) h₂ hj hx hn hd hs
theorem ev_itemRd {y : Str} {p : Pos} {i : Expr} {pos : Pos} {xs : List V} {k : Int} {v : V} (j : Nat) (hy : At ρ y (.rd xs)) (h₂ : Ev C d J T ρ i (.int k)) (hj : at? xs.length k j) (hx : xs[j]? = some v) (hn : xs.length ≤ sizeLine)
    (hd : ((y == ("__debug__" : Str)) || (y == ("__classdict__" : Str))) = false)
    (hs : ∀ o y, subscripted i false o y = operate [o, y] (getItem o y) := by intro _ _; with_unfolding_all rfl) : Ev C d J T ρ (.Subscript (.Name y p) i pos) v := ev_itemM j (.inr hy.eq) h₂ hj hx hn hd hs
theorem inter_off {T : Scope} (h : T.kind = .function) : ∀ env : Env, env.scope = T → interactive env = false := fun env e => by
  unfold interactive; rw [e, h]; rfl
end
end Mine

end
section
open PySem PySem.W PySem.Spec PySem.Calls PyProof.Rows
open PySem.Builtin PySem.Builtin.Str
set_option Elab.async false
set_option maxRecDepth 100000
namespace Mine
theorem fn_ofB {C : Cfg} {d : Nat} {J : Js} {f : Addr} {r : FnRec} {as as' : List V} {v : V} (names : List Str) (hr : C.fn f = some r)
    (h : Ex C d J r.scope (names.zip (as'.map Slot.val)) r.body (.ret v))
    (hb : ∀ (mu : List Addr) (s : Shared) (us : List Value) (A : Around) (E : Value → Shared → Prop) (Q : List (Str × Value) → Shared → Prop), RVs (hideAll s.heap mu) as us → (∀ a ∈ mu, ∃ o, s.heap.get? a = some o) →
      (∀ ws s', RVs (hideAll s'.heap mu) as' ws → HLe s.heap s'.heap → s'.gens = s.gens → s'.os = s.os → Q (names.zip ws) s') → ∀ doc pm an cdv ct, wpAny (model C.prog C.w) A (bindArgs (fnOf r.name r.name r.params r.body r.scope .none .none doc pm an cdv ct) ⟨us, []⟩) Q E s)
    (hn : names.Nodup) (hloc : ∀ x ∈ names, r.scope.names.lookup x = some .local) (hfree : ∀ p ∈ r.scope.names, p.2 ≠ .free)
    (hco : r.scope.isCoroutine = false := by rfl) (hgen : r.scope.isGenerator = false := by rfl) (hk : r.scope.kind = .function := by rfl) : Fn C (d + 1) J f as v := by
  intro mu A s us Q E b j low cn rv q
  obtain ⟨o, doc, pm, an, cdv, ct, ho, hd, hcd⟩ := b.fns f r hr
  have ho' := of_hideAll _ ho
  have hbase : C.Base s.heap := b.keeps fun _ _ e => of_hideAll _ e
  refine wpAny_call (codeAny_call_function (fd := fnOf r.name r.name r.params r.body r.scope .none .none doc pm an cdv ct) (body := r.body) cn.lim ho' hd hco hgen rfl (hcd.keeps fun _ _ e => of_hideAll _ e)
    (hb mu s us _ _ _ rv low (fun ws s2 rv2 hle2 hg2 ho2 => wpAny_newFunctionEnv_cells hk (fun x hx => .inl (hloc x.1 (List.of_mem_zip hx).1)) fun env₀ he₀ s₁ X => ?_) doc pm an cdv ct))
  subst he₀
  refine ⟨(hbase.lim.keeps hle2).keeps X.toInCall.keep, codeAny_func ?_⟩
  have b2 : C.Base (hideAll s2.heap mu) := b.keeps (hide_le fun a o _ e => hle2 a o e)
  have j2 : J s2.gens s2.os := by rw [hg2, ho2]; exact j
  have low2 : ∀ a ∈ mu, ∃ o, s2.heap.get? a = some o := fun a ha => let ⟨o, e⟩ := low a ha; ⟨o, hle2 _ _ e⟩
  have X' : InCallC s2 (callEnvC (fnOf r.name r.name r.params r.body r.scope .none .none doc pm an cdv ct) s2.heap.objs.size f).locals (bindL (callEnvC (fnOf r.name r.name r.params r.body r.scope .none .none doc pm an cdv ct) s2.heap.objs.size f).kindOf (names.zip ws) fun _ => none) (callEnvC (fnOf r.name r.name r.params r.body r.scope .none .none doc pm an cdv ct) s2.heap.objs.size f).cells (bindC (callEnvC (fnOf r.name r.name r.params r.body r.scope .none .none doc pm an cdv ct) s2.heap.objs.size f).kindOf (names.zip ws) fun _ => none) s₁ := X
  clear X
  have X := X'
  clear X'
  change wpAny _ (A.deeper (callEnvC (fnOf r.name r.name r.params r.body r.scope .none .none doc pm an cdv ct) s2.heap.objs.size f)) (execs r.body (callEnvC (fnOf r.name r.name r.params r.body r.scope .none .none doc pm an cdv ct) s2.heap.objs.size f)) _ (fun e s' => wpAny (model C.prog C.w) (A.deeper (callEnvC (fnOf r.name r.name r.params r.body r.scope .none .none doc pm an cdv ct) s2.heap.objs.size f)) (leaving (callEnvC (fnOf r.name r.name r.params r.body r.scope .none .none doc pm an cdv ct) s2.heap.objs.size f) e) _ _ s') s₁
  generalize hL : s2.heap.objs.size = L at X ⊢
  generalize hfd : fnOf r.name r.name r.params r.body r.scope .none .none doc pm an cdv ct = fd at X ⊢
  have hsc : fd.scope = r.scope := by rw [← hfd]
  -- the new frame
  let env := callEnvC fd L f
  have henv : env.scope = r.scope := by rw [← hsc]; rfl
  have hcells : ∀ x, r.scope.names.lookup x = some .cell → ∃ a, env.cells.lookup x = some a := by
    intro x hx
    have := cellsFrom_some r.scope.names (L + 1) [] x (.inl (mem_of_lookup hx))
    rw [← hsc] at this
    exact Option.isSome_iff_exists.mp this
  let ow := env.locals :: r.scope.names.filterMap (fun p => env.cells.lookup p.1)
  let c : Cx := { J := J, h₀ := s2.heap, ow := ow, mu := ow ++ mu, env := env, own := true }
  have hfresh : ∀ a ∈ ow, L ≤ a := by
    intro a ha
    rcases List.mem_cons.mp ha with e | ha
    · rw [e]; exact Nat.le_refl L
    · obtain ⟨p, hp, e⟩ := List.mem_filterMap.mp ha
      have := X.above p.1 a (mem_of_lookup e)
      exact Nat.le_of_lt (show L < a from this)
  have hoff : ∀ a ∈ ow, s2.heap.get? a = none := by
    intro a ha
    cases q' : s2.heap.get? a with
    | none => rfl
    | some o' => have h8 := Heap.lt_size q'; have h9 := hfresh a ha; rw [hL] at h8; exact absurd h8 (Nat.not_lt.mpr h9)
  have ok : c.Ok r.scope := ⟨henv, hk, by show fd.globals = _; rw [← hfd], by show fd.builtins = _; rw [← hfd], List.mem_cons_self, fun a ha => List.mem_append_left _ ha, hoff,
    fun x hx => by
      obtain ⟨a, ea⟩ := hcells x hx
      exact ⟨a, ea, .inl (List.mem_cons_of_mem _ (List.mem_filterMap.mpr ⟨(x, .cell), mem_of_lookup hx, ea⟩))⟩,
    fun _ x y a _ _ e1 e2 => name_of_addr X.apart (mem_of_lookup e1) (mem_of_lookup e2),
    fun x hx => absurd rfl (hfree _ (mem_of_lookup hx))⟩
  have hkeep : HLe s2.heap s₁.heap := X.toInCall.keep
  obtain ⟨h₁, tk, es⟩ := X.toInCall.same
  have hgens : s₁.gens = s2.gens := by rw [es]
  have hos : s₁.os = s2.os := by rw [es]
  have hvis : HLe (hideAll s2.heap mu) (c.vis s₁.heap) := fun a o e => hideAll_get _ (hkeep _ _ (of_hideAll _ e)) fun q' => by
    rcases List.mem_append.mp q' with q' | q'
    · have := hoff a q'; rw [of_hideAll _ e] at this; cases this
    · rw [hideAll_none _ q'] at e; cases e
  have hm : bindL env.kindOf (names.zip ws) (fun _ => none) = fun y => (names.zip ws).reverse.lookup y := by
    rw [bindL_all _ _ fun p hp => by
      show env.scope.names.lookup p.1 = _
      rw [henv]; exact hloc p.1 (List.of_mem_zip hp).1]
    funext y; simp
  have hns : s₁.heap.Ns env.locals (fun y => (names.zip ws).reverse.lookup y) := by rw [← hm]; exact X.toInCall.ns
  have x : St c (names.zip (as'.map Slot.val)) s₁ := by
    refine ⟨by show J _ _; rw [hgens, hos]; exact j2, hkeep, ⟨_, hns⟩, fun y a _ e => ⟨_, X.cell y a e⟩, fun y sl e => ?_, fun y z xs ys a e => ?_, fun a ha => ?_⟩
    · obtain ⟨u, v', e1, e2, e3, e4⟩ := zip_lookup rv2 hn e
      subst e1
      exact ⟨u, .inl ⟨by show env.scope.names.lookup y = _; rw [henv]; exact hloc y e4, _, hns, e2⟩, RV.mono hvis e3⟩
    · obtain ⟨u, v', e1, _⟩ := zip_lookup rv2 hn e
      cases e1
    · rcases List.mem_append.mp ha with ha | ha
      · rcases List.mem_cons.mp ha with e | ha
        · obtain ⟨o, _, _, e', _⟩ := hns
          exact ⟨o, e ▸ e'⟩
        · obtain ⟨p, hp, e⟩ := List.mem_filterMap.mp ha
          obtain ⟨o, e, _⟩ := X.cell _ _ e
          exact ⟨o, e⟩
      · obtain ⟨o, e⟩ := low2 a ha
        exact ⟨o, hkeep _ _ e⟩
  have hb₀ : C.Base (c.vis c.h₀) := b2.keeps fun a o e => hideAll_get _ (of_hideAll _ e) fun q' => by
    rcases List.mem_append.mp q' with q' | q'
    · have := hoff a q'; rw [of_hideAll _ e] at this; cases this
    · rw [hideAll_none _ q'] at e; cases e
  refine h c (A.deeper env) s₁ _ _ rfl ⟨ok, rfl⟩ hb₀ cn.deeper x fun mu' s' u hmu hk' j' r' => ?_
  exact q u s' (hle2.trans hk') j' (RV.mono (hide_more fun a ha => (hmu a (List.mem_append_right _ ha)).resolve_left fun q' => by obtain ⟨o, e⟩ := low2 a ha; rw [hoff a q'] at e; cases e) r')
end Mine

end
section
open PySem PySem.W PySem.Spec PySem.Calls PyProof.Rows
open PySem.Builtin PySem.Builtin.Str
set_option Elab.async false
set_option maxRecDepth 100000
namespace Mine
section
variable {C : Cfg} {d : Nat} {J : Js} {T : Scope} {ρ : Rho}

theorem looks_fn {M : Model} {h : Heap} {f : Addr} {r : FnRec} (x : IsFn h f r) : Looks M h (keeperOf (.ref f)) .frame := by
  obtain ⟨o, doc, pm, an, cdv, ct, ho, hd, _⟩ := x
  refine fun A Q E s k q => ?_
  unfold keeperOf
  refine wpAny_bind (wpAny_load (k _ _ ho) ?_)
  rw [hd]
  exact wpAny_pure q

theorem ev_callStar {p sp pos : Pos} {y : Str} {e₁ e₂ : Expr} {f : Addr} {r : FnRec} {v₁ : V} {xs : List V} {v : V} (hf : Ev C d J T ρ (.Name y p) (.const (.ref f))) (hr : C.fn f = some r) (h₁ : Ev C d J T ρ e₁ v₁) (h₂ : Ev C d J T ρ e₂ (.list xs)) (hn : xs.length ≤ sizeLine) (h : Fn C d J f (v₁ :: xs) v)
    (he : ∀ env, starEach [e₁, .Starred e₂ sp] env = (false, eval e₁ env) :: [(true, eval e₂ env)] := by intro _; with_unfolding_all rfl) : Ev C d J T ρ (.Call (.Name y p) [e₁, .Starred e₂ sp] [] pos) v :=
  fun c A s Q E hJ k bs cn x q => by
    refine wpAny_Call_Name_kw (wpAny_mono (hf.use hJ k bs cn x) (fun u s₁ ⟨x₁, p₁, r₁⟩ => ?_) fun _ _ e => e)
    have r₁ : u = .ref f := r₁
    subst r₁
    rw [he]
    show wpAny _ _ (callWith pos (.ref f) [] [(false, eval e₁ c.env), (true, (do let v ← eval e₂ c.env; standAt pos; pure v))] []) _ _ _
    refine ks_call (P := fun h => IsFn h f r) rfl (fun h x => ⟨_, .inl rfl, looks_fn x⟩) (evalArgs_plain (spliced_cons ?_))
    refine wpAny_mono (h₁.use hJ k bs cn x₁) (fun u₁ s₂ ⟨x₂, p₂, r₂⟩ => ?_) fun _ _ e => e
    refine ks_spliced (wpAny_mono (h₂.use hJ k bs cn x₂) (fun u₂ s₃ ⟨x₃, p₃, r₃⟩ => ?_) fun _ _ e => e)
    obtain ⟨a, us, rfl, pl, rs⟩ := r₃
    have il := isList_of pl
    have hl := rs.len
    have hT : s₃.TypeIs (.ref a) "list" := il.typeIs
    obtain ⟨o, ho, hc, n, hd⟩ := il
    unfold StarOf notIterableAtAll
    refine wpAny_bind (wpAny_specialOf hT PySem.F.slot_list_iter.lookup (wpAny_pure ⟨rfl, ?_⟩))
    refine wpAny_collect_seq a (.inl rfl) ho hc hd (fun h' hk => ?_) (by simpa [hl] using hn)
    have x₄ : St c ρ { s₃ with heap := h' } := x₃.grow (t := s₃.toks) hk
    refine spliced_nil ⟨(bs.now x₄.keep).fns f r hr, ?_⟩
    subst hJ
    have hr4 : RVs (c.vis h') (v₁ :: xs) (u₁ :: us) := ⟨u₁, us, rfl, RV.mono (vis_keeps hk) (RV.mono p₃.vis r₂), RVs.mono (vis_keeps hk) rs⟩
    simp only [List.nil_append, List.append_nil]
    exact h c.mu A _ _ Q E (bs.keeps (vis_keeps x₄.keep)) x₄.j x₄.low cn hr4 fun u s' hle j rv => q u s' (((p₁.trans p₂).trans p₃).trans ⟨fun b o e => hle b o (hk b o e), j⟩) rv

/-- a text that a name holds grows -/
theorem st_iaddS {y : Str} {p pos : Pos} {e : Expr} {a b : List Nat} {ρ' : Rho} (hy : At ρ y (.val (.str a))) (h : Ev C d J T ρ e (.str b)) (hp : Put ρ y (.val (.str (a ++ b))) ρ') (hl : T.names.lookup y = some .local ∨ T.names.lookup y = some .cell) (hna : NoApp ρ y)
    (hs : a.length + b.length ≤ sizeLine) (hd : (y == ("__classdict__" : Str)) = false) : Ex1 C d J T ρ (.AugAssign (.Name y p) .Add e pos) (.next ρ') :=
  fun c A s Q E hJ kk bs cn x f => wpAny_AugAssign_Name (by
    obtain ⟨u, n, t, rfl⟩ := x.vars y _ hy.eq
    refine load_nm kk.1 n ?_ hd
    refine wpAny_mono (h.use hJ kk.1 bs cn x) (fun w s₁ ⟨x₁, p₁, t', e⟩ => ?_) fun _ _ e => e
    subst e
    refine PyProof.Rows.iadd_str (fun t'' tk => ?_) (by rw [S_len, S_len]; exact hs)
    rw [S_add]
    exact st_storeV kk.1 (x₁.tok tk) (fun _ => kk.2) hl hna.eq (v := .str (a ++ b)) ⟨t'', rfl⟩ fun _ _ x'' _ => f c _ (Grow.refl kk.1) (hp.eq ▸ x''))
end
end Mine

end
section
open PySem PySem.W PySem.Spec PySem.Calls PyProof.Rows
open PySem.Builtin PySem.Builtin.Str
open Mine
local macro_rules | `(tactic| walk_at "m:at") => `(tactic| (first | (with_reducible exact At.here) | ((with_reducible refine At.hereE ?_); rfl) | ((with_reducible refine' At.there ?h1 (by decide +kernel)); (case h1 => walk_at "m:at"))))
local macro_rules | `(tactic| walk_at "m:put") => `(tactic| (first | (with_reducible exact Put.here) | (with_reducible exact Put.new) | ((with_reducible refine' Put.there ?h1 (by decide +kernel)); (case h1 => walk_at "m:put"))))
local macro_rules | `(tactic| walk_at "m:noapp") => `(tactic| (repeat (first | (with_reducible exact NoApp.nil) | (with_reducible refine NoApp.val ?_) | (with_reducible refine NoApp.mu ?_) | (with_reducible refine NoApp.rd ?_) | (with_reducible refine NoApp.app ?_ (by decide +kernel)))))
local macro_rules | `(tactic| walk_at "m:sub") => `(tactic| (first | (with_reducible exact Sub.nil) | ((with_reducible refine' Sub.cons ?h1 ?h2); (case h1 => walk_at "m:at"); (case h2 => walk_at "m:sub"))))
local macro_rules | `(tactic| walk_at "m:bin") => `(tactic| (first | (with_reducible first | exact bin_add | exact bin_sub | exact bin_subB | exact bin_and | exact bin_or | exact bin_xor) | ((with_reducible refine' bin_addS ?h1); (case h1 => walk_at "m:size")) | ((with_reducible refine' bin_addL ?h1); (case h1 => walk_at "m:size")) | ((with_reducible refine' bin_mod ?h1); (case h1 => first | decide | omega)) | ((with_reducible refine' bin_shr ?h1); (case h1 => omega)) | ((with_reducible refine' bin_pow ?h1 ?h2); (case h1 => omega); (case h2 => first | exact pow_bits (by omega)))))
local macro_rules | `(tactic| walk_at "m:cmp") => `(tactic| (first | (with_reducible first | exact cmp_eqI | exact cmp_neI | exact cmp_ltI | exact cmp_gtI | exact cmp_geI | exact cmp_eqS | exact cmp_neS | exact cmp_ltS | exact cmp_gtS | exact cmp_neB) | ((with_reducible refine' cmp_isN ?h1); (case h1 => intro _ q; cases q)) | ((with_reducible refine' cmp_isNotN ?h1); (case h1 => intro _ q; cases q))))
local macro_rules | `(tactic| walk_at "m:size") => `(tactic| (first | (with_reducible assumption) | (simp only [List.length_append, List.length_cons, List.length_nil, List.length_map, sizeLine_eq] at *; omega) | (split <;> simp only [List.length_append, List.length_cons, List.length_nil, List.length_map, sizeLine_eq] at * <;> omega)))
local macro_rules | `(tactic| walk_at "m:tru") => `(tactic| (first | (with_reducible exact tru_bool) | ((with_reducible refine tru_str ?_); walk_at "m:size") | ((with_reducible refine tru_list ?_); walk_at "m:size")))
local macro_rules | `(tactic| walk_at "m:loc") => `(tactic| (first | exact .inl (by decide +kernel) | exact .inr (by decide +kernel)))
local macro_rules | `(tactic| walk_at "m:item") => `(tactic| (first | exact .inl ⟨by omega, by omega⟩ | exact .inr ⟨by omega, by omega, by omega⟩ | (unfold at?; simp only [List.length_map]; omega)))
local macro_rules | `(tactic| walk_at "m:evp") => `(tactic| (first | (with_reducible exact evp_none) | ((with_reducible refine' evp_some ?h1); (case h1 => walk_at "m:ev"))))
local macro_rules | `(tactic| walk_at "m:eva") => `(tactic| (first | (with_reducible exact eva_nil) | ((with_reducible refine' eva_cons ?h1 ?h2); (case h1 => walk_at "m:ev"); (case h2 => walk_at "m:eva"))))
local macro_rules | `(tactic| walk_at "m:blt") => `(tactic| (with_reducible refine' ev_bl (by decide +kernel) ?h1 (by decide +kernel); (case h1 => assumption)))
local macro_rules | `(tactic| walk_at "m:glob") => `(tactic| (with_reducible refine' ev_glob (by decide +kernel) ?h1 (by decide +kernel); (case h1 => assumption)))
local macro_rules | `(tactic| walk_at "m:call") => `(tactic| (first
  | ((with_reducible refine' run_callB ?h1 ?h2 ?h3); (case h1 => walk_at "m:blt"); (case h2 => walk_at "m:eva"); (case h3 => first | (with_reducible first | exact op_sum | exact op_isiS | exact op_isiB | exact op_issub) | ((with_reducible refine op_lenS ?_); walk_at "m:size") | ((with_reducible refine op_lenL ?_); walk_at "m:size")))
  | ((with_reducible refine' run_callT ?h1 ?h2 ?h3); (case h1 => walk_at "m:blt"); (case h2 => walk_at "m:eva"); (case h3 => with_reducible first | exact op_range1 | exact op_range2 | exact op_typeS))))
local macro_rules | `(tactic| walk_at "m:meth") => `(tactic| (first
  | ((with_reducible refine' run_meth ?h1 ?h2 PySem.F.slot_str_find PySem.F.type_str_find ?h3); (case h1 => walk_at "m:ev"); (case h2 => walk_at "m:eva"); (case h3 => with_reducible exact op_find3))
  | ((with_reducible refine' run_meth ?h1 ?h2 PySem.F.slot_str_startswith PySem.F.type_str_startswith ?h3); (case h1 => walk_at "m:ev"); (case h2 => walk_at "m:eva"); (case h3 => with_reducible exact op_startsw))
  | ((with_reducible refine' run_meth ?h1 ?h2 PySem.F.slot_str_endswith PySem.F.type_str_endswith ?h3); (case h1 => walk_at "m:ev"); (case h2 => walk_at "m:eva"); (case h3 => with_reducible exact op_endsw))))
local macro_rules | `(tactic| walk_at "m:fn") => `(tactic| (refine' ev_call ?h1 ?h2 ?h3 ?h4; (case h1 => walk_at "m:glob"); (case h2 => assumption); (case h3 => walk_at "m:eva"); (case h4 => first | assumption)))
local macro_rules | `(tactic| walk_at "m:ev") => `(tactic| (first
  | (with_reducible exact ev_int) | (with_reducible first | exact ev_strE cs_nil | exact ev_strE cs_slash | exact ev_strE cs_star | exact ev_strE cs_quest | exact ev_strE cs_open | exact ev_strE cs_dot | exact ev_strE cs_figs | exact ev_strE cs_rest) | (with_reducible exact ev_none) | (with_reducible exact ev_bool)
  | ((with_reducible refine' ev_loc ?h1 (by decide +kernel)); (case h1 => walk_at "m:at"))
  | (walk_at "m:glob")
  | (walk_at "m:blt")
  | ((with_reducible refine' ev_bin ?h1 ?h2 ?h3); (case h1 => walk_at "m:ev"); (case h2 => walk_at "m:ev"); (case h3 => walk_at "m:bin"))
  | ((with_reducible refine' ev_cmp ?h1 ?h2 ?h3); (case h1 => walk_at "m:ev"); (case h2 => walk_at "m:ev"); (case h3 => walk_at "m:cmp"))
  | ((with_reducible refine' ev_neg ?h1); (case h1 => walk_at "m:ev"))
  | (walk_at "m:call")
  | (walk_at "m:meth")
  | ((with_reducible refine' ev_iteS ?h1 ?h2 ?h3); (case h1 => walk_at "m:tst"); (case h2 => walk_at "m:ev"); (case h3 => walk_at "m:ev"))
  | ((with_reducible refine' ev_itemS _ ?h1 ?h2 ?h3 ?h4 ?h5); (case h1 => walk_at "m:ev"); (case h2 => walk_at "m:ev"); (case h4 => assumption); (case h3 => exact ⟨by omega, by omega⟩); (case h5 => walk_at "m:size"))
  | ((with_reducible refine' ev_itemL _ ?h1 ?h2 ?h3 ?h4 ?h5); (case h1 => walk_at "m:ev"); (case h2 => walk_at "m:ev"); (case h4 => assumption); (case h3 => walk_at "m:item"); (case h5 => walk_at "m:size"))
  | ((with_reducible refine' ev_sliceS ?h1 ?h2 ?h3 ?h4); (case h1 => walk_at "m:ev"); (case h2 => walk_at "m:evp"); (case h3 => walk_at "m:evp"); (case h4 => walk_at "m:size"))
  | ((with_reducible refine' ev_sliceL ?h1 ?h2 ?h3 ?h4 ?h6 ?h5); (case h1 => walk_at "m:ev"); (case h2 => walk_at "m:evp"); (case h3 => walk_at "m:evp"); (case h4 => walk_at "m:evp"); (case h5 => walk_at "m:size"); (case h6 => decide))
  | ((with_reducible refine' ev_list ?h1 ?h2); (case h1 => walk_at "m:eva"); (case h2 => walk_at "m:size"))
  | ((with_reducible refine' ev_tup ?h1 ?h2); (case h1 => walk_at "m:eva"); (case h2 => walk_at "m:size"))))
local macro_rules | `(tactic| walk_at "m:tst") => `(tactic| (first
  | ((with_reducible refine' tst_cmp ?h1 ?h2 ?h3); (case h1 => walk_at "m:ev"); (case h2 => walk_at "m:ev"); (case h3 => walk_at "m:cmp"))
  | ((with_reducible refine' tst_not ?h1); (case h1 => walk_at "m:tst"))
  | ((with_reducible refine' tst_or ?h1 (fun _ => ?h2)); (case h1 => walk_at "m:tst"); (case h2 => walk_at "m:tst"))
  | ((with_reducible refine' tst_and ?h1 (fun _ => ?h2)); (case h1 => walk_at "m:tst"); (case h2 => walk_at "m:tst"))
  | ((with_reducible refine' tst_val ?h1 ?h2); (case h1 => walk_at "m:ev"); (case h2 => walk_at "m:tru"))))
local macro_rules | `(tactic| walk_at "m:set") => `(tactic| (refine' ex_cons (st_set ?h1 ?h2 ?h3 ?h4) ?h5; (case h1 => walk_at "m:ev"); (case h2 => walk_at "m:put"); (case h3 => walk_at "m:loc"); (case h4 => walk_at "m:noapp")))
local macro_rules | `(tactic| walk_at "m:ret") => `(tactic| (refine' ex_ret (st_return ?h1); (case h1 => walk_at "m:ev")))
local macro_rules | `(tactic| walk_at "m:setE") => `(tactic| (refine' ex_cons (st_set (Ev.cast ?h1 ?h6) ?h2 ?h3 ?h4) ?h5; (case h1 => walk_at "m:ev"); (case h2 => walk_at "m:put"); (case h3 => walk_at "m:loc"); (case h4 => walk_at "m:noapp")))
local macro_rules | `(tactic| walk_at "m:end") => `(tactic| ((with_reducible refine Ex.end ?_); walk_at "m:sub"))
local macro_rules | `(tactic| walk_at "m:compr") => `(tactic| (first | (with_reducible exact CompR.nil) | ((with_reducible refine' CompR.val ?h1 ?h2 ?h3); (case h1 => walk_at "m:at"); (case h2 => decide +kernel); (case h3 => walk_at "m:compr")) | ((with_reducible refine' CompR.mu ?h1 ?h2 ?h3); (case h1 => walk_at "m:at"); (case h2 => decide +kernel); (case h3 => walk_at "m:compr"))))
local macro_rules | `(tactic| walk_at "m:iadd") => `(tactic| (refine' ex_cons (st_iaddS ?h1 ?h2 ?h3 ?h4 ?h5 ?h6 (by decide +kernel)) ?h7; (case h1 => walk_at "m:at"); (case h2 => walk_at "m:ev"); (case h3 => walk_at "m:put"); (case h4 => walk_at "m:loc"); (case h5 => walk_at "m:noapp"); (case h6 => walk_at "m:size")))


section
set_option Elab.async false
set_option maxRecDepth 100000

namespace Mine
theorem strcoll_body {C : Cfg} {d : Nat} {J : Js} {a b : List Nat} : Ex C d J (rec 3).scope [("a", .val (.str a)), ("b", .val (.str b))] (rec 3).body (.ret (.int (b2i (decide (b < a)) - b2i (decide (a < b))))) := by
  refine ex_ret (st_return ?_)
  walk_at "m:ev"

noncomputable def spellTo (l : List Nat) (b : Nat) (m : List Nat) : Nat → List Nat
  | 0 => [47]
  | i + 1 => spellTo l b m i ++ [l.getD i 0] ++ (if 0 < l.length - 1 - i then (if b.testBit (l.length - 1 - i) then [47] else m) else [])
theorem spellTo_len (l : List Nat) (b : Nat) (m : List Nat) (hm : m.length ≤ 1) : ∀ i, (spellTo l b m i).length ≤ 1 + 2 * i
  | 0 => by simp [spellTo]
  | i + 1 => by
    have := spellTo_len l b m hm i
    unfold spellTo
    simp only [List.length_append, List.length_cons, List.length_nil]
    split
    · split
      · simp; omega
      · omega
    · simp; omega
theorem bitTest (b : Nat) (g : Int) (hg : 0 ≤ g) : (((b : Int).fdiv (2 ^ g.toNat)).fmod 2 == 1) = b.testBit g.toNat := by
  have h1 : ((b : Int).fdiv (2 ^ g.toNat)).fmod 2 = ((b / 2 ^ g.toNat % 2 : Nat) : Int) := by
    rw [Int.fdiv_eq_ediv_of_nonneg _ (Int.le_of_lt (Int.pow_pos (by decide))), Int.fmod_eq_emod_of_nonneg _ (by decide)]
    norm_cast
  rw [h1, Nat.testBit_eq_decide_div_mod_eq]
  have : b / 2 ^ g.toNat % 2 < 2 := Nat.mod_lt _ (by decide)
  have h3 : ∀ k : Nat, (((k : Nat) : Int) == 1) = decide (k = 1) := fun k => by
    by_cases h : k = 1
    · subst h; rfl
    · rw [decide_eq_false h]; simp; omega
  exact h3 _

theorem spelled_body {C : Cfg} {d : Nat} {J : Js} {l m : List Nat} {b : Nat} (hl : l.length ≤ 6) (hm : m.length ≤ 1) (hlen : Blt C "len" (.builtin "len")) (hrange : Blt C "range" (.type "range")) :
    Ex C d J (rec 30).scope [("figures", .val (.str l)), ("bits", .val (.int b)), ("between", .val (.str m))] (rec 30).body (.ret (.str (spellTo l b m l.length))) := by
  walk_at "m:set"
  refine ex_cons (st_forA (n := l.length) (vs := fun i => .int (0 + i)) (fun i => [("figures", .val (.str l)), ("bits", .val (.int b)), ("between", .val (.str m)), ("text", .val (.str (spellTo l b m i)))]) ?_ ?_ ?_ ?_ ?_) ?_
  · refine src_range (a := 0) (b := l.length) ?_ (by omega) ?_
    · refine' run_callT ?h1 ?h2 ?h3
      case h1 => walk_at "m:blt"
      case h2 => walk_at "m:eva"
      case h3 => exact op_range1
    · exact small_ok (by omega) (by omega) (by omega) (by omega)
  · show Sub _ [("figures", .val (.str l)), ("bits", .val (.int b)), ("between", .val (.str m)), ("text", .val (.str [47]))]
    walk_at "m:sub"
  · walk_at "m:loc"
  · intro i hi
    walk_at "m:noapp"
  · intro i hi
    have hs := spellTo_len l b m hm i
    rw [Put.eq (by walk_at "m:put")]
    obtain ⟨x, hx⟩ : ∃ x, l[i]? = some x := ⟨l[i], by simp [hi]⟩
    walk_at "m:set"
    walk_at "m:set"
    have e0 : (l.length : Int) - 1 - (0 + (i : Int)) = ((l.length - 1 - i : Nat) : Int) := by omega
    have ht : ∀ y, y = spellTo l b m i ++ [x] ++ (if 0 < l.length - 1 - i then (if b.testBit (l.length - 1 - i) then [47] else m) else []) → y = spellTo l b m (i + 1) := fun y e => by
      rw [e, spellTo, List.getD, hx]; rfl
    rw [e0]
    generalize hg : l.length - 1 - i = g at *
    refine' ex_cons (st_if (o := .next [("figures", .val (.str l)), ("bits", .val (.int b)), ("between", .val (.str m)), ("text", .val (.str (spellTo l b m (i + 1)))), ("place", .val (.int (0 + i))), ("gap", .val (.int g))]) ?h1 ?h2 ?h3) ?h4
    case h1 => walk_at "m:tst"
    case h2 =>
      intro hr
      walk_at "m:set"
      rw [bitTest b g (by omega), ht (spellTo l b m i ++ [x] ++ _) (by rw [if_pos (show 0 < g by simpa using hr)]; rfl)]
      exact ex_nil
    case h3 =>
      intro hr
      rw [← ht (spellTo l b m i ++ [x]) (by rw [if_neg (by simpa using hr)]; simp)]
      exact ex_nil
    case h4 => walk_at "m:end"
  · walk_at "m:ret"
end Mine

end
section
set_option Elab.async false
set_option maxRecDepth 100000

namespace Mine
noncomputable def gapsOf (last total n : Nat) : List Nat := ((List.range (n - (total + 1))).filter (fun i => (i + 1) % last == 0)).map (fun i => 2 ^ (total + 1 + i))
noncomputable def bitsFrom (n : Nat) : List Nat → Nat → Nat → Nat → Nat
  | [], bits, _, _ => bits
  | e :: r, bits, total, last => if e = 127 then bits else if e = 0 then bits + (gapsOf last total n).sum else bitsFrom n r (if total + e < n then bits + 2 ^ (total + e) else bits) (total + e) e

noncomputable def bitsR (row : V) (n bits total last : Nat) : Rho := [("row", .val row), ("count", .val (.int n)), ("bits", .val (.int bits)), ("total", .val (.int total)), ("last", .val (.int last))]
noncomputable def compOf : Stmt → Expr
  | .Return (some (.BinOp _ _ (.Call _ (e :: _) _ _) _)) _ => e
  | _ => .Constant .none 0 ⟨0, 0, 0, 0⟩
theorem fmodEq (a l : Nat) (x : Int) (hx : x = a) : (x.fmod l == 0) = (a % l == 0) := by
  subst hx
  rw [Int.fmod_eq_emod_of_nonneg _ (by omega)]
  by_cases h : a % l = 0
  · rw [h, show ((a : Int) % (l : Int)) = ((a % l : Nat) : Int) by norm_cast, h]; rfl
  · rw [beq_eq_false_iff_ne.mpr h, beq_eq_false_iff_ne.mpr]
    intro q
    exact h (by omega)
theorem pow_cast (u : Nat) : ((2 ^ u : Nat) : Int) = 2 ^ u := Int.natCast_pow 2 u
theorem sum_cast (l : List Nat) : (l.map fun x : Nat => (x : Int)).sum = (l.sum : Nat) := by
  induction l with
  | nil => rfl
  | cons a r ih => simp only [List.map_cons, List.sum_cons, ih]; norm_cast
theorem bits_loop {C : Cfg} {d : Nat} {J : Js} {rv : V} {n : Nat} (hn : n ≤ 6) (hrange : Blt C "range" (.type "range")) (hsum : Blt C "sum" (.builtin "sum")) :
    ∀ (row : List Nat) (bits total last : Nat), total + 200 * row.length ≤ 10000 → (∀ e ∈ row, e ≤ 127) → (last = 0 → row.head? ≠ some 0) →
      ∃ b t l, Loop C d J (rec 29).scope (bodyOf (nth (rec 29).body 3)) "entry" (bitsR rv n bits total last) (row.map fun x : Nat => V.int x) (.next (bitsR rv n b t l)) ∧ b = bitsFrom n row bits total last ∨
      Loop C d J (rec 29).scope (bodyOf (nth (rec 29).body 3)) "entry" (bitsR rv n bits total last) (row.map fun x : Nat => V.int x) (.ret (.int (bitsFrom n row bits total last)))
  | [], bits, total, last, _, _, _ => ⟨bits, total, last, .inl ⟨.done (by unfold bitsR; walk_at "m:noapp"), rfl⟩⟩
  | e :: r, bits, total, last, hT, hle, hz => by
    have he : e ≤ 127 := hle e List.mem_cons_self
    have na : NoApp (bitsR rv n bits total last) "entry" := by unfold bitsR; walk_at "m:noapp"
    have hlen : total + 200 * (r.length + 1) ≤ 10000 := hT
    by_cases h1 : e = 127
    · refine ⟨0, 0, 0, .inr (.ret na ?_)⟩
      unfold bitsR
      rw [Put.eq (by walk_at "m:put")]
      refine ex_ret (st_if (r := true) (Tst.cast (by walk_at "m:tst") (by simp [h1])) (fun _ => ?_) fun e => absurd e (by decide))
      refine ex_ret (st_return (Ev.cast (by walk_at "m:ev") (by unfold bitsFrom; rw [if_pos h1])))
    · have e127 : ((e : Int) == 127) = false := by simp; omega
      by_cases h0 : e = 0
      · have hl : last ≠ 0 := fun q => hz q (by simp [h0])
        refine ⟨0, 0, 0, .inr (.ret na ?_)⟩
        unfold bitsR
        rw [Put.eq (by walk_at "m:put")]
        refine ex_cons (st_if (r := false) (Tst.cast (by walk_at "m:tst") e127) (fun e => absurd e (by decide)) fun _ => ex_nil) ?_
        refine ex_ret (st_if (r := true) (Tst.cast (by walk_at "m:tst") (by simp [h0])) (fun _ => ?_) fun e => absurd e (by decide))
        have hcomp : Ev C d J (rec 29).scope [("row", .val rv), ("count", .val (.int n)), ("bits", .val (.int bits)), ("total", .val (.int total)), ("last", .val (.int last)), ("entry", .val (.int e))]
            (compOf (nth (bodyOf (nth (bodyOf (nth (rec 29).body 3)) 1)) 0)) (.list ((gapsOf last total n).map fun x : Nat => V.int x)) := by
          refine Ev.cast (ev_compF [("total", .val (.int total)), ("last", .val (.int last))] (fun i => (i + 1) % last == 0) (fun i => .int (2 ^ (total + 1 + i) : Nat)) (by decide +kernel)
            (src_range (a := total + 1) (b := n) (n := n - (total + 1)) (by walk_at "m:call") (by omega) (small_ok (by omega) (by omega) (by omega) (by omega))) (by rw [sizeLine_eq]; omega) (by walk_at "m:compr") (by walk_at "m:noapp") ?_ ?_) ?_
          · intro i hi
            rw [Put.eq (by walk_at "m:put")]
            refine tss_one (Tst.cast (by walk_at "m:tst") ?_)
            exact fmodEq _ _ _ (by omega)
          · intro i hi hb
            rw [Put.eq (by walk_at "m:put")]
            have hp : ((total : Int) + 1 + i).toNat ≤ 1000 := by omega
            refine Ev.cast (ev_bin (by walk_at "m:ev") (by walk_at "m:ev") (bin_pow (by omega) (by rw [show (total : Int) + 1 + i = ((total + 1 + i : Nat) : Int) by omega]; exact pow_bits (by omega)))) ?_
            rw [show ((total : Int) + 1 + i).toNat = total + 1 + i by omega, pow_cast]
          · unfold gapsOf
            rw [List.map_map]; rfl
        refine ex_ret (st_return (Ev.cast (v := .int (bits + ((gapsOf last total n).map fun x : Nat => (x : Int)).sum)) ?_ ?_))
        · with_reducible refine' ev_bin ?h1 ?h2 ?h3
          case h1 => walk_at "m:ev"
          case h2 =>
            with_reducible refine' run_callB ?k1 ?k2 ?k3
            case k1 => walk_at "m:blt"
            case k2 =>
              with_reducible refine' eva_cons ?g1 ?g2
              case g1 => exact hcomp
              case g2 => with_reducible exact eva_nil
            case k3 =>
              rw [show ((gapsOf last total n).map fun x : Nat => V.int x) = ((gapsOf last total n).map fun x : Nat => (x : Int)).map V.int by rw [List.map_map]; rfl]
              with_reducible exact op_sum
          case h3 => walk_at "m:bin"
        unfold bitsFrom
        rw [if_neg h1, if_pos h0, sum_cast, Int.natCast_add]
      · have e0 : ((e : Int) == 0) = false := by simp; omega
        have ih := bits_loop (C := C) (d := d) (J := J) (rv := rv) hn hrange hsum r (if total + e < n then bits + 2 ^ (total + e) else bits) (total + e) e (by omega) (fun x hx => hle x (List.mem_cons_of_mem _ hx)) (fun q => absurd q h0)
        have hb : Ex C d J (rec 29).scope (put (bitsR rv n bits total last) "entry" (.val (.int e))) (bodyOf (nth (rec 29).body 3)) (.next (bitsR rv n (if total + e < n then bits + 2 ^ (total + e) else bits) (total + e) e)) := by
          unfold bitsR
          rw [Put.eq (by walk_at "m:put")]
          refine ex_cons (st_if (r := false) (Tst.cast (by walk_at "m:tst") e127) (fun e => absurd e (by decide)) fun _ => ex_nil) ?_
          refine ex_cons (st_if (r := false) (Tst.cast (by walk_at "m:tst") e0) (fun e => absurd e (by decide)) fun _ => ex_nil) ?_
          walk_at "m:set"
          walk_at "m:set"
          rw [show (total : Int) + e = ((total + e : Nat) : Int) by omega]
          generalize total + e = u at *
          refine ex_cons (st_if (o := .next [("row", .val rv), ("count", .val (.int n)), ("bits", .val (.int (if u < n then bits + 2 ^ u else bits : Nat))), ("total", .val (.int u)), ("last", .val (.int e)), ("entry", .val (.int e))]) (r := decide (u < n)) (Tst.cast (by walk_at "m:tst") (by simp)) ?_ ?_) ?_
          · intro hr
            have hr : u < n := by simpa using hr
            refine ex_cons (st_set (v := .int (bits + 2 ^ u : Nat)) (Ev.cast (ev_bin (by walk_at "m:ev") (ev_bin (by walk_at "m:ev") (by walk_at "m:ev") (bin_pow (by omega) (pow_bits (by omega)))) (by walk_at "m:bin")) ?_) (by walk_at "m:put") (by walk_at "m:loc") (by walk_at "m:noapp")) ?_
            · rw [Int.toNat_natCast, Int.natCast_add, pow_cast]
            · rw [if_pos hr]; exact ex_nil
          · intro hr
            rw [if_neg (by simpa using hr)]; exact ex_nil
          · walk_at "m:end"
        have e5 : bitsFrom n (e :: r) bits total last = bitsFrom n r (if total + e < n then bits + 2 ^ (total + e) else bits) (total + e) e := by
          conv => lhs; unfold bitsFrom
          rw [if_neg h1, if_neg h0]
        rw [e5]
        obtain ⟨b, t, l, ⟨q, q2⟩ | q⟩ := ih
        · exact ⟨b, t, l, .inl ⟨.step na hb q, q2⟩⟩
        · exact ⟨b, t, l, .inr (.step na hb q)⟩
theorem bits_body {C : Cfg} {d : Nat} {J : Js} {n : Nat} {row : List Nat} (hn : n ≤ 6) (hl : row.length ≤ 40) (hle : ∀ e ∈ row, e ≤ 127) (hz : row.head? ≠ some 0) (hrange : Blt C "range" (.type "range")) (hsum : Blt C "sum" (.builtin "sum")) :
    Ex C d J (rec 29).scope [("row", .val (.list (row.map fun x : Nat => V.int x))), ("count", .val (.int n))] (rec 29).body (.ret (.int (bitsFrom n row 0 0 0))) := by
  walk_at "m:set"
  walk_at "m:set"
  walk_at "m:set"
  obtain ⟨b, t, l, ⟨q, q2⟩ | q⟩ := bits_loop (C := C) (d := d) (J := J) (rv := .list (row.map fun x : Nat => V.int x)) hn hrange hsum row 0 0 0 (by omega) hle (fun _ => hz)
  · refine ex_cons (st_loop (src_list ?_) ?_ (by walk_at "m:loc") q) ?_
    · unfold bitsR; walk_at "m:ev"
    · unfold bitsR; walk_at "m:sub"
    · rw [← q2]; unfold bitsR; walk_at "m:ret"
  · refine ex_ret (st_loop (src_list ?_) ?_ (by walk_at "m:loc") q)
    · unfold bitsR; walk_at "m:ev"
    · unfold bitsR; walk_at "m:sub"
end Mine

end
section
set_option Elab.async false
set_option maxRecDepth 100000

namespace Mine
/-- a def of the module, with its contract -/
structure Def (C : Cfg) (n : Nat) (y : Str) (f : Addr) : Prop where
  g : C.mg y = some (.ref f)
  r : C.fn f = some (Mine.rec n)
theorem Good.def {C : Cfg} (h : Good C) (n : Nat) (y : Str) (e : (Mine.rec n).name = y) (e2 : y ≠ "") : ∃ f, Def C n y f := let ⟨a, e1, e2⟩ := h.fn n y e e2; ⟨a, e1, e2⟩
theorem len1 {us : List Value} (h : us.length = 1) : ∃ a, us = [a] := by
  match us, h with
  | [a], _ => exact ⟨a, rfl⟩
theorem len2 {us : List Value} (h : us.length = 2) : ∃ a b, us = [a, b] := by
  match us, h with
  | [a, b], _ => exact ⟨a, b, rfl⟩
theorem len3 {us : List Value} (h : us.length = 3) : ∃ a b c, us = [a, b, c] := by
  match us, h with
  | [a, b, c], _ => exact ⟨a, b, c, rfl⟩
theorem fn_spelled {C : Cfg} {d : Nat} {J : Js} {f : Addr} (hd : Def C 30 "_law_spelled" f) {l m : List Nat} {b : Nat} (hl : l.length ≤ 6) (hm : m.length ≤ 1) (hlen : Blt C "len" (.builtin "len")) (hrange : Blt C "range" (.type "range")) :
    Fn C (d + 1) J f [.str l, .int b, .str m] (.str (spellTo l b m l.length)) :=
  fn_of ["figures", "bits", "between"] hd.r (spelled_body hl hm hlen hrange) (fun us hu => by
    obtain ⟨u1, u2, u3, rfl⟩ := len3 hu
    intro doc pm an cdv ct; rfl) (by decide +kernel) (by decide +kernel) (by decide +kernel) (by decide +kernel) (by decide +kernel) (by decide +kernel)
end Mine

end
section
set_option Elab.async false
set_option maxRecDepth 100000

namespace Mine
theorem clip_nat (n k : Nat) : clipAt n (k : Int) = min k n := by
  unfold clipAt; simp only [show ¬ ((k : Int) < 0) by omega, if_false]; omega
theorem clip_neg (n k : Nat) (hk : 0 < k) : clipAt n (-(k : Int)) = n - k := by
  unfold clipAt; simp only [show (-(k : Int) < 0) by omega, if_true]; omega
theorem cut_to {α : Type} (k : Nat) (xs : List α) : cut none (some (k : Int)) xs = xs.take k := by
  unfold cut
  simp only [Option.elim, clip_nat, List.drop_zero, Nat.sub_zero]
  rw [Nat.min_comm, ← List.take_take, List.take_of_length_le (List.length_take_le' k xs)]
theorem not_not (a : Nat) : Builtin.bitNot (Builtin.bitNot (a : Int)) = a := by unfold Builtin.bitNot; omega
theorem bitAnd_nat (a b : Nat) : Builtin.bitAnd a b = ((a &&& b : Nat) : Int) := by
  unfold Builtin.bitAnd
  simp
theorem bitOr_nat (a b : Nat) : Builtin.bitOr a b = ((a ||| b : Nat) : Int) := by
  have h : ∀ a : Nat, decide (0 ≤ Builtin.bitNot (a : Int)) = false := fun a => by unfold Builtin.bitNot; simp; omega
  unfold Builtin.bitOr Builtin.bitAnd
  rw [h, h]
  simp only [not_not, Int.toNat_natCast]
theorem or_xor (a b : Nat) (ha : a < 64) (hb : b < 64) : (a ||| b) = (a ^^^ b) + (a &&& b) := by
  have h : ∀ a b : _root_.Fin 64, (a.val ||| b.val) = (a.val ^^^ b.val) + (a.val &&& b.val) := by decide +kernel
  exact h ⟨a, ha⟩ ⟨b, hb⟩
theorem bitXor_nat (a b : Nat) (ha : a < 64) (hb : b < 64) : Builtin.bitXor a b = ((a ^^^ b : Nat) : Int) := by
  unfold Builtin.bitXor
  rw [bitOr_nat, bitAnd_nat, or_xor a b ha hb]
  omega

noncomputable def unlikeOf (n0 : Nat) (ns : List Nat) (u : Nat) : Nat := ns.foldl (fun u x => u ||| (n0 ^^^ x)) u
noncomputable def sharedGo (l : List Nat) (n0 u : Nat) : List Nat → List Nat
  | [] => [47]
  | g :: r => if u < 2 ^ g ∧ n0.testBit g = true then spellTo (l.take (l.length - g)) (n0 / 2 ^ g) [] (l.length - g) else sharedGo l n0 u r
noncomputable def sharedOf (l : List Nat) (ns : List Nat) : List Nat :=
  if unlikeOf (ns.headD 0) ns 0 = 0 then spellTo l (ns.headD 0) [] l.length else sharedGo l (ns.headD 0) (unlikeOf (ns.headD 0) ns 0) ((List.range (l.length - 1)).map (1 + ·))

theorem unlike_loop {C : Cfg} {d : Nat} {J : Js} {lv : V} {n0 : Nat} {all : List Nat} (h0 : all[0]? = some n0) (h64 : n0 < 64) (hall : all.length ≤ 10) :
    ∀ (ns : List Nat) (u : Nat), (∀ x ∈ ns, x < 64) →
      Loop C d J (rec 31).scope (bodyOf (nth (rec 31).body 1)) "number" [("figures", .val lv), ("numbers", .val (.list (all.map fun x : Nat => V.int x))), ("unlike", .val (.int u))] (ns.map fun x : Nat => V.int x)
        (.next [("figures", .val lv), ("numbers", .val (.list (all.map fun x : Nat => V.int x))), ("unlike", .val (.int (unlikeOf n0 ns u)))])
  | [], u, _ => .done (by walk_at "m:noapp")
  | x :: r, u, hx => by
    have h1 : x < 64 := hx x List.mem_cons_self
    refine .step (by walk_at "m:noapp") ?_ (unlike_loop h0 h64 hall r (u ||| (n0 ^^^ x)) fun y hy => hx y (List.mem_cons_of_mem _ hy))
    rw [Put.eq (by walk_at "m:put")]
    have h2 : (all.map fun x : Nat => V.int x)[0]? = some (V.int n0) := by rw [List.getElem?_map, h0]; rfl
    refine ex_cons (st_set (v := .int (u ||| (n0 ^^^ x) : Nat)) (Ev.cast (v := .int (Builtin.bitOr u (Builtin.bitXor n0 x))) ?_ ?_) (by walk_at "m:put") (by walk_at "m:loc") (by walk_at "m:noapp")) ?_
    · with_reducible refine' ev_bin ?h1 ?h2 ?h3
      case h1 => walk_at "m:ev"
      case h3 => walk_at "m:bin"
      case h2 =>
        with_reducible refine' ev_bin ?k1 ?k2 ?k3
        case k1 => walk_at "m:ev"
        case k2 => walk_at "m:ev"
        case k3 => walk_at "m:bin"
    · rw [bitXor_nat _ _ h64 h1, bitOr_nat]
    · walk_at "m:end"
theorem shr_nat (a g : Nat) : (a : Int).fdiv (2 ^ ((g : Int)).toNat) = ((a / 2 ^ g : Nat) : Int) := by
  rw [Int.toNat_natCast, Int.fdiv_eq_ediv_of_nonneg _ (Int.le_of_lt (Int.pow_pos (by decide))), ← pow_cast]
  norm_cast
theorem gaps_loop {C : Cfg} {d : Nat} {J : Js} {f : Addr} (hd : Def C 30 "_law_spelled" f) {l : List Nat} {n0 u : Nat} {all : List Nat} (hl : l.length ≤ 6) (h0 : all[0]? = some n0) (hall : all.length ≤ 10) (hlen : Blt C "len" (.builtin "len")) (hrange : Blt C "range" (.type "range")) :
    ∀ gs : List Nat, (∀ g ∈ gs, 1 ≤ g ∧ g < l.length) →
      (Loop C (d + 1) J (rec 31).scope (bodyOf (nth (rec 31).body 3)) "gap" [("figures", .val (.str l)), ("numbers", .val (.list (all.map fun x : Nat => V.int x))), ("unlike", .val (.int u))] (gs.map fun x : Nat => V.int x)
        (.next [("figures", .val (.str l)), ("numbers", .val (.list (all.map fun x : Nat => V.int x))), ("unlike", .val (.int u))]) ∧ sharedGo l n0 u gs = [47]) ∨
      Loop C (d + 1) J (rec 31).scope (bodyOf (nth (rec 31).body 3)) "gap" [("figures", .val (.str l)), ("numbers", .val (.list (all.map fun x : Nat => V.int x))), ("unlike", .val (.int u))] (gs.map fun x : Nat => V.int x)
        (.ret (.str (sharedGo l n0 u gs)))
  | [], _ => .inl ⟨.done (by walk_at "m:noapp"), rfl⟩
  | g :: r, hg => by
    have h1 := hg g List.mem_cons_self
    have h2 : (all.map fun x : Nat => V.int x)[0]? = some (V.int n0) := by rw [List.getElem?_map, h0]; rfl
    have hg30 := hd.g
    have hr30 := hd.r
    have na : NoApp [("figures", .val (.str l)), ("numbers", .val (.list (all.map fun x : Nat => V.int x))), ("unlike", .val (.int u))] "gap" := by walk_at "m:noapp"
    have ht : Tst C (d + 1) J (rec 31).scope [("figures", .val (.str l)), ("numbers", .val (.list (all.map fun x : Nat => V.int x))), ("unlike", .val (.int u)), ("gap", .val (.int g))] (testOf (nth (bodyOf (nth (rec 31).body 3)) 0)) (decide (u < 2 ^ g) && n0.testBit g) := by
      refine tst_and (Tst.cast (v := decide ((u : Int) < 2 ^ ((g : Int)).toNat)) ?_ ?_) fun _ => Tst.cast (v := ((n0 : Int).fdiv (2 ^ ((g : Int)).toNat)).fmod 2 == 1) ?_ ?_
      · with_reducible refine' tst_cmp ?k1 ?k2 ?k3
        case k1 => walk_at "m:ev"
        case k2 =>
          with_reducible refine' ev_bin ?g1 ?g2 ?g3
          case g1 => walk_at "m:ev"
          case g2 => walk_at "m:ev"
          case g3 => exact bin_pow (by omega) (pow_bits (by omega))
        case k3 => walk_at "m:cmp"
      · rw [Int.toNat_natCast, ← pow_cast]; exact decide_eq_decide.mpr (by omega)
      · walk_at "m:tst"
      · rw [bitTest n0 g (by omega), Int.toNat_natCast]
    by_cases hc : u < 2 ^ g ∧ n0.testBit g = true
    · refine .inr (.ret na ?_)
      rw [Put.eq (by walk_at "m:put")]
      refine ex_ret (st_if (r := true) (Tst.cast ht (by simp [hc.1, hc.2])) (fun _ => ?_) fun e => absurd e (by decide))
      have e3 : ((l.length : Int) - g) = ((l.length - g : Nat) : Int) := by omega
      refine ex_ret (st_return (Ev.cast (v := .str (spellTo (l.take (l.length - g)) (n0 / 2 ^ g) [] (l.take (l.length - g)).length)) ?_ ?_))
      · with_reducible refine' ev_call (as := [.str (l.take (l.length - g)), .int (n0 / 2 ^ g : Nat), .str []]) ?k1 ?k2 ?k3 ?k4
        case k1 => walk_at "m:glob"
        case k2 => assumption
        case k3 =>
          with_reducible refine' eva_cons ?g1 ?g2
          case g1 =>
            refine Ev.cast (v := .str (cut none (some ((l.length : Int) - g)) l)) ?_ (by rw [e3, cut_to])
            walk_at "m:ev"
          case g2 =>
            with_reducible refine' eva_cons ?p1 ?p2
            case p1 =>
              refine Ev.cast (v := .int ((n0 : Int).fdiv (2 ^ ((g : Int)).toNat))) ?_ (by rw [shr_nat])
              walk_at "m:ev"
            case p2 => walk_at "m:eva"
        case k4 => exact fn_spelled ⟨hg30, hr30⟩ (by simp; omega) (by simp) hlen hrange
      · conv => rhs; unfold sharedGo
        rw [if_pos hc, List.length_take, Nat.min_eq_left (by omega)]
    · have hb : Ex C (d + 1) J (rec 31).scope (put [("figures", .val (.str l)), ("numbers", .val (.list (all.map fun x : Nat => V.int x))), ("unlike", .val (.int u))] "gap" (.val (.int g))) (bodyOf (nth (rec 31).body 3))
          (.next [("figures", .val (.str l)), ("numbers", .val (.list (all.map fun x : Nat => V.int x))), ("unlike", .val (.int u))]) := by
        rw [Put.eq (by walk_at "m:put")]
        refine ex_cons (st_if (r := false) (Tst.cast ht (by rw [Bool.and_eq_false_iff]; by_cases h : u < 2 ^ g; · right; simpa [h] using hc
                                                            · left; simp [h])) (fun e => absurd e (by decide)) fun _ => ex_nil) ?_
        walk_at "m:end"
      have es : sharedGo l n0 u (g :: r) = sharedGo l n0 u r := by
        conv => lhs; unfold sharedGo
        rw [if_neg hc]
      rw [es]
      rcases gaps_loop (d := d) (J := J) hd (u := u) hl h0 hall hlen hrange r fun y hy => hg y (List.mem_cons_of_mem _ hy) with ⟨q, q2⟩ | q
      · exact .inl ⟨.step na hb q, q2⟩
      · exact .inr (.step na hb q)
end Mine

end
section
set_option Elab.async false
set_option maxRecDepth 100000

namespace Mine
theorem shared_body {C : Cfg} {d : Nat} {J : Js} {f : Addr} (hd : Def C 30 "_law_spelled" f) {l : List Nat} {n0 : Nat} {all : List Nat} (hl : l.length ≤ 6) (h0 : all[0]? = some n0) (h64 : ∀ x ∈ all, x < 64) (hall : all.length ≤ 10) (hlen : Blt C "len" (.builtin "len")) (hrange : Blt C "range" (.type "range")) :
    Ex C (d + 1) J (rec 31).scope [("figures", .val (.str l)), ("numbers", .val (.list (all.map fun x : Nat => V.int x)))] (rec 31).body (.ret (.str (sharedOf l all))) := by
  have hg30 := hd.g
  have hr30 := hd.r
  have hh : all.headD 0 = n0 := by
    cases all with
    | nil => cases h0
    | cons a r => simpa using h0
  have h2 : (all.map fun x : Nat => V.int x)[0]? = some (V.int n0) := by rw [List.getElem?_map, h0]; rfl
  have hn : n0 < 64 := h64 n0 (List.mem_of_getElem? h0)
  walk_at "m:set"
  refine ex_cons (st_loop (src_list (by walk_at "m:ev")) (by walk_at "m:sub") (by walk_at "m:loc") (unlike_loop (u := 0) h0 hn hall all h64)) ?_
  generalize hu : unlikeOf n0 all 0 = u
  by_cases hc : u = 0
  · refine ex_ret (st_if (r := true) (Tst.cast (by walk_at "m:tst") (by simp [hc])) (fun _ => ?_) fun e => absurd e (by decide))
    refine ex_ret (st_return (Ev.cast (v := .str (spellTo l n0 [] l.length)) ?_ ?_))
    · with_reducible refine' ev_call ?k1 ?k2 ?k3 ?k4
      case k1 => walk_at "m:glob"
      case k2 => assumption
      case k3 => walk_at "m:eva"
      case k4 => exact fn_spelled ⟨hg30, hr30⟩ hl (by simp) hlen hrange
    · unfold sharedOf; rw [hh, hu, if_pos hc]
  · refine ex_cons (st_if (r := false) (Tst.cast (by walk_at "m:tst") (by simp [hc])) (fun e => absurd e (by decide)) fun _ => ex_nil) ?_
    have hsrc : ∀ it, Run C (d + 1) J (rec 31).scope [("figures", .val (.str l)), ("numbers", .val (.list (all.map fun x : Nat => V.int x))), ("unlike", .val (.int u))] (fun env => eval it env) (IsRg 1 l.length) →
        Src C (d + 1) J (rec 31).scope [("figures", .val (.str l)), ("numbers", .val (.list (all.map fun x : Nat => V.int x))), ("unlike", .val (.int u))] it
          ((((List.range (l.length - 1)).map (1 + ·)).map fun g : Nat => V.int g).length) (fun i => (((List.range (l.length - 1)).map (1 + ·)).map fun g : Nat => V.int g).getD i .none) := fun it hit => by
      have := Src.list (src_range (n := l.length - 1) hit (by omega) (small_ok (by omega) (by omega) (by omega) (by omega)))
      have e : (List.range (l.length - 1)).map (fun i : Nat => V.int (1 + (i : Int))) = ((List.range (l.length - 1)).map (1 + ·)).map fun g : Nat => V.int g := by
        rw [List.map_map]
        refine List.map_congr_left fun i _ => ?_
        show V.int (1 + (i : Int)) = V.int ((1 + i : Nat) : Int)
        rw [Int.natCast_add]; rfl
      rw [e] at this
      exact this
    have hval : sharedOf l all = sharedGo l n0 u ((List.range (l.length - 1)).map (1 + ·)) := by unfold sharedOf; rw [hh, hu, if_neg hc]
    rw [hval]
    rcases gaps_loop (d := d) (J := J) hd (u := u) hl h0 hall hlen hrange ((List.range (l.length - 1)).map (1 + ·)) (fun g hg => by
        obtain ⟨i, hi, rfl⟩ := List.mem_map.mp hg
        have := List.mem_range.mp hi
        show 1 ≤ 1 + i ∧ 1 + i < l.length
        omega) with ⟨q, q2⟩ | q
    · refine ex_cons (st_loop (hsrc _ (by walk_at "m:call")) (by walk_at "m:sub") (by walk_at "m:loc") q) ?_
      rw [q2]
      walk_at "m:ret"
    · exact ex_ret (st_loop (hsrc _ (by walk_at "m:call")) (by walk_at "m:sub") (by walk_at "m:loc") q)
theorem fn_shared {C : Cfg} {d : Nat} {J : Js} {f g : Addr} (hd : Def C 30 "_law_spelled" f) (hg : Def C 31 "_law_shared" g) {l : List Nat} {n0 : Nat} {all : List Nat} (hl : l.length ≤ 6) (h0 : all[0]? = some n0) (h64 : ∀ x ∈ all, x < 64) (hall : all.length ≤ 10) (hlen : Blt C "len" (.builtin "len")) (hrange : Blt C "range" (.type "range")) :
    Fn C (d + 2) J g [.str l, .list (all.map fun x : Nat => V.int x)] (.str (sharedOf l all)) :=
  fn_of ["figures", "numbers"] hg.r (shared_body hd hl h0 h64 hall hlen hrange) (fun us hu => by
    obtain ⟨u1, u2, rfl⟩ := len2 hu
    intro doc pm an cdv ct; rfl) (by decide +kernel) (by decide +kernel) (by decide +kernel) (by decide +kernel) (by decide +kernel) (by decide +kernel)
theorem fn_strcoll {C : Cfg} {d : Nat} {J : Js} {g : Addr} (hg : Def C 3 "_strcoll" g) {a b : List Nat} : Fn C (d + 1) J g [.str a, .str b] (.int (b2i (decide (b < a)) - b2i (decide (a < b)))) :=
  fn_of ["a", "b"] hg.r strcoll_body (fun us hu => by
    obtain ⟨u1, u2, rfl⟩ := len2 hu
    intro doc pm an cdv ct; rfl) (by decide +kernel) (by decide +kernel) (by decide +kernel) (by decide +kernel) (by decide +kernel) (by decide +kernel)
theorem fn_bits {C : Cfg} {d : Nat} {J : Js} {g : Addr} (hg : Def C 29 "_law_bits" g) {n : Nat} {row : List Nat} (hn : n ≤ 6) (hl : row.length ≤ 40) (hle : ∀ e ∈ row, e ≤ 127) (hz : row.head? ≠ some 0) (hrange : Blt C "range" (.type "range")) (hsum : Blt C "sum" (.builtin "sum")) :
    Fn C (d + 1) J g [.list (row.map fun x : Nat => V.int x), .int n] (.int (bitsFrom n row 0 0 0)) :=
  fn_of ["row", "count"] hg.r (bits_body hn hl hle hz hrange hsum) (fun us hu => by
    obtain ⟨u1, u2, rfl⟩ := len2 hu
    intro doc pm an cdv ct; rfl) (by decide +kernel) (by decide +kernel) (by decide +kernel) (by decide +kernel) (by decide +kernel) (by decide +kernel)
end Mine

end
section
set_option Elab.async false
set_option maxRecDepth 100000

namespace Mine
noncomputable def pv : Option (List Nat) → V
  | none => .none
  | some l => .str l
noncomputable def pieceStep (ps : List (List Nat)) : Option (List Nat) → List (List Nat)
  | none => ps ++ [[]]
  | some a => ps.dropLast ++ [ps.getLastD [] ++ a]
noncomputable def takesGo (t : List Nat) (place : Nat) : List (List Nat) → Option Nat
  | [] => some place
  | p :: r => if Txt.find3 (S t) (S p) place < 0 then none else takesGo t ((Txt.find3 (S t) (S p) place).toNat + p.length) r
noncomputable def takesOf (ps : List (List Nat)) (t : List Nat) : Bool :=
  if ps.length = 1 then t == ps.headD [] else if t.take (ps.headD []).length ≠ ps.headD [] then false else
    match takesGo t (ps.headD []).length (ps.dropLast.drop 1) with
    | none => false
    | some place => decide (place + (ps.getLastD []).length ≤ t.length) && (t.drop (t.length - (ps.getLastD []).length) == ps.getLastD [])
theorem cut_init {α : Type} (xs : List α) : cut none (some (-1)) xs = xs.dropLast := by
  unfold cut
  simp only [Option.elim, List.drop_zero, Nat.sub_zero]
  rw [show (-1 : Int) = -((1 : Nat) : Int) from rfl, clip_neg _ _ (by decide), List.dropLast_eq_take]
theorem cut_mid {α : Type} (xs : List α) : cut (some 1) (some (-1)) xs = xs.dropLast.drop 1 := by
  unfold cut
  simp only [Option.elim]
  rw [show (-1 : Int) = -((1 : Nat) : Int) from rfl, clip_neg _ _ (by decide), show (1 : Int) = ((1 : Nat) : Int) from rfl, clip_nat, List.dropLast_eq_take, List.drop_take]
  by_cases h : 1 ≤ xs.length
  · rw [Nat.min_eq_left h]
  · have : xs = [] := List.length_eq_zero_iff.mp (by omega)
    subst this; rfl
theorem cut_from {α : Type} (k : Nat) (xs : List α) (hk : k ≤ xs.length) : cut (some (k : Int)) none xs = xs.drop k := by
  unfold cut
  simp only [Option.elim, clip_nat]
  rw [Nat.min_eq_left hk, List.take_of_length_le (by simp)]
theorem getLast_str (ps : List (List Nat)) (h : ps ≠ []) : (ps.map V.str)[ps.length - 1]? = some (V.str (ps.getLastD [])) := by
  rw [List.getElem?_map, List.getLastD_eq_getLast?, List.getLast?_eq_getElem?]
  have : ps.length - 1 < ps.length := by have := List.length_pos_iff.mpr h; omega
  rw [List.getElem?_eq_getElem this]
  rfl

noncomputable def takesR (pv tv : V) (ps : List (List Nat)) : Rho := [("parts", .val pv), ("text", .val tv), ("pieces", .val (.list (ps.map V.str)))]
theorem pieces_loop {C : Cfg} {d : Nat} {J : Js} {av tv : V} : ∀ (parts : List (Option (List Nat))) (ps : List (List Nat)), ps ≠ [] → ps.length + parts.length ≤ 100 → (∀ p ∈ ps, p.length + 10 * parts.length ≤ 1000) → (∀ a, some a ∈ parts → a.length ≤ 10) →
    Loop C d J (rec 32).scope (bodyOf (nth (rec 32).body 1)) "part" (takesR av tv ps) (parts.map pv) (.next (takesR av tv (parts.foldl pieceStep ps)))
  | [], ps, _, _, _, _ => .done (by unfold takesR; walk_at "m:noapp")
  | part :: r, ps, hne, hlen, hp, ha => by
    have hlen' : ps.length + (r.length + 1) ≤ 100 := hlen
    have hp' : ∀ p ∈ ps, p.length + 10 * (r.length + 1) ≤ 1000 := hp
    have hpos := List.length_pos_iff.mpr hne
    have hlast := getLast_str ps hne
    have hls : (ps.getLastD []).length + 10 * (r.length + 1) ≤ 1000 := by
      refine hp' _ ?_
      rw [List.getLastD_eq_getLast?, List.getLast?_eq_some_getLast hne]
      exact List.getLast_mem hne
    have na : NoApp (takesR av tv ps) "part" := by unfold takesR; walk_at "m:noapp"
    refine .step (ρ' := takesR av tv (pieceStep ps part)) na ?_ (pieces_loop r (pieceStep ps part) ?_ ?_ ?_ fun a h => ha a (List.mem_cons_of_mem _ h))
    · unfold takesR
      rw [Put.eq (by walk_at "m:put")]
      cases part with
      | none =>
        dsimp only [pv]
        refine ex_cons (st_if (r := true) (o := .next [("parts", .val av), ("text", .val tv), ("pieces", .val (.list ((pieceStep ps none).map V.str))), ("part", .val .none)]) (Tst.cast (by walk_at "m:tst") (by rfl)) (fun _ => ?_) fun e => absurd e (by decide)) (Ex.end ?_)
        · walk_at "m:set"
          rw [show ps.map V.str ++ [V.str []] = (pieceStep ps none).map V.str by simp [pieceStep]]
          exact ex_nil
        · walk_at "m:sub"
      | some a =>
        dsimp only [pv]
        have hla := ha a List.mem_cons_self
        have hcut : (pick none (some (-1)) none (ps.map V.str)).length = ps.length - 1 := by rw [pick_cut, cut_init]; simp
        refine ex_cons (st_if (r := false) (o := .next [("parts", .val av), ("text", .val tv), ("pieces", .val (.list ((pieceStep ps (some a)).map V.str))), ("part", .val (.str a))]) (Tst.cast (by walk_at "m:tst") (by rfl)) (fun e => absurd e (by decide)) fun _ => ?_) (Ex.end ?_)
        · walk_at "m:set"
          rw [pick_cut, cut_init, show (ps.map V.str).dropLast ++ [V.str (ps.getLastD [] ++ a)] = (pieceStep ps (some a)).map V.str by simp [pieceStep]]
          exact ex_nil
        · walk_at "m:sub"
    · cases part <;> simp [pieceStep]
    · cases part <;> simp [pieceStep] <;> omega
    · intro p hq
      cases part with
      | none =>
        rcases List.mem_append.mp hq with hq | hq
        · have := hp' p hq; omega
        · rw [List.mem_singleton.mp hq]; simp; omega
      | some a =>
        have hla := ha a List.mem_cons_self
        rcases List.mem_append.mp hq with hq | hq
        · have := hp' p ((List.dropLast_sublist ps).subset hq); omega
        · rw [List.mem_singleton.mp hq, List.length_append]; omega
end Mine

end
section
set_option Elab.async false
set_option maxRecDepth 100000

namespace Mine
theorem takes_loop {C : Cfg} {d : Nat} {J : Js} {av sv : V} {t : List Nat} (hlen : Blt C "len" (.builtin "len")) : ∀ (rest : List (List Nat)) (place : Nat), (∀ p ∈ rest, p.length ≤ 1000) →
    (takesGo t place rest = none ∧ Loop C d J (rec 32).scope (bodyOf (nth (rec 32).body 5)) "piece" [("parts", .val av), ("text", .val (.str t)), ("pieces", .val sv), ("place", .val (.int place))] (rest.map V.str) (.ret (.bool false))) ∨
    (∃ pl : Nat, takesGo t place rest = some pl ∧ Loop C d J (rec 32).scope (bodyOf (nth (rec 32).body 5)) "piece" [("parts", .val av), ("text", .val (.str t)), ("pieces", .val sv), ("place", .val (.int place))] (rest.map V.str)
      (.next [("parts", .val av), ("text", .val (.str t)), ("pieces", .val sv), ("place", .val (.int pl))]))
  | [], place, _ => .inr ⟨place, rfl, .done (by walk_at "m:noapp")⟩
  | p :: r, place, hp => by
    have hpl : p.length ≤ 1000 := hp p List.mem_cons_self
    have na : NoApp [("parts", .val av), ("text", .val (.str t)), ("pieces", .val sv), ("place", .val (.int place))] "piece" := by walk_at "m:noapp"
    have hf := fact_find3 (S t) (S p) place
    by_cases hc : Txt.find3 (S t) (S p) place < 0
    · refine .inl ⟨by unfold takesGo; rw [if_pos hc], .ret na ?_⟩
      rw [Put.eq (by walk_at "m:put")]
      walk_at "m:set"
      refine ex_ret (st_if (r := true) (Tst.cast (by walk_at "m:tst") (by simpa using hc)) (fun _ => ?_) fun e => absurd e (by decide))
      walk_at "m:ret"
    · have es : takesGo t place (p :: r) = takesGo t ((Txt.find3 (S t) (S p) place).toNat + p.length) r := by
        conv => lhs; unfold takesGo
        rw [if_neg hc]
      rw [es]
      have hb : Ex C d J (rec 32).scope (put [("parts", .val av), ("text", .val (.str t)), ("pieces", .val sv), ("place", .val (.int place))] "piece" (.val (.str p))) (bodyOf (nth (rec 32).body 5))
          (.next [("parts", .val av), ("text", .val (.str t)), ("pieces", .val sv), ("place", .val (.int ((Txt.find3 (S t) (S p) place).toNat + p.length : Nat)))]) := by
        rw [Put.eq (by walk_at "m:put")]
        walk_at "m:set"
        refine ex_cons (st_if (r := false) (Tst.cast (by walk_at "m:tst") (by simpa using hc)) (fun e => absurd e (by decide)) fun _ => ex_nil) ?_
        walk_at "m:set"
        rw [show Txt.find3 (S t) (S p) place + (p.length : Int) = ((Txt.find3 (S t) (S p) place).toNat + p.length : Nat) by omega]
        walk_at "m:end"
      rcases takes_loop (d := d) (J := J) (av := av) (sv := sv) hlen r ((Txt.find3 (S t) (S p) place).toNat + p.length) (fun y hy => hp y (List.mem_cons_of_mem _ hy)) with ⟨q1, q2⟩ | ⟨pl, q1, q2⟩
      · exact .inl ⟨q1, .step na hb q2⟩
      · exact .inr ⟨pl, q1, .step na hb q2⟩
end Mine

end
section
set_option Elab.async false
set_option maxRecDepth 100000

namespace Mine
theorem pieces_facts : ∀ (parts : List (Option (List Nat))) (ps : List (List Nat)), ps ≠ [] → (∀ p ∈ ps, p.length + 10 * parts.length ≤ 1000) → ps.length + parts.length ≤ 100 → (∀ a, some a ∈ parts → a.length ≤ 10) →
    parts.foldl pieceStep ps ≠ [] ∧ (parts.foldl pieceStep ps).length ≤ 100 ∧ ∀ p ∈ parts.foldl pieceStep ps, p.length ≤ 1000
  | [], ps, h, h2, h3, _ => ⟨h, by simpa using h3, fun p hp => by have := h2 p hp; simpa using this⟩
  | part :: r, ps, h, h2, h3, ha => by
    have h2' : ∀ p ∈ ps, p.length + 10 * (r.length + 1) ≤ 1000 := h2
    have h3' : ps.length + (r.length + 1) ≤ 100 := h3
    have hpos := List.length_pos_iff.mpr h
    have hls : (ps.getLastD []).length + 10 * (r.length + 1) ≤ 1000 := by
      refine h2' _ ?_
      rw [List.getLastD_eq_getLast?, List.getLast?_eq_some_getLast h]
      exact List.getLast_mem h
    refine pieces_facts r (pieceStep ps part) ?_ ?_ ?_ fun a h => ha a (List.mem_cons_of_mem _ h)
    · cases part <;> simp [pieceStep]
    · intro p hq
      cases part with
      | none =>
        rcases List.mem_append.mp hq with hq | hq
        · have := h2' p hq; omega
        · rw [List.mem_singleton.mp hq]; simp; omega
      | some a =>
        have hla := ha a List.mem_cons_self
        rcases List.mem_append.mp hq with hq | hq
        · have := h2' p ((List.dropLast_sublist ps).subset hq); omega
        · rw [List.mem_singleton.mp hq, List.length_append]; omega
    · cases part <;> simp [pieceStep] <;> omega

theorem takes_body {C : Cfg} {d : Nat} {J : Js} {parts : List (Option (List Nat))} {t : List Nat} (hpl : parts.length ≤ 50) (ha : ∀ a, some a ∈ parts → a.length ≤ 10) (ht : t.length ≤ 1000) (hlen : Blt C "len" (.builtin "len")) :
    Ex C d J (rec 32).scope [("parts", .val (.list (parts.map pv))), ("text", .val (.str t))] (rec 32).body (.ret (.bool (takesOf (parts.foldl pieceStep [[]]) t))) := by
  have hpos : 10 * parts.length ≤ 500 := by omega
  have hpf := pieces_facts parts [[]] (by simp) (by simp; omega) (by simp; omega) ha
  have hloop := pieces_loop (C := C) (d := d) (J := J) (av := .list (parts.map pv)) (tv := .str t) parts [[]] (by simp) (by simp; omega) (by simp; omega) ha
  generalize parts.foldl pieceStep [[]] = ps at *
  obtain ⟨hne, hl1, hl2⟩ := hpf
  have hpp := List.length_pos_iff.mpr hne
  walk_at "m:set"
  refine ex_cons (st_loop (ρ := takesR (.list (parts.map pv)) (.str t) [[]]) (src_list (by unfold takesR; walk_at "m:ev")) (by unfold takesR; walk_at "m:sub") (by walk_at "m:loc") hloop) ?_
  unfold takesR
  have h0 : (ps.map V.str)[0]? = some (V.str (ps.headD [])) := by
    cases ps with
    | nil => exact absurd rfl hne
    | cons a r => rfl
  have hh0 : (ps.headD []).length ≤ 1000 := by
    refine hl2 _ ?_
    cases ps with
    | nil => exact absurd rfl hne
    | cons a r => simp
  have hhl : (ps.getLastD []).length ≤ 1000 := by
    refine hl2 _ ?_
    rw [List.getLastD_eq_getLast?, List.getLast?_eq_some_getLast hne]
    exact List.getLast_mem hne
  unfold takesOf
  by_cases h1 : ps.length = 1
  · refine ex_ret (st_if (r := true) (Tst.cast (by walk_at "m:tst") (by simp [h1])) (fun _ => ?_) fun e => absurd e (by decide))
    rw [if_pos h1]
    walk_at "m:ret"
  · refine ex_cons (st_if (r := false) (Tst.cast (by walk_at "m:tst") (by simp; omega)) (fun e => absurd e (by decide)) fun _ => ex_nil) ?_
    rw [if_neg h1]
    by_cases h2 : t.take (ps.headD []).length ≠ ps.headD []
    · refine ex_ret (st_if (r := true) (Tst.cast (by walk_at "m:tst") (by rw [cut_to]; simpa using h2)) (fun _ => ?_) fun e => absurd e (by decide))
      rw [if_pos h2]
      walk_at "m:ret"
    · refine ex_cons (st_if (r := false) (Tst.cast (by walk_at "m:tst") (by rw [cut_to]; simpa using h2)) (fun e => absurd e (by decide)) fun _ => ex_nil) ?_
      rw [if_neg h2]
      walk_at "m:set"
      have hm : pick (some 1) (some (-1)) none (ps.map V.str) = (ps.dropLast.drop 1).map V.str := by
        rw [pick_cut, cut_mid, List.map_drop, List.map_dropLast]
      rcases takes_loop (C := C) (d := d) (J := J) (av := .list (parts.map pv)) (sv := .list (ps.map V.str)) (t := t) hlen (ps.dropLast.drop 1) (ps.headD []).length (fun p hp => hl2 p ((List.dropLast_sublist ps).subset (List.mem_of_mem_drop hp))) with ⟨q1, q2⟩ | ⟨pl, q1, q2⟩
      · rw [q1]
        refine ex_ret (st_loop (src_list (Ev.cast (by walk_at "m:ev") (congrArg V.list hm))) (by walk_at "m:sub") (by walk_at "m:loc") q2)
      · rw [q1]
        refine ex_cons (st_loop (src_list (Ev.cast (by walk_at "m:ev") (congrArg V.list hm))) (by walk_at "m:sub") (by walk_at "m:loc") q2) ?_
        clear h0
        have hlast := getLast_str ps hne
        walk_at "m:set"
        refine ex_ret (st_return (ev_and (r₁ := decide (pl + (ps.getLastD []).length ≤ t.length)) (Ev.cast (by walk_at "m:ev") ?_) (fun hr => Ev.cast (by walk_at "m:ev") ?_) fun hr => ?_))
        · exact congrArg V.bool (decide_eq_decide.mpr (by omega))
        · have hr : pl + (ps.getLastD []).length ≤ t.length := by simpa using hr
          rw [show (t.length : Int) - ((ps.getLastD []).length : Int) = ((t.length - (ps.getLastD []).length : Nat) : Int) by omega, cut_from _ _ (by omega)]
          show _ = V.bool (decide (pl + (ps.getLastD []).length ≤ t.length) && _)
          rw [decide_eq_true hr, Bool.true_and]
        · show V.bool (decide (pl + (ps.getLastD []).length ≤ t.length) && _) = _
          rw [hr]; rfl
theorem fn_takes {C : Cfg} {d : Nat} {J : Js} {g : Addr} (hg : Def C 32 "_law_takes" g) {parts : List (Option (List Nat))} {t : List Nat} (hpl : parts.length ≤ 50) (ha : ∀ a, some a ∈ parts → a.length ≤ 10) (ht : t.length ≤ 1000) (hlen : Blt C "len" (.builtin "len")) :
    Fn C (d + 1) J g [.list (parts.map pv), .str t] (.bool (takesOf (parts.foldl pieceStep [[]]) t)) :=
  fn_of ["parts", "text"] hg.r (takes_body hpl ha ht hlen) (fun us hu => by
    obtain ⟨u1, u2, rfl⟩ := len2 hu
    intro doc pm an cdv ct; rfl) (by decide +kernel) (by decide +kernel) (by decide +kernel) (by decide +kernel) (by decide +kernel) (by decide +kernel)
end Mine

end
section
set_option Elab.async false
set_option maxRecDepth 100000

namespace Mine
/-- the built-in names that the law reaches -/
structure Blts (C : Cfg) : Prop where
  len : Blt C "len" (.builtin "len")
  range : Blt C "range" (.type "range")
  sum : Blt C "sum" (.builtin "sum")
  type : Blt C "type" (.type "type")
  str : Blt C "str" (.type "str")
  bytes : Blt C "bytes" (.type "bytes")
  isinstance : Blt C "isinstance" (.builtin "isinstance")
  issubclass : Blt C "issubclass" (.builtin "issubclass")
  tuple : Blt C "tuple" (.type "tuple")
  map : Blt C "map" (.type "map")
  min : Blt C "min" (.builtin "min")
  max : Blt C "max" (.builtin "max")
  enumerate : Blt C "enumerate" (.type "enumerate")
  verr : Blt C "ValueError" (.type "ValueError")

theorem fspath_body {C : Cfg} {d : Nat} {J : Js} {l : List Nat} (B : Blts C) : Ex C d J (rec 20).scope [("path", .val (.str l))] (rec 20).body (.ret (.str l)) := by
  have b1 := B.type
  have b2 := B.str
  have b3 := B.bytes
  have b4 := B.issubclass
  walk_at "m:set"
  refine ex_ret (st_if (r := true) (by walk_at "m:tst") (fun _ => ?_) fun e => absurd e (by decide))
  walk_at "m:ret"
theorem fn_fspath {C : Cfg} {d : Nat} {J : Js} {g : Addr} (hg : Def C 20 "fspath" g) (B : Blts C) {l : List Nat} : Fn C (d + 1) J g [.str l] (.str l) :=
  fn_of ["path"] hg.r (fspath_body B) (fun us hu => by
    obtain ⟨u1, rfl⟩ := len1 hu
    intro doc pm an cdv ct; rfl) (by decide +kernel) (by decide +kernel) (by decide +kernel) (by decide +kernel) (by decide +kernel) (by decide +kernel)
theorem sep_body {C : Cfg} {d : Nat} {J : Js} {l : List Nat} (B : Blts C) : Ex C d J (rec 24).scope [("path", .val (.str l))] (rec 24).body (.ret (.str [47])) := by
  have b3 := B.bytes
  have b4 := B.isinstance
  refine ex_ret (st_if (r := false) (by walk_at "m:tst") (fun e => absurd e (by decide)) fun _ => ?_)
  walk_at "m:ret"
theorem fn_sep {C : Cfg} {d : Nat} {J : Js} {g : Addr} (hg : Def C 24 "_get_sep" g) (B : Blts C) {l : List Nat} : Fn C (d + 1) J g [.str l] (.str [47]) :=
  fn_of ["path"] hg.r (sep_body B) (fun us hu => by
    obtain ⟨u1, rfl⟩ := len1 hu
    intro doc pm an cdv ct; rfl) (by decide +kernel) (by decide +kernel) (by decide +kernel) (by decide +kernel) (by decide +kernel) (by decide +kernel)
theorem escape_body {C : Cfg} {d : Nat} {J : Js} {c : Nat} (B : Blts C) (M : SpMap C) (h1 : 47 ≤ c) (h2 : c ≤ 57) : Ex C d J (rec 9).scope [("pattern", .val (.str [c]))] (rec 9).body (.ret (.str [c])) := by
  have b3 := B.str
  have b4 := B.isinstance
  obtain ⟨dm, hdm, hd, hm⟩ := M.m
  refine ex_ret (st_if (r := true) (by walk_at "m:tst") (fun _ => ?_) fun e => absurd e (by decide))
  refine ex_ret (st_return ?_)
  with_reducible refine' run_meth ?k1 ?k2 PySem.F.slot_str_translate PySem.F.type_str_translate ?k3
  case k1 => walk_at "m:ev"
  case k2 => walk_at "m:eva"
  case k3 => exact op_trans hd hm h1 h2
theorem fn_escape {C : Cfg} {d : Nat} {J : Js} {g : Addr} {c : Nat} (hg : Def C 9 "escape" g) (B : Blts C) (M : SpMap C) (h1 : 47 ≤ c) (h2 : c ≤ 57) : Fn C (d + 1) J g [.str [c]] (.str [c]) :=
  fn_of ["pattern"] hg.r (escape_body B M h1 h2) (fun us hu => by
    obtain ⟨u1, rfl⟩ := len1 hu
    intro doc pm an cdv ct; rfl) (by decide +kernel) (by decide +kernel) (by decide +kernel) (by decide +kernel) (by decide +kernel) (by decide +kernel)
end Mine

end
section
set_option Elab.async false
set_option maxRecDepth 100000

namespace Mine
noncomputable def maskStep (xs : List (Option (List Nat))) (c : Nat) : List (Option (List Nat)) := if c = 42 then (if xs.getLast? = some none then xs else xs ++ [none]) else xs ++ [some [c]]
noncomputable def trR (p : List Nat) (xs : List (Option (List Nat))) (i : Nat) : Rho :=
  [("pat", .val (.str p)), ("STAR", .val .none), ("QUESTION_MARK", .val (.str [46])), ("res", .mut (xs.map pv)), ("add", .app "res"), ("n", .val (.int p.length)), ("i", .val (.int i))]

theorem fkind : (rec 11).scope.kind = .function := by decide +kernel
theorem tr_loop {C : Cfg} {d : Nat} {J : Js} {f9 : Addr} (h9 : Def C 9 "escape" f9) (B : Blts C) (M : SpMap C) {p : List Nat} (hp : p.length ≤ 40) (hc : ∀ c ∈ p, c = 42 ∨ (47 ≤ c ∧ c ≤ 57)) :
    ∀ (k i : Nat) (xs : List (Option (List Nat))), i + k = p.length → xs.length ≤ i →
      WLoop C (d + 1) J (rec 11).scope (testOf (nth (rec 11).body 3)) (bodyOf (nth (rec 11).body 3)) (trR p xs i) (.next (trR p ((p.drop i).foldl maskStep xs) p.length))
  | 0, i, xs, hk, hx => by
    have hi : i = p.length := by omega
    subst hi
    rw [List.drop_length]
    refine .done ?_
    unfold trR
    refine Tst.cast (v := decide ((p.length : Int) < p.length)) (tst_cmp (a := .int p.length) (b := .int p.length) ?_ ?_ cmp_ltI) (by simp)
    · walk_at "m:ev"
    · walk_at "m:ev"
  | k + 1, i, xs, hk, hx => by
    have hi : i < p.length := by omega
    obtain ⟨c, hcx⟩ : ∃ c, p[i]? = some c := ⟨p[i], by simp [hi]⟩
    have hdrop : p.drop i = c :: p.drop (i + 1) := by
      rw [List.drop_eq_getElem_cons hi]
      rw [List.getElem?_eq_getElem hi] at hcx
      cases hcx; rfl
    have hcm := hc c (List.mem_of_getElem? hcx)
    have b1 := B.len
    have hxs : xs.length ≤ 40 := by omega
    rw [hdrop, List.foldl_cons]
    refine .step (ρ' := trR p (maskStep xs c) (i + 1)) ?_ ?_ (tr_loop h9 B M hp hc k (i + 1) (maskStep xs c) (by omega) ?_)
    · unfold trR
      refine Tst.cast (v := decide ((i : Int) < p.length)) (tst_cmp (a := .int i) (b := .int p.length) ?_ ?_ cmp_ltI) (by simp; omega)
      · walk_at "m:ev"
      · walk_at "m:ev"
    · unfold trR
      walk_at "m:set"
      walk_at "m:set"
      rw [show (i : Int) + 1 = ((i + 1 : Nat) : Int) by omega]
      rcases hcm with rfl | ⟨hc1, hc2⟩
      · refine ex_cons (st_if (r := true) (o := .next [("pat", .val (.str p)), ("STAR", .val .none), ("QUESTION_MARK", .val (.str [46])), ("res", .mut ((maskStep xs 42).map pv)), ("add", .app "res"), ("n", .val (.int p.length)), ("i", .val (.int (i + 1 : Nat))), ("c", .val (.str [42]))])
          (Tst.cast (by walk_at "m:tst") (by simp)) (fun _ => ?_) fun e => absurd e (by decide)) (by walk_at "m:end")
        have hst : ∀ {y : List (Option (List Nat))}, y = maskStep xs 42 → Ex C (d + 1) J (rec 11).scope [("pat", .val (.str p)), ("STAR", .val .none), ("QUESTION_MARK", .val (.str [46])), ("res", .mut (y.map pv)), ("add", .app "res"), ("n", .val (.int p.length)), ("i", .val (.int (i + 1 : Nat))), ("c", .val (.str [42]))] []
            (.next [("pat", .val (.str p)), ("STAR", .val .none), ("QUESTION_MARK", .val (.str [46])), ("res", .mut ((maskStep xs 42).map pv)), ("add", .app "res"), ("n", .val (.int p.length)), ("i", .val (.int (i + 1 : Nat))), ("c", .val (.str [42]))]) := fun e => by subst e; exact ex_nil
        cases hl : xs.getLast? with
        | none =>
          have hx0 : xs = [] := List.getLast?_eq_none_iff.mp hl
          refine ex_cons (st_if (r := true) (Tst.cast (tst_or (r₁ := true) (r₂ := true) (Tst.cast (tst_not (tst_mut (by walk_at "m:at") (by walk_at "m:size") (by decide +kernel))) (by rw [hx0]; rfl)) (fun e => absurd e (by decide))) rfl) (fun _ => ?_) fun e => absurd e (by decide)) (hst (y := xs ++ [none]) (by unfold maskStep; rw [if_pos rfl, hl]; simp))
          refine ex_cons (st_add (xs := xs.map pv) (v := .none) (by walk_at "m:at") (by walk_at "m:at") (by walk_at "m:ev") (by rw [show List.map pv (xs ++ [none]) = List.map pv xs ++ [V.none] by simp [pv]]; walk_at "m:put") (by walk_at "m:size") (by decide +kernel) (by intro _; rfl) (inter_off fkind)) ex_nil
        | some q =>
          have hne : xs ≠ [] := fun e => by rw [e] at hl; cases hl
          have hpos := List.length_pos_iff.mpr hne
          have hlast : (xs.map pv)[xs.length - 1]? = some (pv q) := by
            rw [List.getElem?_map, ← List.getLast?_eq_getElem?, hl]; rfl
          have ht : ∀ r, (!isN (pv q)) = r → Tst C (d + 1) J (rec 11).scope [("pat", .val (.str p)), ("STAR", .val .none), ("QUESTION_MARK", .val (.str [46])), ("res", .mut (xs.map pv)), ("add", .app "res"), ("n", .val (.int p.length)), ("i", .val (.int (i + 1 : Nat))), ("c", .val (.str [42]))]
              (testOf (nth (bodyOf (nth (bodyOf (nth (rec 11).body 3)) 2)) 0)) r := fun r hr => by
            refine Tst.cast (v := false || !isN (pv q)) (tst_or (r₁ := false) (r₂ := !isN (pv q)) (Tst.cast (tst_not (tst_mut (xs := xs.map pv) (by walk_at "m:at") (by walk_at "m:size") (by decide +kernel))) ?_) (fun _ => ?_)) (by simpa using hr)
            · cases xs with
              | nil => exact absurd rfl hne
              | cons a r => rfl
            · refine tst_cmp (a := pv q) (b := .none) (ev_itemMu (xs := xs.map pv) (xs.length - 1) (by walk_at "m:at") (by walk_at "m:ev") (by unfold at?; simp only [List.length_map]; omega) hlast (by walk_at "m:size") (by decide +kernel)) (by walk_at "m:ev") (cmp_isNotN fun w e => by cases q <;> cases e)
          cases q with
          | none =>
            refine ex_cons (st_if (r := false) (ht false rfl) (fun e => absurd e (by decide)) fun _ => ex_nil) (hst (y := xs) (by unfold maskStep; rw [if_pos rfl, if_pos hl]))
          | some a =>
            refine ex_cons (st_if (r := true) (ht true rfl) (fun _ => ?_) fun e => absurd e (by decide)) (hst (y := xs ++ [none]) (by unfold maskStep; rw [if_pos rfl, hl]; simp))
            refine ex_cons (st_add (xs := xs.map pv) (v := .none) (by walk_at "m:at") (by walk_at "m:at") (by walk_at "m:ev") (by rw [show List.map pv (xs ++ [none]) = List.map pv xs ++ [V.none] by simp [pv]]; walk_at "m:put") (by walk_at "m:size") (by decide +kernel) (by intro _; rfl) (inter_off fkind)) ex_nil
      · have hne : c ≠ 42 := by omega
        refine ex_cons (st_if (r := false) (o := .next [("pat", .val (.str p)), ("STAR", .val .none), ("QUESTION_MARK", .val (.str [46])), ("res", .mut ((maskStep xs c).map pv)), ("add", .app "res"), ("n", .val (.int p.length)), ("i", .val (.int (i + 1 : Nat))), ("c", .val (.str [c]))])
          (Tst.cast (by walk_at "m:tst") (by simp; omega)) (fun e => absurd e (by decide)) fun _ => ?_) (by walk_at "m:end")
        refine ex_cons (st_if (r := false) (Tst.cast (by walk_at "m:tst") (by simp; omega)) (fun e => absurd e (by decide)) fun _ => ?_) ex_nil
        refine ex_cons (st_if (r := false) (Tst.cast (by walk_at "m:tst") (by simp; omega)) (fun e => absurd e (by decide)) fun _ => ?_) ex_nil
        have hg9 := h9.g
        have hr9 := h9.r
        refine ex_cons (st_add (xs := xs.map pv) (v := .str [c]) (by walk_at "m:at") (by walk_at "m:at") ?_ (by rw [show (maskStep xs c).map pv = xs.map pv ++ [.str [c]] by unfold maskStep; rw [if_neg hne]; simp [pv]]; walk_at "m:put") (by walk_at "m:size") (by decide +kernel) (by intro _; rfl) (inter_off fkind)) ex_nil
        with_reducible refine' ev_call ?k1 ?k2 ?k3 ?k4
        case k1 => walk_at "m:glob"
        case k2 => assumption
        case k3 => walk_at "m:eva"
        case k4 => exact fn_escape ⟨hg9, hr9⟩ B M hc1 hc2
    · unfold maskStep
      split
      · split
        · omega
        · simp; omega
      · simp; omega
theorem tr_body {C : Cfg} {d : Nat} {J : Js} {f9 : Addr} (h9 : Def C 9 "escape" f9) (B : Blts C) (M : SpMap C) {p : List Nat} (hp : p.length ≤ 40) (hc : ∀ c ∈ p, c = 42 ∨ (47 ≤ c ∧ c ≤ 57)) :
    Ex C (d + 1) J (rec 11).scope [("pat", .val (.str p)), ("STAR", .val .none), ("QUESTION_MARK", .val (.str [46]))] (rec 11).body (.ret (.list ((p.foldl maskStep []).map pv))) := by
  have b1 := B.len
  refine ex_cons (st_fresh (by walk_at "m:put") (by walk_at "m:loc") (by walk_at "m:noapp")) ?_
  refine ex_cons (st_bound (xs := []) (by walk_at "m:at") (by walk_at "m:put") (by walk_at "m:loc") (by walk_at "m:noapp") (by decide +kernel) (by decide +kernel)) ?_
  refine ex_cons (st_pair (a := .int 0) (b := .int p.length) (by walk_at "m:ev") (by walk_at "m:ev") (by walk_at "m:put") (by walk_at "m:put") (by decide +kernel) (by decide +kernel) (by walk_at "m:noapp") (by walk_at "m:noapp")
    (by intro _; with_unfolding_all rfl) (by intro _; with_unfolding_all rfl) (by intro _; with_unfolding_all rfl) ?_) ?_
  · intro env h
    cases env
    dsimp only at h
    subst h
    kernel_rfl
  · refine ex_cons (st_wloop (ρ := trR p [] 0) (tr_loop h9 B M hp hc p.length 0 [] (by omega) (by simp)) (by unfold trR; walk_at "m:sub")) ?_
    unfold trR
    refine ex_cons (st_assert (Tst.cast (by walk_at "m:tst") (by simp))) ?_
    refine ex_ret (st_returnM ?_ (by decide +kernel))
    rw [List.drop_zero]
    walk_at "m:at"
theorem fn_tr {C : Cfg} {d : Nat} {J : Js} {f9 g : Addr} (h9 : Def C 9 "escape" f9) (hg : Def C 11 "_translate" g) (B : Blts C) (M : SpMap C) {p : List Nat} (hp : p.length ≤ 40) (hc : ∀ c ∈ p, c = 42 ∨ (47 ≤ c ∧ c ≤ 57)) :
    Fn C (d + 2) J g [.str p, .none, .str [46]] (.list ((p.foldl maskStep []).map pv)) :=
  fn_of ["pat", "STAR", "QUESTION_MARK"] hg.r (tr_body h9 B M hp hc) (fun us hu => by
    obtain ⟨u1, u2, u3, rfl⟩ := len3 hu
    intro doc pm an cdv ct; rfl) (by decide +kernel) (by decide +kernel) (by decide +kernel) (by decide +kernel) (by decide +kernel) (by decide +kernel)
end Mine

end
section
set_option Elab.async false
set_option maxRecDepth 100000

namespace Mine
theorem star_bind (u : Value) : ∀ vs : List Value, vs.length ≤ 8 → ∀ (doc : Value) (pm : Value) (an : Option Addr) (cdv ct : Value), bindArgs (fnOf (rec 25).name (rec 25).name (rec 25).params (rec 25).body (rec 25).scope .none .none doc pm an cdv ct) ⟨u :: vs, []⟩ = (newTuple vs >>= fun t => pure [(("a" : Str), u), (("p" : Str), t)])
  | [], _, _, _, _, _, _ => by kernel_rfl
  | [_], _, _, _, _, _, _ => by kernel_rfl
  | [_, _], _, _, _, _, _, _ => by kernel_rfl
  | [_, _, _], _, _, _, _, _, _ => by kernel_rfl
  | [_, _, _, _], _, _, _, _, _, _ => by kernel_rfl
  | [_, _, _, _, _], _, _, _, _, _, _ => by kernel_rfl
  | [_, _, _, _, _, _], _, _, _, _, _, _ => by kernel_rfl
  | [_, _, _, _, _, _, _], _, _, _, _, _, _ => by kernel_rfl
  | [_, _, _, _, _, _, _, _], _, _, _, _, _, _ => by kernel_rfl
  | _ :: _ :: _ :: _ :: _ :: _ :: _ :: _ :: _ :: _, h, _, _, _, _, _ => absurd h (by simp)
noncomputable def joinStep (path b : List Nat) : List Nat :=
  if (Txt.startswith (S b) (S [47]) || path.isEmpty) = true then b else if Txt.endswith (S path) (S [47]) = true then path ++ b else path ++ ([47] ++ b)
theorem joinStep_len (path b : List Nat) : (joinStep path b).length ≤ path.length + 1 + b.length := by
  unfold joinStep
  split
  · omega
  · split <;> simp <;> omega
noncomputable def joinR (pv : V) (path : List Nat) : Rho := [("a", .val (.str [47])), ("p", .val pv), ("sep", .val (.str [47])), ("path", .val (.str path))]
theorem join_loop {C : Cfg} {d : Nat} {J : Js} {f20 : Addr} (h20 : Def C 20 "fspath" f20) (B : Blts C) {pv : V} : ∀ (gs : List (List Nat)) (path : List Nat), (∀ g ∈ gs, g.length ≤ 10) → path.length + 20 * gs.length ≤ 1000 →
    Loop C (d + 1) J (rec 25).scope (bodyOf (nth (bodyOf (nth (rec 25).body 3)) 0)) "b" (joinR pv path) (gs.map V.str) (.next (joinR pv (gs.foldl joinStep path)))
  | [], path, _, _ => .done (by unfold joinR; walk_at "m:noapp")
  | b :: r, path, hg, hp => by
    have hb : b.length ≤ 10 := hg b List.mem_cons_self
    have hp' : path.length + 20 * (r.length + 1) ≤ 1000 := hp
    have hjl := joinStep_len path b
    have hg20 := h20.g
    have hr20 := h20.r
    refine .step (ρ' := joinR pv (joinStep path b)) (by unfold joinR; walk_at "m:noapp") ?_ (join_loop h20 B r (joinStep path b) (fun g h => hg g (List.mem_cons_of_mem _ h)) (by omega))
    unfold joinR
    rw [Put.eq (by walk_at "m:put")]
    refine ex_cons (st_set (v := .str b) ?_ (by walk_at "m:put") (by walk_at "m:loc") (by walk_at "m:noapp")) ?_
    · with_reducible refine' ev_call ?k1 ?k2 ?k3 ?k4
      case k1 => walk_at "m:glob"
      case k2 => assumption
      case k3 => walk_at "m:eva"
      case k4 => exact fn_fspath ⟨hg20, hr20⟩ B
    have hgo : ∀ q, q = joinStep path b → Ex C (d + 1) J (rec 25).scope [("a", .val (.str [47])), ("p", .val pv), ("sep", .val (.str [47])), ("path", .val (.str q)), ("b", .val (.str b))] []
        (.next [("a", .val (.str [47])), ("p", .val pv), ("sep", .val (.str [47])), ("path", .val (.str (joinStep path b))), ("b", .val (.str b))]) := fun q e => by subst e; exact ex_nil
    by_cases h1 : (Txt.startswith (S b) (S [47]) || path.isEmpty) = true
    · refine ex_cons (st_if (r := true) (o := .next [("a", .val (.str [47])), ("p", .val pv), ("sep", .val (.str [47])), ("path", .val (.str (joinStep path b))), ("b", .val (.str b))]) (Tst.cast (by walk_at "m:tst") (by simpa using h1)) (fun _ => ?_) fun e => absurd e (by decide)) (by walk_at "m:end")
      walk_at "m:set"
      exact hgo _ (by unfold joinStep; rw [if_pos h1])
    · refine ex_cons (st_if (r := false) (o := .next [("a", .val (.str [47])), ("p", .val pv), ("sep", .val (.str [47])), ("path", .val (.str (joinStep path b))), ("b", .val (.str b))]) (Tst.cast (by walk_at "m:tst") (by simpa using h1)) (fun e => absurd e (by decide)) fun _ => ?_) (by walk_at "m:end")
      by_cases h2 : Txt.endswith (S path) (S [47]) = true
      · refine ex_cons (st_if (r := true) (Tst.cast (by walk_at "m:tst") (by simpa using h2)) (fun _ => ?_) fun e => absurd e (by decide)) ex_nil
        walk_at "m:iadd"
        exact hgo _ (by unfold joinStep; rw [if_neg h1, if_pos h2])
      · refine ex_cons (st_if (r := false) (Tst.cast (by walk_at "m:tst") (by simpa using h2)) (fun e => absurd e (by decide)) fun _ => ?_) ex_nil
        walk_at "m:iadd"
        exact hgo _ (by unfold joinStep; rw [if_neg h1, if_neg h2])

theorem join_body {C : Cfg} {d : Nat} {J : Js} {f20 f24 : Addr} (h20 : Def C 20 "fspath" f20) (h24 : Def C 24 "_get_sep" f24) (B : Blts C) {gs : List (List Nat)} (hg : ∀ g ∈ gs, g.length ≤ 10) (hn : gs.length ≤ 8) :
    Ex C (d + 1) J (rec 25).scope [("a", .val (.str [47])), ("p", .val (.tup (gs.map V.str)))] (rec 25).body (.ret (.str (gs.foldl joinStep [47]))) := by
  have hg20 := h20.g
  have hr20 := h20.r
  have hg24 := h24.g
  have hr24 := h24.r
  refine ex_cons (st_set (v := .str [47]) ?_ (by walk_at "m:put") (by walk_at "m:loc") (by walk_at "m:noapp")) ?_
  · with_reducible refine' ev_call ?k1 ?k2 ?k3 ?k4
    case k1 => walk_at "m:glob"
    case k2 => exact hr20
    case k3 => walk_at "m:eva"
    case k4 => exact fn_fspath ⟨hg20, hr20⟩ B
  refine ex_cons (st_set (v := .str [47]) ?_ (by walk_at "m:put") (by walk_at "m:loc") (by walk_at "m:noapp")) ?_
  · with_reducible refine' ev_call ?k1 ?k2 ?k3 ?k4
    case k1 => walk_at "m:glob"
    case k2 => exact hr24
    case k3 => walk_at "m:eva"
    case k4 => exact fn_sep ⟨hg24, hr24⟩ B
  walk_at "m:set"
  refine ex_cons (st_try (o := .next (joinR (.tup (gs.map V.str)) (gs.foldl joinStep [47]))) ?_) ?_
  · refine ex_cons (st_loop (ρ := joinR (.tup (gs.map V.str)) [47]) (src_tup (xs := gs.map V.str) (by unfold joinR; walk_at "m:ev")) (by unfold joinR; walk_at "m:sub") (by walk_at "m:loc") (join_loop h20 B gs [47] hg (by simp; omega))) ex_nil
  · unfold joinR; walk_at "m:ret"
theorem fn_join {C : Cfg} {d : Nat} {J : Js} {f20 f24 g : Addr} (h20 : Def C 20 "fspath" f20) (h24 : Def C 24 "_get_sep" f24) (hgj : Def C 25 "join" g) (B : Blts C) {gs : List (List Nat)} (hg : ∀ g ∈ gs, g.length ≤ 10) (hn : gs.length ≤ 8) :
    Fn C (d + 2) J g (.str [47] :: gs.map V.str) (.str (gs.foldl joinStep [47])) :=
  fn_ofB (as' := [.str [47], .tup (gs.map V.str)]) ["a", "p"] hgj.r (join_body h20 h24 B hg hn) (fun mu s us A E Q rv low q doc pm an cdv ct => by
    obtain ⟨u, vs, rfl, r1, rs⟩ := rv
    have hl := rs.len
    rw [star_bind u vs (by rw [hl]; simpa using hn)]
    refine wpAny_bind (wpAny_newTuple (wpAny_pure ?_) (by rw [hl, sizeLine_eq]; simp; omega))
    have hk : HLe s.heap (s.heap.push { cls := .type "tuple", data := .seq vs.toArray }) := HLe.push _ _
    have hv : HLe (hideAll s.heap mu) (hideAll (s.heap.push { cls := .type "tuple", data := .seq vs.toArray }) mu) := hide_le fun b o _ e => hk b o e
    refine q [u, .ref s.heap.objs.size] _ ⟨u, _, rfl, RV.mono hv r1, _, _, rfl, ⟨_, vs, rfl, ⟨_, hideAll_get _ (Heap.get?_push_size _ rfl) fun q => ?_, rfl, 0, rfl⟩, RVs.mono hv rs⟩, rfl⟩ hk rfl rfl
    obtain ⟨o, e⟩ := low _ q
    exact absurd (Heap.lt_size e) (Nat.lt_irrefl _)) (by decide +kernel) (by decide +kernel) (by decide +kernel) (by decide +kernel) (by decide +kernel) (by decide +kernel)
end Mine

end
section
set_option Elab.async false
set_option maxRecDepth 100000
namespace Mine
theorem map_next : PySem.Slot "map" "__next__" "map.__next__" :=
  .of (owner := "map") (n := "__next__") (by rw [typeLookup_type, builtinLookup_eq_fast]; kernel_rfl) (by decide +kernel) (by decide +kernel) (by decide +kernel)
    (by first | exact .inl (by decide +kernel) | exact .inr (by decide +kernel)) (by rw [isSubtype_type]; kernel_rfl)
theorem map_next_entry : entryFor table "map.__next__" = some Builtin.«map.__next__» := entryFor_of_tree (by kernel_rfl)
theorem map_next_args (a : Value) : argsOk "map.__next__" ⟨[a], []⟩ := by unfold argsOk; kernel_rfl
theorem map_no_len : typeLookup (.type "map") "__len__" = pure none := by rw [typeLookup_type, builtinLookup_eq_fast]; kernel_rfl
theorem map_no_hint : typeLookup (.type "map") "__length_hint__" = pure none := by rw [typeLookup_type, builtinLookup_eq_fast]; kernel_rfl
/-- map(f, list) that stands at an item -/
structure MapAt (h : Heap) (m tp it l f : Addr) (i : Nat) (items : Array Value) : Prop where
  ob : h.get? m = some { cls := .type "map", dict := none, data := .fields #[.ref tp, .ref f], slots := #[] }
  tup : ∃ n, h.get? tp = some { cls := .type "tuple", data := .seq #[.ref it] n }
  iter : h.IsListIter it l i
  list : h.IsList l items
section
variable {prog : Program} {w : World} {A : Around} {E : Value → Shared → Prop} {s : Shared} {m tp it l f : Addr} {i : Nat} {items : Array Value}

theorem map_run {v : Value} {P : Value → Shared → Prop} (x : MapAt s.heap m tp it l f i items) (hv : items[i]? = some v)
    (h : ∀ h', h'.IsListIter it l (i + 1) → Heap.SameBut it s.heap h' → wpAny (model prog w) A (call (.ref f) [v]) P E { s with heap := h' }) :
    wpAny (model prog w) A (Builtin.«map.__next__» ⟨[.ref m], []⟩) (fun fin s' => ∃ v, fin = .done (.ret v) ∧ P v s') E s := by
  obtain ⟨hm, ⟨n, ht⟩, hit, hl⟩ := x
  have hne : tp ≠ it := fun e => by
    obtain ⟨o, ho, hc, _⟩ := hit
    rw [e, ho] at ht; cases ht; exact absurd (Value.type.inj hc) (by decide)
  have hne2 : m ≠ it := fun e => by
    obtain ⟨o, ho, hc, _⟩ := hit
    rw [e, ho] at hm; cases hm; exact absurd (Value.type.inj hc) (by decide)
  unfold Builtin.«map.__next__»
  refine wpAny_bind (m := slotArgs "__next__" 0 _) (wpAny_of_eq (a := (.ref m, [])) (by first | rfl | kernel_rfl) ?_)
  dsimp only
  refine wpAny_bind (wpAny_field hm rfl (x := .ref tp) rfl ?_)
  refine wpAny_bind (wpAny_seqItems ht rfl ?_)
  simp only [List.forIn_toArray, List.forIn_cons, List.forIn_nil]
  refine wpAny_bind ?_
  refine wpAny_bind (wpAny_bind (wpAny_holding (wpAny_nextOf_list_item hit hl hv fun h' hit' hs => ?_)))
  refine wpAny_pure (wpAny_pure ?_)
  have hm' : h'.get? m = some { cls := .type "map", dict := none, data := .fields #[.ref tp, .ref f], slots := #[] } := (hs.2 m hne2).trans hm
  refine wpAny_bind (wpAny_field hm' rfl (x := .ref f) rfl ?_)
  show wpAny _ _ (holding _ (call (.ref f) [v]) >>= _) _ _ _
  refine wpAny_bind (wpAny_holding (wpAny_mono (h h' hit' hs) (fun r s' hr => ?_) fun _ _ e => e))
  exact wpAny_bind (wpAny_letGo (wpAny_pure ⟨r, rfl, hr⟩))
theorem map_pyNext_item {v : Value} {Q : Option Value → Shared → Prop} (x : MapAt s.heap m tp it l f i items) (hv : items[i]? = some v)
    (h : ∀ h', h'.IsListIter it l (i + 1) → Heap.SameBut it s.heap h' → wpAny (model prog w) A.in1 (call (.ref f) [v]) (fun r s' => Q (some r) s') (fun _ _ => False) { s with heap := h' }) : wpAny (model prog w) A (pyNext (.ref m)) Q E s := by
  have hT : s.TypeIs (.ref m) "map" := ⟨_, x.ob, rfl⟩
  unfold pyNext
  refine wpAny_bind (wpAny_attempt (wpAny_callSpecial?_slot (name := Str.ofString "__next__") hT map_next
    (wpAny_call_entry map_next hT map_next_entry ?_ (map_next_args _))))
  exact wpAny_mono (map_run (P := fun r s' => Q (some r) s') x hv h) (fun fin s' ⟨v, e, q⟩ => ⟨v, e, wpAny_pure q⟩) (fun _ _ e => e.elim)
theorem map_pyNext_end {Q : Option Value → Shared → Prop} (hh : A.handled = none) (x : MapAt s.heap m tp it l f i items) (hv : items[i]? = none)
    (hQ : ∀ h', Heap.ExtBut it s.heap h' → Q none { s with heap := h' }) : wpAny (model prog w) A (pyNext (.ref m)) Q E s := by
  have hT : s.TypeIs (.ref m) "map" := ⟨_, x.ob, rfl⟩
  obtain ⟨n, ht⟩ := x.tup
  unfold pyNext
  refine wpAny_bind (wpAny_attempt (wpAny_callSpecial?_slot (name := Str.ofString "__next__") hT map_next
    (wpAny_call_entry map_next hT map_next_entry ?_ (map_next_args _))))
  unfold Builtin.«map.__next__»
  refine wpAny_bind (m := slotArgs "__next__" 0 _) (wpAny_of_eq (a := (.ref m, [])) (by first | rfl | kernel_rfl) ?_)
  dsimp only
  refine wpAny_bind (wpAny_field x.ob rfl (x := .ref tp) rfl ?_)
  refine wpAny_bind (wpAny_seqItems ht rfl ?_)
  simp only [List.forIn_toArray, List.forIn_cons, List.forIn_nil]
  refine wpAny_bind (wpAny_bind (wpAny_bind (wpAny_holding (wpAny_nextOf_list_end hh x.iter x.list hv fun h' e he' hx' => ?_))))
  obtain ⟨o, ho, hc⟩ := hx'
  refine wpAny_bind (wpAny_isInstance (T := "StopIteration") (b := true) ⟨o, ho, hc⟩ isSubtype_stop ?_)
  exact wpAny_pure (hQ _ he')
theorem MapAt.move {h h' : Heap} (x : MapAt h m tp it l f i items) (k : ∀ b, (b = m ∨ b = tp ∨ b = it ∨ b = l) → ∀ o, h.get? b = some o → h'.get? b = some o) : MapAt h' m tp it l f i items where
  ob := k _ (.inl rfl) _ x.ob
  tup := let ⟨n, e⟩ := x.tup; ⟨n, k _ (.inr (.inl rfl)) _ e⟩
  iter := let ⟨o, e, r⟩ := x.iter; ⟨o, k _ (.inr (.inr (.inl rfl))) _ e, r⟩
  list := let ⟨o, e, r⟩ := x.list; ⟨o, k _ (.inr (.inr (.inr rfl))) _ e, r⟩
/-- the list that grows by a map's items; step: what the call of the function does -/
theorem map_loop {S : Addr} {res : Value} {I : Nat → Shared → Array Value → Prop} {R : Result → Shared → Prop} (hh : A.handled = none) (hn : items.size ≤ sizeLine) (hS : S ≠ m ∧ S ≠ tp ∧ S ≠ it ∧ S ≠ l)
    (hI : ∀ i s s' acc, I i s acc → s'.gens = s.gens → s'.os = s.os → (∀ b o, b ≠ S → b ≠ it → s.heap.get? b = some o → s'.heap.get? b = some o) → I i s' acc)
    (step : ∀ i v (s : Shared) acc (Q : Value → Shared → Prop), items[i]? = some v → I i s acc → (∀ r s', HLe s.heap s'.heap → I (i + 1) s' (acc.push r) → Q r s') → wpAny (model prog w) A.in1.in1 (call (.ref f) [v]) Q (fun _ _ => False) s) :
    ∀ (k i : Nat) (s : Shared) (acc : Array Value) (c : Nat), items.size - i = k → i ≤ items.size → MapAt s.heap m tp it l f i items → I i s acc → acc.size = i → s.heap.get? S = some { cls := .type "list", dict := none, data := .seq acc c, slots := #[] } →
    (∀ s' acc' c', I items.size s' acc' → s'.heap.get? S = some { cls := .type "list", dict := none, data := .seq acc' c', slots := #[] } → R (.ok (.ret res)) s') →
    codeAny (model prog w) A (.builtin "list.extend.loop" ⟨[.ref S, .ref m, res], []⟩) R s := by
  intro k
  induction k with
  | zero =>
    intro i s acc c hk hi x hI₁ hacc hSo hR
    have hin : i = items.size := by omega
    subst hin
    refine codeAny_builtin F.entry_extend_loop ?_
    rw [Around.under_plainId F.plain_extend_loop _]
    show wpAny _ A.in1 (pyNext (.ref m) >>= _) _ _ s
    refine wpAny_bind (map_pyNext_end hh x (by simp) fun h' he => ?_)
    exact wpAny_pure (hR { s with heap := h' } acc c (hI _ s _ _ hI₁ rfl rfl fun b o _ hb e => he b o hb e) (he S _ hS.2.2.1 hSo))
  | succ k ih =>
    intro i s acc c hk hi x hI₁ hacc hSo hR
    have hlt : i < items.size := by omega
    have hv : items[i]? = some items[i] := by simp [hlt]
    refine codeAny_builtin F.entry_extend_loop ?_
    rw [Around.under_plainId F.plain_extend_loop _]
    show wpAny _ A.in1 (pyNext (.ref m) >>= _) _ _ s
    refine wpAny_bind (map_pyNext_item x hv fun h' hit' hs => ?_)
    have x' : MapAt h' m tp it l f (i + 1) items := by
      obtain ⟨n, ht⟩ := x.tup
      have hne : tp ≠ it := fun e => by
        obtain ⟨o, ho, hc, _⟩ := x.iter
        rw [e, ho] at ht; cases ht; exact absurd (Value.type.inj hc) (by decide)
      have hne2 : m ≠ it := fun e => by
        obtain ⟨o, ho, hc, _⟩ := x.iter
        have hm := x.ob
        rw [e, ho] at hm; cases hm; exact absurd (Value.type.inj hc) (by decide)
      have hne3 : l ≠ it := fun e => by
        obtain ⟨o, ho, hc, _⟩ := x.iter
        obtain ⟨o', ho', hc', _⟩ := x.list
        rw [e, ho] at ho'; cases ho'; rw [hc] at hc'; exact absurd (Value.type.inj hc') (by decide)
      exact ⟨(hs.2 m hne2).trans x.ob, ⟨n, (hs.2 tp hne).trans ht⟩, hit', let ⟨o, e, r⟩ := x.list; ⟨o, (hs.2 l hne3).trans e, r⟩⟩
    refine step i items[i] _ acc _ hv (hI _ s { s with heap := h' } _ hI₁ rfl rfl fun b o _ hb e => (hs.2 b hb).trans e) fun r s' hle hI' => ?_
    have hS' : s'.heap.get? S = some { cls := .type "list", dict := none, data := .seq acc c, slots := #[] } := hle _ _ ((hs.2 S hS.2.2.1).trans hSo)
    show wpAny _ A.in1 (updateSeq S (·.push r) >>= _) _ _ _
    refine wpAny_bind ?_
    refine wpAny_updateSeq hS' rfl (wpAny_pure ⟨plainId_quiet F.plain_extend_loop _, ih (i + 1) _ (acc.push r) _ (by omega) hlt
      ((x'.move fun b _ o e => hle b o e).move fun b hb o e => ?_) (hI _ s' _ _ hI' rfl rfl fun b o hb _ e => (Heap.get?_update_other _ _ (Ne.symm hb)).trans e) (by rw [Array.size_push, hacc]) (Heap.get?_update_self _ hS' rfl) hR⟩)
      (by rw [hacc]; omega) (by show (acc.push r).size ≤ sizeLine + 1; rw [Array.size_push, hacc]; omega)
    refine (Heap.get?_update_other _ _ fun q => ?_).trans e
    rcases hb with e | e | e | e
    · exact hS.1 (q.trans e)
    · exact hS.2.1 (q.trans e)
    · exact hS.2.2.1 (q.trans e)
    · exact hS.2.2.2 (q.trans e)
end
end Mine

end
section
open AutoSeq1 (wpAny_loadPart')
set_option Elab.async false
set_option maxRecDepth 100000
namespace Mine
theorem map_iter : PySem.Slot "map" "__iter__" "map.__iter__" :=
  .of (owner := "map") (n := "__iter__") (by rw [typeLookup_type, builtinLookup_eq_fast]; kernel_rfl) (by decide +kernel) (by decide +kernel) (by decide +kernel)
    (by first | exact .inl (by decide +kernel) | exact .inr (by decide +kernel)) (by rw [isSubtype_type]; kernel_rfl)
theorem map_iter_entry : entryFor table "map.__iter__" = some Builtin.«dict_keyiterator.__iter__» :=
  entryFor_alias (id' := "dict_keyiterator.__iter__") (by kernel_rfl) (by first | rfl | decide +kernel) (by decide +kernel) (by kernel_rfl)
theorem map_iter_args (a : Value) : argsOk "map.__iter__" ⟨[a], []⟩ := by unfold argsOk; kernel_rfl
theorem map_init : PySem.Slot "map" "__init__" "object.__init__" :=
  .of (owner := "object") (n := "__init__") (by rw [typeLookup_type, builtinLookup_eq_fast]; kernel_rfl) (by decide +kernel) (by decide +kernel) (by decide +kernel)
    (by first | exact .inl (by decide +kernel) | exact .inr (by decide +kernel)) (by rw [isSubtype_type]; kernel_rfl)
theorem mro_map : mroOf (.type "map") = pure [.type "map", .type "object"] := by rw [mroOf_type]; kernel_rfl
theorem lookup_map_new : typeLookup (.type "map") "__new__" = pure (some (.builtin "map.__new__")) := by rw [typeLookup_type, builtinLookup_eq_fast]; kernel_rfl
theorem called_map : TypeCalled "map" "map.__new__" "object.__init__" :=
  ⟨by decide +kernel, by decide +kernel, ⟨_, _, mro_map⟩, madeBy_type mro_map lookup_map_new (by decide +kernel), by decide +kernel, by rw [isSubtype_type]; kernel_rfl, map_init⟩
theorem typeCall_map (a b : Value) : checkTypeCall "map" ⟨[a, b], []⟩ = pure () := by kernel_rfl
theorem newCall_map (a b : Value) : checkBuiltinCall "map.__new__" ⟨[.type "map", a, b], []⟩ = pure () := by kernel_rfl
theorem entry_map_new : entryFor table "map.__new__" = some Builtin.«map.__new__» := entryFor_of_tree (by kernel_rfl)
theorem init_args3 (a b c : Value) : argsOk "object.__init__" ⟨[a, b, c], []⟩ := by unfold argsOk; kernel_rfl
theorem sub_map : isSubtype (.type "map") (.type "map") = pure true := by rw [isSubtype_type]; kernel_rfl
section
variable {prog : Program} {w : World} {A : Around} {E : Value → Shared → Prop} {s : Shared} {l f : Addr} {items : Array Value}

theorem map_new (n : Nat) (dct : Option Addr) (sl : Array (Option Value)) :
    Meets (Builtin.«map.__new__» ⟨[.type "map", .ref f, .ref l], []⟩) (fun _ R s => s.heap.get? l = some { cls := .type "list", dict := dct, data := .seq items n, slots := sl } ∧
      ∀ h', HLe s.heap h' → MapAt h' (s.heap.objs.size + 2) (s.heap.objs.size + 1) s.heap.objs.size l f 0 items → R (.ok (.ret (.ref (s.heap.objs.size + 2)))) { s with heap := h' }) :=
  .of_wp fun prog w A R s h => by
    obtain ⟨hp, g, d, tk, os⟩ := s; obtain ⟨hl, h⟩ := h
    have hsub := sub_map
    have hL : Heap.IsList (Shared.heap ⟨hp, g, d, tk, os⟩) l items := ⟨_, hl, rfl, n, rfl⟩
    unfold Builtin.«map.__new__»
    wp_walk using wpAny_loadPart' hl, wpAny_pyIter_list hL
    refine ⟨_, rfl, ?_⟩
    have hz1 : (hp.push { cls := .type "list_iterator", data := .fields #[.ref l, .int 0 0] }).objs.size = hp.objs.size + 1 := Heap.size_push ..
    have hz2 : ((hp.push { cls := .type "list_iterator", data := .fields #[.ref l, .int 0 0] }).push { cls := .type "tuple", data := .seq #[.ref hp.objs.size] }).objs.size = hp.objs.size + 2 := by rw [Heap.size_push, hz1]
    have e1 := Heap.get?_push_size hp (o := { cls := .type "list_iterator", data := .fields #[.ref l, .int 0 0] }) rfl
    have e2 := Heap.get?_push_size (hp.push { cls := .type "list_iterator", data := .fields #[.ref l, .int 0 0] }) (o := { cls := .type "tuple", data := .seq #[.ref hp.objs.size] }) rfl
    have e3 := Heap.get?_push_size ((hp.push { cls := .type "list_iterator", data := .fields #[.ref l, .int 0 0] }).push { cls := .type "tuple", data := .seq #[.ref hp.objs.size] }) (o := { cls := .type "map", data := .fields #[.ref (hp.objs.size + 1), .ref f] }) rfl
    rw [hz1] at e2
    rw [hz2] at e3
    show R (.ok (.ret (.ref ((hp.push { cls := .type "list_iterator", data := .fields #[.ref l, .int 0 0] }).push { cls := .type "tuple", data := .seq #[.ref hp.objs.size] }).objs.size)))
      ⟨((hp.push { cls := .type "list_iterator", data := .fields #[.ref l, .int 0 0] }).push { cls := .type "tuple", data := .seq #[.ref hp.objs.size] }).push
        { cls := .type "map", data := .fields #[.ref (hp.push { cls := .type "list_iterator", data := .fields #[.ref l, .int 0 0] }).objs.size, .ref f] }, g, d, tk, os⟩
    rw [hz2, hz1]
    exact h _ (fun b o e => Heap.get?_push_of_some _ (Heap.get?_push_of_some _ (Heap.get?_push_of_some _ e)))
      ⟨e3, ⟨0, Heap.get?_push_of_some _ e2⟩, ⟨_, Heap.get?_push_of_some _ (Heap.get?_push_of_some _ e1), rfl, rfl⟩, ⟨_, Heap.get?_push_of_some _ (Heap.get?_push_of_some _ (Heap.get?_push_of_some _ hl)), rfl, n, rfl⟩⟩
theorem call_map {Q : Value → Shared → Prop} (hL : s.heap.IsList l items)
    (h : ∀ h', HLe s.heap h' → MapAt h' (s.heap.objs.size + 2) (s.heap.objs.size + 1) s.heap.objs.size l f 0 items → Q (.ref (s.heap.objs.size + 2)) { s with heap := h' }) : wpAny (model prog w) A (call (.type "map") [.ref f, .ref l]) Q E s := by
  obtain ⟨⟨c, dct, dt, sl⟩, hl, hc, n, hd⟩ := hL
  replace hc : c = .type "list" := hc
  replace hd : dt = .seq items n := hd
  subst hc hd
  exact callType_new called_map (by decide) (typeCall_map _ _) (newCall_map _ _) (fun obj => init_args3 obj _ _) entry_map_new (map_new n dct sl) ⟨hl, fun h' hk x => ⟨⟨_, x.ob, rfl⟩, h h' hk x⟩⟩
theorem map_pyIter {m tp it : Addr} {i : Nat} {Q : Value → Shared → Prop} (x : MapAt s.heap m tp it l f i items) (h : Q (.ref m) s) : wpAny (model prog w) A (pyIter (.ref m)) Q E s := by
  have hT : s.TypeIs (.ref m) "map" := ⟨_, x.ob, rfl⟩
  refine wpAny_pyIter_slot hT map_iter (wpAny_call_entry map_iter hT map_iter_entry ?_ (map_iter_args _))
  show wpAny _ _ (ret (.ref m)) _ _ s
  exact wpAny_pure ⟨_, rfl, "map", _, hT, map_next.lookup, h⟩
end
end Mine

end
section
set_option Elab.async false
set_option maxRecDepth 100000
namespace Mine
section
variable {prog : Program} {w : World} {A : Around} {E : Value → Shared → Prop} {s : Shared} {m tp it l f : Addr} {items : Array Value}

theorem map_collect {Q : List Value → Shared → Prop} {I : Nat → Shared → Array Value → Prop} (hh : A.handled = none) (hn : items.size ≤ sizeLine) (x : MapAt s.heap m tp it l f 0 items)
    (hI0 : I 0 { s with heap := s.heap.push { cls := .type "list", data := .seq ([] : List Value).toArray } } #[])
    (hI : ∀ i s₁ s' acc, I i s₁ acc → s'.gens = s₁.gens → s'.os = s₁.os → (∀ b o, b ≠ s.heap.objs.size → b ≠ it → s₁.heap.get? b = some o → s'.heap.get? b = some o) → I i s' acc)
    (step : ∀ i v (s : Shared) acc (Q : Value → Shared → Prop), items[i]? = some v → I i s acc → (∀ r s', HLe s.heap s'.heap → I (i + 1) s' (acc.push r) → Q r s') → wpAny (model prog w) A.in1.in1 (call (.ref f) [v]) Q (fun _ _ => False) s)
    (hQ : ∀ s' acc, I items.size s' acc → Q acc.toList s') : wpAny (model prog w) A (collect (.ref m)) Q E s := by
  obtain ⟨nt, htp⟩ := x.tup
  have lt : ∀ {b o}, s.heap.get? b = some o → s.heap.objs.size ≠ b := fun e => Nat.ne_of_gt (Heap.lt_size e)
  have hSm : s.heap.objs.size ≠ m := lt x.ob
  have hSt : s.heap.objs.size ≠ tp := lt htp
  have hSi : s.heap.objs.size ≠ it := by obtain ⟨o, e, _⟩ := x.iter; exact lt e
  have hSl : s.heap.objs.size ≠ l := by obtain ⟨o, e, _⟩ := x.list; exact lt e
  unfold collect
  refine wpAny_bind (wpAny_runValue (codeAny_builtin F.entry_proto_collect ?_))
  rw [Around.under_plainId F.plain_proto_collect _]
  show wpAny _ A.in1 (newList [] >>= fun l => again (.builtin "list.__iadd__" ⟨[l, .ref m], []⟩)) _ _ s
  refine wpAny_bind (wpAny_newObj_type ?_)
  refine wpAny_pure ⟨plainId_quiet F.plain_list_iadd _, codeAny_builtin F.entry_list_iadd ?_⟩
  rw [Around.under_plainId F.plain_list_iadd _]
  have x₁ : MapAt (s.heap.push { cls := .type "list", data := .seq ([] : List Value).toArray }) m tp it l f 0 items := x.move fun b _ o e => Heap.get?_push_of_some _ e
  have hT : ({ s with heap := s.heap.push { cls := .type "list", data := .seq ([] : List Value).toArray } } : Shared).TypeIs (.ref m) "map" := ⟨_, x₁.ob, rfl⟩
  show wpAny _ A.in1 (Builtin.List.listExtendWith (.ref s.heap.objs.size) (.ref m) (.ref s.heap.objs.size)) _ _ _
  unfold Builtin.List.listExtendWith
  refine wpAny_bind (wpAny_typeOf hT ?_)
  have h1 : Builtin.List.listSameRef (.ref s.heap.objs.size) (.ref m) = false := by simp [Builtin.List.listSameRef, hSm]
  have h2 : (Value.type "map" == Value.type "list") = false := by decide
  have h3 : (Value.type "map" == Value.type "tuple") = false := by decide
  simp only [h1, h2, h3, Bool.or_false, Bool.false_eq_true, if_false]
  refine wpAny_bind (map_pyIter x₁ ?_)
  refine wpAny_bind (wpAny_holding ?_)
  unfold Builtin.List.listLengthHint
  refine wpAny_bind (wpAny_specialOf hT map_no_len ?_)
  show wpAny _ A.in1 (specialOf (Value.ref m) (Str.ofString "__length_hint__") >>= _) _ _ _
  refine wpAny_bind (wpAny_specialOf hT map_no_hint ?_)
  refine wpAny_pure ?_
  show wpAny _ A.in1 (rule "list.extend.makes-room" >>= fun _ => Builtin.List.listTouch (.ref s.heap.objs.size) >>= fun _ =>
    again (.builtin "list.extend.loop" ⟨[.ref s.heap.objs.size, .ref m, .ref s.heap.objs.size], []⟩)) _ _ _
  refine wpAny_bind (wpAny_rule ?_)
  have hS₁ : (s.heap.push { cls := .type "list", data := .seq ([] : List Value).toArray }).get? s.heap.objs.size = some { cls := .type "list", data := .seq ([] : List Value).toArray } := Heap.get?_push_size _ rfl
  refine wpAny_bind ?_
  show wpAny _ A.in1 (updateSeq s.heap.objs.size (·.push .none) >>= fun _ => updateSeq s.heap.objs.size (·.pop)) _ _ _
  refine wpAny_bind (wpAny_updateSeq hS₁ rfl ?_)
  have hS₂ := Heap.get?_update_self (Obj.mapSeq (·.push Value.none)) hS₁ rfl
  refine wpAny_updateSeq hS₂ rfl ?_
  have hS₃ := Heap.get?_update_self (Obj.mapSeq (·.pop)) hS₂ rfl
  have oth : ∀ b o, b ≠ s.heap.objs.size → (s.heap.push { cls := .type "list", data := .seq ([] : List Value).toArray }).get? b = some o →
      (((s.heap.push { cls := .type "list", data := .seq ([] : List Value).toArray }).update s.heap.objs.size (Obj.mapSeq (·.push Value.none))).update s.heap.objs.size (Obj.mapSeq (·.pop))).get? b = some o :=
    fun b o hb e => (Heap.get?_update_other _ _ (Ne.symm hb)).trans ((Heap.get?_update_other _ _ (Ne.symm hb)).trans e)
  refine wpAny_pure ⟨plainId_quiet F.plain_extend_loop _, map_loop (S := s.heap.objs.size) (I := I) hh hn ⟨hSm, hSt, hSi, hSl⟩ hI step items.size 0 _ #[] _ rfl (Nat.zero_le _)
    (x₁.move fun b hb o e => oth b o (fun q => ?_) e) (hI 0 _ _ _ hI0 rfl rfl fun b o hb _ e => oth b o hb e) rfl hS₃ fun s' acc' c' hI' hS' => ?_⟩
  · rcases hb with e | e | e | e
    · exact hSm (q.symm.trans e)
    · exact hSt (q.symm.trans e)
    · exact hSi (q.symm.trans e)
    · exact hSl (q.symm.trans e)
  · show wpAny _ A (load s.heap.objs.size >>= _) _ _ s'
    refine wpAny_bind (wpAny_load hS' ?_)
    exact wpAny_pure (hQ s' acc' hI')
theorem tuple_map {Q : Value → Shared → Prop} {I : Nat → Shared → Array Value → Prop} (hh : A.handled = none) (hn : items.size ≤ sizeLine) (x : MapAt s.heap m tp it l f 0 items)
    (hI0 : I 0 { s with heap := s.heap.push { cls := .type "list", data := .seq ([] : List Value).toArray } } #[])
    (hI : ∀ i s₁ s' acc, I i s₁ acc → s'.gens = s₁.gens → s'.os = s₁.os → (∀ b o, b ≠ s.heap.objs.size → b ≠ it → s₁.heap.get? b = some o → s'.heap.get? b = some o) → I i s' acc)
    (step : ∀ i v (s : Shared) acc (Q : Value → Shared → Prop), items[i]? = some v → I i s acc → (∀ r s', HLe s.heap s'.heap → I (i + 1) s' (acc.push r) → Q r s') → wpAny (model prog w) A.in1.in1.in1.in1 (call (.ref f) [v]) Q (fun _ _ => False) s)
    (hz : ∀ s acc, I items.size s acc → acc.size ≤ sizeLine)
    (hQ : ∀ s' acc, I items.size s' acc → Q (.ref s'.heap.objs.size) { s' with heap := s'.heap.push { cls := .type "tuple", data := .seq acc } }) : wpAny (model prog w) A (call (.type "tuple") [.ref m]) Q E s := by
  refine callType_codes (Q₁ := fun obj s₁ => s₁.TypeIs obj "tuple" ∧ Q obj s₁) F.called_tuple (F.typeCall_tuple_1 _) F.entry_object_init ?_ fun obj s₁ h₁ => ?_
  · refine codeAny_of_tree ?_
    show wpAny _ A.in1.in1 (do checkBuiltinCall "tuple.__new__" ⟨[.type "tuple", .ref m], []⟩; again (.builtin "tuple.__new__" ⟨[.type "tuple", .ref m], []⟩)) _ _ s
    refine wpAny_bind (wpAny_of_eq (F.newCall_tuple_1 _) (wpAny_pure ⟨plainId_quiet F.plain_tuple_new _, codeAny_builtin F.entry_tuple_new ?_⟩))
    rw [Around.under_plainId F.plain_tuple_new _]
    have hsub := sub_tuple_self
    have hinit := init_tuple_lookup
    have hmh := madeHere_tuple
    have hTI : s.TypeIs (.ref m) "map" := ⟨_, x.ob, rfl⟩
    have hh2 : A.in1.in1.handled = none := hh
    wp_walk using wpAny_typeOf hTI, map_collect (I := I) (A := A.in1.in1) hh2 hn x hI0 hI step
    intro s' acc hacc
    show wpAny _ _ (Builtin.Tuple.tupleExact acc.toList.toArray >>= fun v => ret v) _ _ _
    unfold Builtin.Tuple.tupleExact
    refine wpAny_bind (wpAny_newObj_type ?_ (by show acc.toList.toArray.size ≤ sizeLine; simp only [Array.toArray_toList]; exact hz _ _ hacc))
    refine wpAny_pure ?_
    have e : acc.toList.toArray = acc := by simp
    rw [e]
    exact ⟨⟨_, Heap.get?_push_size _ rfl, rfl⟩, hQ s' acc hacc⟩
  · exact ⟨h₁.1, F.args_object_init_2 obj _, object_init_meets F.called_tuple.init.lookup F.called_tuple.made (by decide) prog w A.in1 _ s₁ ⟨h₁.1, rfl, h₁.2⟩⟩
end
end Mine

end
section
set_option Elab.async false
set_option maxRecDepth 100000
namespace Mine
section
variable {C : Cfg} {d : Nat} {J : Js} {T : Scope} {ρ : Rho}
theorem ev_tupleMap {p1 p2 q1 q2 : Pos} {yt ym : Str} {ef el : Expr} {f : Addr} {r : FnRec} {ls : List (List Nat)} (hT : Ev C (d + 4) J T ρ (.Name yt q1) (.const (.type "tuple"))) (hM : Ev C (d + 4) J T ρ (.Name ym q2) (.const (.type "map")))
    (hr : C.fn f = some r) (ha : EvA C (d + 4) J T ρ p1 [ef, el] [.const (.ref f), .list (ls.map .str)]) (hn : ls.length ≤ 1000) (hf : ∀ l ∈ ls, Fn C d J f [.str l] (.str l))
    (he : ∀ env, starEach [ef, el] env = (false, eval ef env) :: starEach [el] env := by intro _; with_unfolding_all rfl) (hp : ∀ env, (backTo p1 (starEach [el] env)).any (·.1) = false := by intro _; with_unfolding_all rfl) :
    Ev C (d + 4) J T ρ (.Call (.Name yt q1) [.Call (.Name ym q2) [ef, el] [] p1] [] p2) (.tup (ls.map .str)) :=
  fun c A s Q E hJ k bs cn x q => by
    refine wpAny_Call_Name_kw (wpAny_mono (hT.use hJ k bs cn x) (fun u s₁ ⟨x₁, p₁, r₁⟩ => ?_) fun _ _ e => e)
    have r₁ : u = .type "tuple" := r₁
    subst r₁
    refine callWith_type1 (spliced_cons ?_) rfl rfl
    refine wpAny_Call_Name_kw (wpAny_mono (hM.use hJ k bs cn x₁) (fun u s₂ ⟨x₂, p₂, r₂⟩ => ?_) fun _ _ e => e)
    have r₂ : u = .type "map" := r₂
    subst r₂
    refine callWith_type1 (wpAny_mono (ha.use hJ k bs cn x₂) (fun us s₃ ⟨x₃, p₃, r₃⟩ => ?_) fun _ _ e => e) (he _) (hp _)
    obtain ⟨u1, u2, rfl, e1, a, ws, rfl, pl, rs⟩ := rvs2 r₃
    have e1 : u1 = .ref f := e1
    subst e1
    have hl := rs.len
    refine call_map (isList_of pl) fun h' hk xm => spliced_nil ?_
    have k₃ : HLe c.h₀ s₃.heap := x₃.keep
    let I : Nat → Shared → Array Value → Prop := fun i s' acc => HLe s₃.heap s'.heap ∧ J s'.gens s'.os ∧ acc.size = i ∧ ∀ (j : Nat) (u : Value), acc[j]? = some u → ∃ t, u = Value.str (S (ls.getD j [])) t
    refine tuple_map (I := I) cn.hh (by rw [sizeLine_eq]; simp [hl]; omega) xm ⟨fun b o e => Heap.get?_push_of_some _ (hk b o e), by rw [← hJ]; exact x₃.j, rfl, fun j u e => by simp at e⟩ (fun i s₁ s' acc hi hg ho hb => ?_) (fun i v s acc Q hv hi q2 => ?_) (fun s acc hi => ?_) fun s' acc hi => ?_
    · obtain ⟨h1, h2, h3, h4⟩ := hi
      refine ⟨fun b o e => hb b o (fun q => ?_) (fun q => ?_) (h1 b o e), by rw [hg, ho]; exact h2, h3, h4⟩
      · have h8 := Heap.lt_size (hk b o e)
        have h9 : b = h'.objs.size := q
        rw [h9] at h8; exact Nat.lt_irrefl _ h8
      · have h8 := Heap.lt_size e
        have h9 : b = s₃.heap.objs.size := q
        rw [h9] at h8; exact Nat.lt_irrefl _ h8
    · obtain ⟨h1, h2, h3, h4⟩ := hi
      have hv' : ws[i]? = some v := by simpa using hv
      have hi' : i < ws.length := by rw [List.getElem?_eq_some_iff] at hv'; exact hv'.1
      have hi2 : i < ls.length := by rw [hl] at hi'; simpa using hi'
      obtain ⟨w, hw, rw'⟩ := rs.get i (.str ls[i]) (by simp [hi2])
      rw [hv'] at hw; cases hw
      have hbase : C.Base (hideAll s.heap c.mu) := bs.keeps (hide_le fun b o _ e => h1 b o (k₃ b o e))
      refine hf ls[i] (List.getElem_mem hi2) c.mu _ s [v] Q _ hbase h2 (fun b hb => let ⟨o, e⟩ := x₃.low b hb; ⟨o, h1 b o e⟩) cn.in1.in1.in1.in1 ⟨v, [], rfl, RV.mono (hide_le fun b o _ e => h1 b o e) rw', rfl⟩ fun u s' hle j rv => q2 u s' hle ⟨h1.trans hle, j, by rw [Array.size_push, h3], fun jx u' e => ?_⟩
      obtain ⟨t, rfl⟩ := rv
      rw [Array.getElem?_push] at e
      split at e
      · rename_i hj
        cases e
        refine ⟨t, ?_⟩
        rw [hj, h3]
        simp [List.getD, hi2]
      · exact h4 jx u' e
    · obtain ⟨h1, h2, h3, h4⟩ := hi
      rw [h3, sizeLine_eq]; simp [hl]; omega
    · obtain ⟨h1, h2, h3, h4⟩ := hi
      have h3' : acc.size = ls.length := by rw [h3]; simp [hl]
      have x4 : St c ρ s' := x₃.grow' h1 (by rw [hJ]; exact h2)
      have pst : Stp c s s' := ((p₁.trans p₂).trans p₃).trans ⟨h1, by rw [hJ]; exact h2⟩
      have hrv : ∀ (ys : List (List Nat)) (us : List Value), us.length = ys.length → (∀ (j : Nat) (u : Value), us[j]? = some u → ∃ t, u = Value.str (S (ys.getD j [])) t) → ∀ h, RVs h (ys.map V.str) us := by
        intro ys
        induction ys with
        | nil => intro us hu _ h; exact List.length_eq_zero_iff.mp hu
        | cons y r ih =>
          intro us hu hj h
          cases us with
          | nil => simp at hu
          | cons u us =>
            obtain ⟨t, e⟩ := hj 0 u rfl
            exact ⟨u, us, rfl, ⟨t, by simpa using e⟩, ih us (by simpa using hu) (fun j u' e => by simpa using hj (j + 1) u' (by simpa using e)) h⟩
      refine q _ _ (pst.trans (x4.spush _ _)) ⟨s'.heap.objs.size, acc.toList, rfl, ⟨_, x4.see _ rfl, rfl, 0, ?_⟩, hrv ls acc.toList (by simpa using h3') (fun j u e => h4 j u (by simpa using e)) _⟩
      simp
end
end Mine

end
section
set_option Elab.async false
set_option maxRecDepth 100000
namespace Mine
noncomputable def isTru : Unit → Value → Bool
  | _, .bool true => true
  | _, _ => false
theorem isTru_shape {k : Unit} {v : Value} (h : isTru k v = true) : v = .bool true := by
  unfold isTru at h
  split at h
  · rfl
  · cases h
theorem tru_hash {prog : Program} {w : World} {A : Around} {E : Value → Shared → Prop} {s : Shared} {Q : Int → Shared → Prop} (h : Q 1 { s with toks := s.toks + 1 }) : wpAny (model prog w) A (pyHash (.bool true)) Q E s := by
  obtain ⟨hp, g, d, tk, os⟩ := s
  have hT : (⟨hp, g, d, tk, os⟩ : Shared).TypeIs (.bool true) "bool" := rfl
  unfold pyHash
  have hv : [Value.bool true].any Value.onHeap = false := rfl
  refine wpAny_bind ?_
  rw [cRoomFor, if_neg (by rw [hv]; exact Bool.false_ne_true)]; refine wpAny_pure ?_
  refine wpAny_bind (wpAny_specialOf hT PySem.F.slot_bool_hash.lookup ?_)
  show wpAny _ _ (if (some (Value.builtin "int.__hash__") == some Value.none) = true then _ else _) Q E _
  rw [if_neg (by decide)]
  refine wpAny_bind (wpAny_specialOf hT PySem.F.slot_bool_hash.lookup ?_)
  show wpAny _ _ (callSpecialIfBoundUnlessNone? (.bool true) "__hash__" _ >>= _) Q E _
  refine wpAny_bind (wpAny_callSpecialIfBoundUnlessNone?_slot hT PySem.F.slot_bool_hash
    (wpAny_call_entry PySem.F.slot_bool_hash hT PySem.F.entry_int_hash
      (show wpAny _ _ (do ret (← mkInt 1)) _ _ _ from wpAny_ret_mkInt ?_) (PySem.F.args_int_hash_1 _)))
  show wpAny _ _ (if (decide (-(2 : Int) ^ 63 ≤ 1) && decide ((1 : Int) < 2 ^ 63)) = true then _ else _) Q E _
  rw [if_pos (by decide)]
  exact wpAny_pure h
theorem tru_eq {prog : Program} {w : World} {A : Around} {E : Value → Shared → Prop} {s : Shared} {Q : Bool → Shared → Prop} {a b : Unit} {u v : Value} (hu : u = .bool true) (hv : v = .bool true) (h : Q (decide (a = b)) s) : wpAny (model prog w) A (eqBool u v) Q E s := by
  subst hu hv
  unfold eqBool
  refine wpAny_holding ?_
  rw [if_pos (by decide)]
  exact wpAny_bind (wpAny_rule (wpAny_pure (by simpa using h)))
/-- the key True -/
noncomputable def truKind (prog : Program) (w : World) : KeyKind prog w Unit where
  is := isTru
  hash := fun _ => 1
  inj := fun _ _ _ _ _ => rfl
  byValue := fun k v h => by rw [isTru_shape h]; rfl
  pyHash := fun hv h => by rw [isTru_shape hv]; exact tru_hash h
  eqBool := fun hu hv h => tru_eq (isTru_shape hu) (isTru_shape hv) h
  «strs» := fun k x t v h => by have := isTru_shape h; cases this
end Mine

end
section
set_option Elab.async false
set_option maxRecDepth 100000
namespace Mine
theorem turn_set (elt target iter : Expr) (scope : Scope) (pos : Pos) (it acc : Value) (env : Env) :
    compTurn (.SetComp elt [⟨target, iter, [], 0⟩] scope pos) 0 it acc env = (standAt iter.pos >>= fun _ => pyNext it >>= fun r => match r with
      | none => pure (.done .next)
      | some v => letOwnedTupleGo target it v >>= fun _ => assign target env v >>= fun _ =>
        (eval elt env >>= fun x => standAt elt.pos >>= fun _ => call (.builtin "set.add") [acc, x] >>= fun _ => pure ()) >>= fun _ =>
          again (.compLoop (.SetComp elt [⟨target, iter, [], 0⟩] scope pos) 0 it acc env)) := by rfl
section
variable {prog : Program} {w : World} {A : Around} {R : Result → Shared → Prop} {s : Shared}
theorem loop_set {elt target iter : Expr} {scope : Scope} {pos : Pos} {it acc : Value} {env : Env} (I : Nat → Shared → Prop)
    (turn : ∀ n s, I n s → wpAny (model prog w) A (pyNext it) (fun r s₁ => match r with
      | none => R (.ok .next) s₁
      | some v => wpAny (model prog w) A (assign target env v) (fun _ s₂ => wpAny (model prog w) A (eval elt env) (fun x s₃ =>
          wpAny (model prog w) A (call (.builtin "set.add") [acc, x]) (fun _ s₄ => ∃ m, m < n ∧ I m s₄) (notedBy (model prog w) A env fun e s' => R (.error e) s') s₃)
          (notedBy (model prog w) A env fun e s' => R (.error e) s') s₂) (notedBy (model prog w) A env fun e s' => R (.error e) s') s₁) (notedBy (model prog w) A env fun e s' => R (.error e) s') s)
    (n : Nat) (h : I n s) (ht : ∀ v, letOwnedTupleGo target it v = pure () := by intro _; rfl) :
    codeAny (model prog w) A (.compLoop (.SetComp elt [⟨target, iter, [], 0⟩] scope pos) 0 it acc env) R s := by
  refine codeAny_loop rfl I (fun n s hI => ?_) n h
  show wpAny _ _ ((compTurn (.SetComp elt [⟨target, iter, [], 0⟩] scope pos) 0 it acc env).onRaise (fun x => do noteFrame x env; theTreesLotGoes x)) _ _ s
  refine wpAny_noted ?_
  rw [turn_set]
  refine wpAny_bind (wpAny_standAt (wpAny_bind (wpAny_mono (turn n s hI) (fun r s₁ h₁ => ?_) fun _ _ h' => h')))
  cases r with
  | none => exact wpAny_pure h₁
  | some v =>
    refine wpAny_bind (wpAny_of_eq (ht v) ?_)
    refine wpAny_bind (wpAny_mono h₁ (fun _ s₂ h₂ => ?_) fun _ _ h' => h')
    refine wpAny_bind (wpAny_bind (wpAny_mono h₂ (fun x s₃ h₃ => wpAny_bind (wpAny_standAt (wpAny_bind (wpAny_mono h₃ (fun _ s₄ h₄ => wpAny_pure (wpAny_pure ⟨rfl, h₄⟩)) fun _ _ h' => h')))) fun _ _ h' => h'))
theorem start_set {elt target iter ifs rest scope pos it acc env}
    (h0 : codeAny (model prog w) A (.compLoop (.SetComp elt (⟨target, iter, ifs, 0⟩ :: rest) scope pos) 0 it acc env) R s)
    (h : wpAny (model prog w) A (pyIter it) (fun it' s' => codeAny (model prog w) A (.compLoop (.SetComp elt (⟨target, iter, ifs, 0⟩ :: rest) scope pos) 0 it' acc env) R s')
      (notedBy (model prog w) A env fun x s' => R (.error x) s') s) :
    codeAny (model prog w) A (.compStart (.SetComp elt (⟨target, iter, ifs, 0⟩ :: rest) scope pos) 0 it acc env) R s := by
  refine codeAny_of_tree ?_
  show wpAny _ _ ((compStart (.SetComp elt (⟨target, iter, ifs, 0⟩ :: rest) scope pos) 0 it acc env).onRaise (fun x => do noteFrame x env; standAt theWindowsPlace)) _ _ s
  refine wpAny_notedAt ?_
  unfold compStart
  show wpAny _ _ (ask >>= _) _ _ s
  refine wpAny_bind (wpAny_askSetting (wpAny_ite ?_))
  split
  · first
      | exact wpAny_bind (wpAny_pure (wpAny_pure (And.intro rfl h0)))
      | exact wpAny_pure (And.intro rfl h0)
  · refine wpAny_bind (wpAny_rule ?_)
    show wpAny _ _ (standAt iter.pos >>= _) _ _ s
    exact wpAny_bind (wpAny_standAt (wpAny_bind (wpAny_mono h (fun it' s' h' => wpAny_pure (And.intro rfl h')) fun _ _ x => x)))
end
end Mine

end
section
set_option Elab.async false
set_option maxRecDepth 100000
namespace Mine
noncomputable def tabOf (led : Bool) : SetTable := (layNew (.fresh 0 0 led) #[] 1 (.bool true)).2.1
noncomputable def set0 (led : Bool) : Obj := { cls := .type "set", dict := none, data := .set #[] 0 (.fresh 0 0 led), slots := #[] }
theorem lay_tru (led : Bool) : layNew (.fresh 0 0 led) #[] 1 (.bool true) = (#[(1, .bool true)], tabOf led, false, false) := by cases led <;> decide +kernel
theorem tab_led (led : Bool) : (tabOf led).led = led := by cases led <;> decide +kernel
theorem tab_fits (led : Bool) : (tabOf led).fits 1 = true := by cases led <;> decide +kernel
theorem tab_full (led : Bool) : (tabOf led).tooFull = false := by cases led <;> decide +kernel
theorem tab_place (led : Bool) : (tabOf led).place = #[1] := by cases led <;> decide +kernel
theorem tab_plain (led : Bool) : (tabOf led).plain = true := by cases led <;> decide +kernel
noncomputable def set1 (led : Bool) : Obj := { cls := .type "set", dict := none, data := .set #[(1, .bool true)] 1 (tabOf led), slots := #[] }
section
variable {prog : Program} {w : World} {A : Around} {E : Value → Shared → Prop} {s : Shared} {a : Addr} {led : Bool}
theorem hashed_first {Q : Bool → Shared → Prop} (ho : s.heap.get? a = some (set0 led)) (h : ∀ h', h'.get? a = some (set1 led) → Heap.SameBut a s.heap h' → Q true { s with heap := h' }) :
    wpAny (model prog w) A (setAddHashed a (.bool true) 1) Q E s := by
  have hel : ElemsOf (truKind prog w) (#[] : Array (Int × Value)).toList := fun e he => by simp at he
  have hfit0 : (SetTable.fresh 0 0 led).fits (#[] : Array (Int × Value)).size = true := by rfl
  unfold setAddHashed setAddHashedIn
  refine wpAny_holding (wpAny_bind (wpAny_setState_of ho rfl hfit0 ?_))
  dsimp only
  rw [byScan_of (knd := truKind prog w) (by rfl) (by decide) hel]
  simp only [↓reduceIte]
  unfold setAddByScan
  refine wpAny_bind ?_
  refine wpAny_bind (wpAny_rule ?_)
  refine wpAny_bind (wpAny_setScan_of (knd := truKind prog w) (k := ()) (by rfl) ho rfl hfit0 hel ?_)
  simp only [List.findIdx?_nil]
  rw [lay_tru]
  dsimp only
  refine wpAny_bind (wpAny_of_eq (a := ()) (by rfl) ?_)
  rw [tab_plain, if_pos rfl]
  refine wpAny_bind (wpAny_of_eq (a := true) (by rfl) ?_)
  simp only [if_true, tab_full, Bool.not_false, Bool.true_and, Bool.and_false, Bool.false_eq_true, if_false]
  refine wpAny_bind (wpAny_storeSet_of ho rfl ?_ (by rw [sizeLine_eq]; decide))
  refine wpAny_pure ?_
  dsimp only
  refine wpAny_pure (h _ ?_ (Heap.SameBut.update ..))
  rw [Heap.get?_update_self _ ho (by rfl)]
  rfl
theorem hashed_again {Q : Bool → Shared → Prop} (ho : s.heap.get? a = some (set1 led)) (h : Q false s) : wpAny (model prog w) A (setAddHashed a (.bool true) 1) Q E s := by
  have hel : ElemsOf (truKind prog w) (#[(1, .bool true)] : Array (Int × Value)).toList := fun e he => by
    have : e = (1, .bool true) := by simpa using he
    subst this
    exact ⟨⟨(), rfl, rfl⟩, rfl⟩
  have hfit1 : (tabOf led).fits (#[(1, .bool true)] : Array (Int × Value)).size = true := tab_fits led
  unfold setAddHashed setAddHashedIn
  refine wpAny_holding (wpAny_bind (wpAny_setState_of ho rfl hfit1 ?_))
  dsimp only
  rw [byScan_of (knd := truKind prog w) (by rfl) (by decide) hel]
  simp only [↓reduceIte]
  unfold setAddByScan
  refine wpAny_bind ?_
  refine wpAny_bind (wpAny_rule ?_)
  refine wpAny_bind (wpAny_setScan_of (knd := truKind prog w) (k := ()) (by rfl) ho rfl hfit1 hel ?_)
  rw [show List.findIdx? (fun e : Int × Value => (truKind prog w).is () e.2) (#[(1, Value.bool true)] : Array (Int × Value)).toList = some 0 by rfl]
  dsimp only
  exact wpAny_pure (wpAny_pure h)
theorem add_first {Q : Value → Shared → Prop} (ho : s.heap.get? a = some (set0 led)) (h : ∀ h' tk, h'.get? a = some (set1 led) → Heap.SameBut a s.heap h' → Q .none { s with heap := h', toks := tk }) :
    wpAny (model prog w) A (call (.builtin "set.add") [.ref a, .bool true]) Q E s := by
  have hT : s.TypeIs (.ref a) "set" := ⟨_, ho, rfl⟩
  refine wpAny_call_entry F.slot_set_add hT F.entry_set_add ?_ (F.args_set_add_2 _ _)
  unfold Builtin.«set.add» Builtin.Frozenset.oneOther
  simp only [List.isEmpty_nil, bind_assoc]
  unfold Builtin.Frozenset.addrOf setAdd
  refine wpAny_bind (wpAny_pure ?_)
  try dsimp only
  refine wpAny_bind (wpAny_pure ?_)
  try dsimp only
  refine wpAny_bind ?_
  refine wpAny_holding ?_
  refine wpAny_bind (tru_hash ?_)
  refine hashed_first (s := { s with toks := s.toks + 1 }) ho fun h' h1 hs => ?_
  show wpAny _ _ (ret Value.none) _ _ _
  exact wpAny_pure ⟨_, rfl, h h' _ h1 hs⟩
theorem add_again {Q : Value → Shared → Prop} (ho : s.heap.get? a = some (set1 led)) (h : ∀ tk, Q .none { s with toks := tk }) :
    wpAny (model prog w) A (call (.builtin "set.add") [.ref a, .bool true]) Q E s := by
  have hT : s.TypeIs (.ref a) "set" := ⟨_, ho, rfl⟩
  refine wpAny_call_entry F.slot_set_add hT F.entry_set_add ?_ (F.args_set_add_2 _ _)
  unfold Builtin.«set.add» Builtin.Frozenset.oneOther
  simp only [List.isEmpty_nil, bind_assoc]
  unfold Builtin.Frozenset.addrOf setAdd
  refine wpAny_bind (wpAny_pure ?_)
  try dsimp only
  refine wpAny_bind (wpAny_pure ?_)
  try dsimp only
  refine wpAny_bind ?_
  refine wpAny_holding ?_
  refine wpAny_bind (tru_hash ?_)
  refine hashed_again (s := { s with toks := s.toks + 1 }) ho ?_
  show wpAny _ _ (ret Value.none) _ _ _
  exact wpAny_pure ⟨_, rfl, h _⟩
end
end Mine

end
section
set_option Elab.async false
set_option maxRecDepth 100000
namespace Mine
theorem set_iter : PySem.Slot "set" "__iter__" "set.__iter__" :=
  .of (owner := "set") (n := "__iter__") (by rw [typeLookup_type, builtinLookup_eq_fast]; kernel_rfl) (by decide +kernel) (by decide +kernel) (by decide +kernel)
    (by first | exact .inl (by decide +kernel) | exact .inr (by decide +kernel)) (by rw [isSubtype_type]; kernel_rfl)
theorem set_iter_entry : entryFor table "set.__iter__" = some Builtin.«frozenset.__iter__» :=
  entryFor_alias (id' := "frozenset.__iter__") (by kernel_rfl) (by first | rfl | decide +kernel) (by decide +kernel) (by kernel_rfl)
theorem set_iter_args (a : Value) : argsOk "set.__iter__" ⟨[a], []⟩ := by unfold argsOk; kernel_rfl
theorem setit_next : PySem.Slot "set_iterator" "__next__" "set_iterator.__next__" :=
  .of (owner := "set_iterator") (n := "__next__") (by rw [typeLookup_type, builtinLookup_eq_fast]; kernel_rfl) (by decide +kernel) (by decide +kernel) (by decide +kernel)
    (by first | exact .inl (by decide +kernel) | exact .inr (by decide +kernel)) (by rw [isSubtype_type]; kernel_rfl)
theorem setit_entry : entryFor table "set_iterator.__next__" = some Builtin.«set_iterator.__next__» := entryFor_of_tree (by kernel_rfl)
theorem setit_args (a : Value) : argsOk "set_iterator.__next__" ⟨[a], []⟩ := by unfold argsOk; kernel_rfl
section
variable {prog : Program} {w : World} {A : Around} {E : Value → Shared → Prop} {s : Shared} {a : Addr} {led : Bool}
theorem new_set {Q : Value → Shared → Prop} (h : Q (.ref s.heap.objs.size) { s with heap := s.heap.push (set0 (!(w.params.followText "set-order"))) }) : wpAny (model prog w) A (newSet (.type "set")) Q E s := by
  unfold newSet setsByText
  refine wpAny_bind (wpAny_bind (wpAny_askSetting (wpAny_pure ?_)))
  dsimp only
  simp only [newObj]
  exact wpAny_bind (wpAny_alloc (wpAny_pure h))
noncomputable def setIt (a : Addr) (slot i : Int) : Obj := { cls := .type "set_iterator", data := .fields #[.int slot 0, .int i 0, .ref a, .int 1 0, .int 1 0] }
theorem iter_run {P : PySem.Fin → Shared → Prop} (ho : s.heap.get? a = some (set1 led)) (h : P (.done (.ret (.ref s.heap.objs.size))) { s with heap := s.heap.push (setIt a 0 0) }) :
    wpAny (model prog w) A (Builtin.«frozenset.__iter__» ⟨[.ref a], []⟩) P E s := by
  unfold Builtin.«frozenset.__iter__»
  refine wpAny_bind (m := Builtin.Frozenset.slot0 "__iter__" _) (wpAny_of_eq (a := a) (by first | rfl | kernel_rfl) ?_)
  unfold Builtin.Frozenset.sizeOf setEntries
  refine wpAny_bind (wpAny_bind (wpAny_bind (wpAny_setState_of ho rfl (tab_fits led) (wpAny_pure (wpAny_pure ?_)))))
  unfold setDrawn
  refine wpAny_bind (wpAny_bind (wpAny_setState_of ho rfl (tab_fits led) ?_))
  dsimp only
  unfold setsByText
  refine wpAny_bind (wpAny_bind (wpAny_askSetting (wpAny_pure (wpAny_pure ?_))))
  rw [if_neg (by
    show ¬ ((_ && (!(tabOf led).plain && decide ((#[(1, Value.bool true)] : Array (Int × Value)).size > 1))) = true)
    rw [tab_plain]; simp)]
  refine wpAny_bind (wpAny_pure ?_)
  refine wpAny_bind (wpAny_setEpoch_of ho rfl (tab_fits led) ?_)
  exact wpAny_bind (wpAny_newObj_type (wpAny_pure h))
theorem set_pyIter {Q : Value → Shared → Prop} (ho : s.heap.get? a = some (set1 led)) (h : Q (.ref s.heap.objs.size) { s with heap := s.heap.push (setIt a 0 0) }) : wpAny (model prog w) A (pyIter (.ref a)) Q E s := by
  have hT : s.TypeIs (.ref a) "set" := ⟨_, ho, rfl⟩
  refine wpAny_pyIter_slot hT set_iter (wpAny_call_entry set_iter hT set_iter_entry (iter_run ho ?_) (set_iter_args _))
  exact ⟨_, rfl, "set_iterator", _, ⟨_, Heap.get?_push_size _ rfl, rfl⟩, setit_next.lookup, h⟩
theorem setit_run {P : PySem.Fin → Shared → Prop} {it : Addr} (hled : led = !(w.params.followText "set-order")) (ho : s.heap.get? a = some (set1 led)) (hi : s.heap.get? it = some (setIt a 0 0)) (hne : it ≠ a)
    (h : ∀ h' sl, h'.get? it = some (setIt a sl 1) → (sl = 0 ∧ w.params.followText "set-order" = true ∨ sl = 2 ∧ w.params.followText "set-order" = false) → Heap.SameBut it s.heap h' → P (.done (.ret (.bool true))) { s with heap := h' }) :
    wpAny (model prog w) A (Builtin.«set_iterator.__next__» ⟨[.ref it], []⟩) P E s := by
  unfold Builtin.«set_iterator.__next__»
  refine wpAny_bind (wpAny_of_eq (a := (.ref it, [])) (by first | rfl | kernel_rfl) ?_)
  dsimp only
  refine wpAny_bind (wpAny_fieldsOf hi rfl ?_)
  dsimp only
  unfold setEntries
  refine wpAny_bind (wpAny_bind (wpAny_setState_of ho rfl (tab_fits led) (wpAny_pure ?_)))
  dsimp only
  rw [if_neg (by decide)]
  have hnext : ∀ {Q : Option (Value × Nat) → Shared → Prop}, (∀ sl : Nat, (sl = 0 ∧ w.params.followText "set-order" = true ∨ sl = 2 ∧ w.params.followText "set-order" = false) → Q (some (.bool true, sl)) s) → wpAny (model prog w) A (setNext a 0 0 1) Q E s := fun {Q} hq => by
    unfold setNext setsByText
    refine wpAny_bind (wpAny_setState_of ho rfl (tab_fits led) ?_)
    dsimp only
    refine wpAny_bind (wpAny_bind (wpAny_askSetting (wpAny_pure ?_)))
    show wpAny _ _ (if w.params.followText "set-order" = true then _ else _) _ _ _
    cases hb : w.params.followText "set-order" with
    | true =>
      rw [if_pos rfl, if_neg (by decide)]
      unfold setWalk setsByText
      refine wpAny_bind (wpAny_bind (wpAny_setState_of ho rfl (tab_fits led) ?_))
      dsimp only
      refine wpAny_bind (wpAny_bind (wpAny_askSetting (wpAny_pure ?_)))
      show wpAny _ _ (if w.params.followText "set-order" = true then _ else _) _ _ _
      rw [hb, if_pos rfl]
      refine wpAny_bind (wpAny_askSetting (wpAny_pure ?_))
      have hp : ∀ f : Nat → Nat, (pickOrder f #[((1 : Int), Value.bool true)])[0]? = some (1, .bool true) := fun f => by
        unfold pickOrder
        show (pickOrder.go f 1 0 [((1 : Int), Value.bool true)] #[])[0]? = _
        unfold pickOrder.go
        simp only [List.length_cons, List.length_nil, Nat.zero_add, Nat.mod_one]
        rfl
      rw [hp]
      exact wpAny_pure (hq 0 (.inl ⟨rfl, hb⟩))
    | false =>
      rw [if_neg Bool.false_ne_true]
      rw [if_neg (by
        show ¬ ((!(tabOf led).plain && decide ((#[(1, Value.bool true)] : Array (Int × Value)).size > 1)) = true)
        rw [tab_plain]; simp)]
      refine wpAny_bind (wpAny_of_eq (a := ()) ?_ ?_)
      · show (if (!(tabOf led).led && !(#[(1, Value.bool true)] : Array (Int × Value)).isEmpty) = true then _ else _) = _
        rw [tab_led, hled, hb]; rfl
      · rw [tab_place]
        exact wpAny_pure (hq 2 (.inr ⟨rfl, hb⟩))
  refine wpAny_bind (hnext fun sl hsl => ?_)
  dsimp only
  refine wpAny_bind (wpAny_setField_rec hi (by simp) fun h2 he2 hs2 => ?_)
  refine wpAny_bind (wpAny_setField_rec he2 (by simp) fun h3 he3 hs3 => ?_)
  refine wpAny_pure (h h3 sl he3 ?_ (hs2.trans hs3))
  rcases hsl with ⟨e, q⟩ | ⟨e, q⟩
  · exact .inl ⟨by rw [e]; rfl, q⟩
  · exact .inr ⟨by rw [e]; rfl, q⟩
theorem setit_stop {P : PySem.Fin → Shared → Prop} {it : Addr} {sl : Int} (hh : A.handled = none) (hled : led = !(w.params.followText "set-order")) (ho : s.heap.get? a = some (set1 led)) (hi : s.heap.get? it = some (setIt a sl 1)) (hne : it ≠ a)
    (hsl : sl = 0 ∧ w.params.followText "set-order" = true ∨ sl = 2 ∧ w.params.followText "set-order" = false)
    (hE : ∀ h' e, Heap.ExtBut it s.heap h' → (∃ o, h'.get? e = some o ∧ o.cls = .type "StopIteration") → E (.ref e) { s with heap := h' }) :
    wpAny (model prog w) A (Builtin.«set_iterator.__next__» ⟨[.ref it], []⟩) P E s := by
  unfold Builtin.«set_iterator.__next__»
  refine wpAny_bind (wpAny_of_eq (a := (.ref it, [])) (by first | rfl | kernel_rfl) ?_)
  dsimp only
  refine wpAny_bind (wpAny_fieldsOf hi rfl ?_)
  dsimp only
  unfold setEntries
  refine wpAny_bind (wpAny_bind (wpAny_setState_of ho rfl (tab_fits led) (wpAny_pure ?_)))
  dsimp only
  rw [if_neg (by decide)]
  have hnext : ∀ {Q : Option (Value × Nat) → Shared → Prop}, Q none s → wpAny (model prog w) A (setNext a sl.toNat 1 1) Q E s := fun {Q} hq => by
    unfold setNext setsByText
    refine wpAny_bind (wpAny_setState_of ho rfl (tab_fits led) ?_)
    dsimp only
    refine wpAny_bind (wpAny_bind (wpAny_askSetting (wpAny_pure ?_)))
    show wpAny _ _ (if w.params.followText "set-order" = true then _ else _) _ _ _
    rcases hsl with ⟨e, hb⟩ | ⟨e, hb⟩
    · rw [hb, if_pos rfl, if_neg (by decide)]
      unfold setWalk setsByText
      refine wpAny_bind (wpAny_bind (wpAny_setState_of ho rfl (tab_fits led) ?_))
      dsimp only
      refine wpAny_bind (wpAny_bind (wpAny_askSetting (wpAny_pure ?_)))
      show wpAny _ _ (if w.params.followText "set-order" = true then _ else _) _ _ _
      rw [hb, if_pos rfl]
      refine wpAny_bind (wpAny_askSetting (wpAny_pure ?_))
      have hp : ∀ f : Nat → Nat, (pickOrder f #[((1 : Int), Value.bool true)])[1]? = none := fun f => by
        unfold pickOrder
        show (pickOrder.go f 1 0 [((1 : Int), Value.bool true)] #[])[1]? = _
        unfold pickOrder.go
        simp only [List.length_cons, List.length_nil, Nat.zero_add, Nat.mod_one]
        rfl
      rw [hp]
      exact wpAny_pure hq
    · rw [hb, if_neg Bool.false_ne_true]
      rw [if_neg (by
        show ¬ ((!(tabOf led).plain && decide ((#[(1, Value.bool true)] : Array (Int × Value)).size > 1)) = true)
        rw [tab_plain]; simp)]
      refine wpAny_bind (wpAny_of_eq (a := ()) ?_ ?_)
      · show (if (!(tabOf led).led && !(#[(1, Value.bool true)] : Array (Int × Value)).isEmpty) = true then _ else _) = _
        rw [tab_led, hled, hb]; rfl
      · rw [tab_place, e]
        exact wpAny_pure hq
  refine wpAny_bind (hnext ?_)
  dsimp only
  refine wpAny_bind (wpAny_setField_rec hi (by simp) fun h2 he2 hs2 => ?_)
  show wpAny _ _ (newExc (.type "StopIteration") [] >>= _) _ _ _
  refine wpAny_bind ?_
  simp only [newExc, newTuple]
  refine wpAny_bind (wpAny_newObj_type ?_ (by size_fits))
  refine wpAny_bind (m := firstArgMember _ _) (wpAny_of_eq (a := Value.none) (by first | rfl | (simp only [firstArgMember]; rfl)) ?_)
  refine wpAny_newObj_type ?_ (by size_fits)
  simp only [raiseNew]
  refine wpAny_bind (wpAny_handled ?_)
  rw [hh]
  refine wpAny_bind (wpAny_pure (wpAny_throw ?_))
  exact hE _ _ ((hs2.extBut.push _).push _) ⟨_, Heap.get?_push_size _ rfl, rfl⟩
theorem setit_item {Q : Option Value → Shared → Prop} {it : Addr} (hled : led = !(w.params.followText "set-order")) (ho : s.heap.get? a = some (set1 led)) (hi : s.heap.get? it = some (setIt a 0 0)) (hne : it ≠ a)
    (h : ∀ h' sl, h'.get? it = some (setIt a sl 1) → (sl = 0 ∧ w.params.followText "set-order" = true ∨ sl = 2 ∧ w.params.followText "set-order" = false) → Heap.SameBut it s.heap h' → Q (some (.bool true)) { s with heap := h' }) : wpAny (model prog w) A (pyNext (.ref it)) Q E s := by
  have hT : s.TypeIs (.ref it) "set_iterator" := ⟨_, hi, rfl⟩
  unfold pyNext
  exact wpAny_bind (wpAny_attempt (wpAny_callSpecial?_slot (name := Str.ofString "__next__") hT setit_next
    (wpAny_call_entry setit_next hT setit_entry (setit_run hled ho hi hne fun h' sl h1 h2 h3 => ⟨_, rfl, wpAny_pure (h h' sl h1 h2 h3)⟩) (setit_args _))))
theorem setit_done {Q : Option Value → Shared → Prop} {it : Addr} {sl : Int} (hh : A.handled = none) (hled : led = !(w.params.followText "set-order")) (ho : s.heap.get? a = some (set1 led)) (hi : s.heap.get? it = some (setIt a sl 1)) (hne : it ≠ a)
    (hsl : sl = 0 ∧ w.params.followText "set-order" = true ∨ sl = 2 ∧ w.params.followText "set-order" = false)
    (h : ∀ h', Heap.ExtBut it s.heap h' → Q none { s with heap := h' }) : wpAny (model prog w) A (pyNext (.ref it)) Q E s := by
  have hT : s.TypeIs (.ref it) "set_iterator" := ⟨_, hi, rfl⟩
  unfold pyNext
  refine wpAny_bind (wpAny_attempt (wpAny_callSpecial?_slot (name := Str.ofString "__next__") hT setit_next
    (wpAny_call_entry setit_next hT setit_entry (setit_stop (A := A.in1) hh hled ho hi hne hsl fun h' e he hx => ?_) (setit_args _))))
  obtain ⟨o, ho', hc⟩ := hx
  refine wpAny_bind (wpAny_isInstance (T := "StopIteration") (b := true) ⟨o, ho', hc⟩ isSubtype_stop ?_)
  exact wpAny_pure (h _ he)
end
end Mine

end
section
set_option Elab.async false
set_option maxRecDepth 100000
namespace Mine
noncomputable def ledOf (w : World) : Bool := !(w.params.followText "set-order")
theorem new_set' {prog : Program} {w : World} {A : Around} {E : Value → Shared → Prop} {s : Shared} {Q : Value → Shared → Prop} (h : Q (.ref s.heap.objs.size) { s with heap := s.heap.push (set0 (ledOf w)) }) : wpAny (model prog w) A (newSet (.type "set")) Q E s := new_set h
noncomputable def setAt (w : World) (i : Nat) : Obj := if i = 0 then set0 (ledOf w) else set1 (ledOf w)
theorem setAt_succ (w : World) (i : Nat) : setAt w (i + 1) = set1 (ledOf w) := if_neg (Nat.succ_ne_zero i)
theorem set_grows {prog : Program} {w : World} {A : Around} {E : Value → Shared → Prop} {s : Shared} {a : Addr} {i : Nat} {Q : Value → Shared → Prop} (ho : s.heap.get? a = some (setAt w i)) (h : ∀ h' tk, h'.get? a = some (setAt w (i + 1)) → Heap.SameBut a s.heap h' → Q .none { s with heap := h', toks := tk }) :
    wpAny (model prog w) A (call (.builtin "set.add") [.ref a, .bool true]) Q E s := by
  cases i with
  | zero => exact add_first (led := ledOf w) ho fun h' tk h1 hs => h h' tk h1 hs
  | succ i =>
    rw [setAt_succ] at ho
    refine add_again (led := ledOf w) ho fun tk => ?_
    exact h s.heap tk (by rw [setAt_succ]; exact ho) (Heap.SameBut.refl a s.heap)
section
variable {C : Cfg} {d : Nat} {J : Js} {T : Scope}
theorem set_core {c : Cx} {A : Around} {s₁ s₂ : Shared} {ρ ρf : Rho} {I : Addr} {fp : List Addr} {n : Nat} {P : Nat → Value → Prop} {Stt : Nat → Heap → Prop} {vs : Nat → V} {x : Str} {px pos : Pos} {elt iter : Expr} {sc : Scope} {cl : List (Str × Addr)}
    {RR : Value → Addr → Result → Shared → Prop} (W : Walks C.prog C.w A I fp [I] n P Stt)
    (hJ : c.J = J) (ok : c.Ok T) (bs : C.Base (c.vis c.h₀)) (cn : Cnd A d) (st : St c ρ s₁) (hI : I = s₁.heap.objs.size) (hle : HLe s₁.heap s₂.heap) (hg : s₂.gens = s₁.gens) (ho : s₂.os = s₁.os) (hlive : ∃ o, s₂.heap.get? I = some o)
    (hfp : ∀ b ∈ fp, b = I ∨ ∃ o, s₁.heap.get? b = some o) (hst : Stt 0 s₂.heap) (hP : ∀ i v, P i v → RV (c.vis s₁.heap) (vs i) v) (hlv : ∀ i h, Stt i h → ∃ o, h.get? I = some o) (hn : n ≤ sizeLine)
    (hclos : ∀ n, (n, NameKind.free) ∈ sc.names → ∃ a, c.env.cells.lookup n = some a ∧ cl.lookup n = some a)
    (hfr : ∀ z, (z, NameKind.free) ∈ sc.names → T.names.lookup z = some .cell) (hcell : ∀ p ∈ sc.names, p.2 ≠ .cell) (hkind : sc.kind = .function) (hx : sc.names.lookup x = some .local)
    (hρ : ∀ z sl, ρf.lookup z = some sl → ∃ sl₀, ρ.lookup z = some sl₀ ∧ inComp sl₀ = some sl ∧ sc.names.lookup z = some .free)
    (hna : noApp ρf x = true)
    (helt : ∀ i, i < n → Ev C d J (relab sc T) (put ρf x (.val (vs i))) elt (.bool true))
    (fin : ∀ (D Lc : Addr) (s' : Shared), D ∉ c.mu → s₁.heap.get? D = none → s₁.heap.get? Lc = none → D ≠ Lc → (∃ m, s'.heap.Ns Lc m) → s'.heap.get? D = some (setAt C.w n) → HLe s₁.heap s'.heap → J s'.gens s'.os → RR (.ref D) Lc (.ok .next) s') :
    wpAny (model C.prog C.w) A (newSet (.type "set")) (fun acc s₃ => wpAny (model C.prog C.w) A (newFunctionEnv sc c.env.globals cl [] c.env.qual none .none (some c.env)) (fun cenv s₄ =>
      codeAny (model C.prog C.w) A (.compStart (.SetComp elt [⟨.Name x px, iter, [], 0⟩] sc pos) 0 (.ref I) acc { cenv with scope := relabel sc c.env }) (RR acc cenv.locals) s₄) E s₃) E s₂ := by
  -- the addresses
  have hD1 : s₂.heap.objs.size ∉ c.mu := fun q => by
    obtain ⟨o, e⟩ := st.low _ q
    exact Nat.lt_irrefl _ (Heap.lt_size (hle _ _ e))
  have fresh : ∀ a, s₂.heap.objs.size ≤ a → s₂.heap.get? a = none := fun a ha => by
    cases e : s₂.heap.get? a with
    | none => rfl
    | some o' => exact absurd (Heap.lt_size e) (Nat.not_lt.mpr ha)
  have hI1 : I ∉ c.mu := hI ▸ st.new_vis
  have hIlt : I < s₂.heap.objs.size := by obtain ⟨o, e⟩ := hlive; exact Heap.lt_size e
  refine new_set' ?_
  refine wpAny_newFunctionEnv hcell (fun _ h => nomatch h) (fun h' hns hsb => ?_) hkind
  rw [show ({ s₂ with heap := s₂.heap.push (set0 (ledOf C.w)) } : Shared).heap.objs.size = s₂.heap.objs.size + 1 from Heap.size_push ..] at hns hsb ⊢
  dsimp only at hsb
  generalize hDD : s₂.heap.objs.size = D at hsb hns hD1 fresh hIlt ⊢
  generalize hLL : D + 1 = L at hsb hns ⊢
  have hDL : D ≠ L := by rw [← hLL]; exact Nat.ne_of_lt (Nat.lt_succ_self _)
  have hID : I ≠ D := Nat.ne_of_lt hIlt
  have hIL : I ≠ L := by rw [← hLL]; exact Nat.ne_of_lt (Nat.lt_succ_of_lt hIlt)
  have lt_of : ∀ {a o}, s₂.heap.get? a = some o → a ≠ D ∧ a ≠ L := fun {a o} e => by
    refine ⟨fun q => ?_, fun q => ?_⟩
    · rw [fresh a (Nat.le_of_eq q.symm)] at e; cases e
    · rw [fresh a (by rw [q, ← hLL]; exact Nat.le_succ _)] at e; cases e
  have hLmu : L ∉ c.mu := fun q => by
    obtain ⟨o, e⟩ := st.low _ q
    exact (lt_of (hle _ _ e)).2 rfl
  have old : ∀ a o, s₂.heap.get? a = some o → h'.get? a = some o := fun a o e => hsb.extBut a o (lt_of e).2 (Heap.get?_push_of_some _ (Heap.get?_push_of_some _ e))
  have hacc : h'.get? D = some (set0 (ledOf C.w)) := hsb.extBut _ _ hDL (Heap.get?_push_of_some _ (hDD ▸ Heap.get?_push_size _ rfl))
  have hst₁ : Stt 0 h' := W.frame _ _ _ hst fun b _ o e => old b o e
  let cenv : Env := { newEnv sc L c.env.globals cl c.env.qual none .none (some c.env) 0 with scope := relabel sc c.env }
  have hsc : cenv.scope = relab sc T := by show relabel sc c.env = _; unfold relabel relab Env.kindOf; rw [ok.scope]
  have hTk : T.kind = .function := ok.kind
  have hxl : (relab sc T).names.lookup x = some .local := by rw [relab_lookup, hx]; rfl
  have hfree : ∀ z, sc.names.lookup z = some .free → (relab sc T).names.lookup z = some .cell := fun z hz => by
    rw [relab_lookup, hz]
    show some (relK T z .free) = _
    unfold relK
    rw [hfr z (mem_of_lookup hz), hTk]; rfl
  have hkinds : ∀ z k, (relab sc T).names.lookup z = some k → k = .cell → sc.names.lookup z = some .free := fun z k hz hk => by
    rw [relab_lookup] at hz
    cases q : sc.names.lookup z with
    | none => rw [q] at hz; cases hz
    | some k0 =>
      rw [q] at hz
      have hz' : relK T z k0 = k := Option.some.inj hz
      unfold relK at hz'
      split at hz'
      · rename_i hc
        rw [Bool.and_eq_true, Bool.and_eq_true] at hc
        have : k0 = .free := by simpa using hc.1.1
        rw [this]
      · subst hz'; subst hk
        exact absurd rfl (hcell _ (mem_of_lookup q))
  have hnofree : ∀ z, (relab sc T).names.lookup z ≠ some .free := fun z hz => by
    rw [relab_lookup] at hz
    cases q : sc.names.lookup z with
    | none => rw [q] at hz; cases hz
    | some k0 =>
      rw [q] at hz
      have hz' : relK T z k0 = .free := Option.some.inj hz
      unfold relK at hz'
      split at hz'
      · cases hz'
      · rename_i hc
        subst hz'
        rw [hfr z (mem_of_lookup q), hTk] at hc
        exact hc rfl
  let muc := L :: D :: I :: c.mu
  have hv0 : HLe (c.vis s₁.heap) (hideAll h' muc) := fun a o e => by
    have ha : a ∉ c.mu := fun q => by rw [show c.vis s₁.heap = hideAll s₁.heap c.mu from rfl, hideAll_none _ q] at e; cases e
    have e1 := of_hideAll _ e
    have e2 := hle _ _ e1
    refine hideAll_get _ (old _ _ e2) fun q => ?_
    rcases List.mem_cons.mp q with q | q
    · exact (lt_of e2).2 q
    · rcases List.mem_cons.mp q with q | q
      · exact (lt_of e2).1 q
      · rcases List.mem_cons.mp q with q | q
        · rw [q, hI] at e1; exact Nat.lt_irrefl _ (Heap.lt_size e1)
        · exact ha q
  -- the state of a turn
  let Inv : Nat → Shared → Prop := fun i s' => s'.heap.get? D = some (setAt C.w i) ∧ Stt i s'.heap ∧ (∃ m, s'.heap.Ns L m) ∧
    (∀ a o, a ≠ I → s₂.heap.get? a = some o → s'.heap.get? a = some o) ∧ J s'.gens s'.os ∧ ∀ b ∈ fp, ∃ o, s'.heap.get? b = some o
  have frm : ∀ i (s' : Shared), i ≤ n → (∃ o, s'.heap.get? D = some o) → (∃ o, s'.heap.get? I = some o) → (∃ m, s'.heap.Ns L m) → (∀ a o, a ≠ I → s₂.heap.get? a = some o → s'.heap.get? a = some o) → J s'.gens s'.os →
      let cc : Cx := { J := J, h₀ := hideAll s'.heap [L], ow := [L], mu := muc, env := cenv, own := false }
      cc.Ok (relab sc T) ∧ St cc ρf s' ∧ C.Base (cc.vis cc.h₀) ∧ HLe (c.vis s₁.heap) (cc.vis s'.heap) := by
    intro i s' _ hpl hIl hns' hold hj cc
    have hold1 : HLe s₁.heap s'.heap := fun a o e => hold a o (fun q => by rw [q, hI] at e; exact Nat.lt_irrefl _ (Heap.lt_size e)) (hle _ _ e)
    have hne1 : ∀ {a o}, s₁.heap.get? a = some o → a ∉ [L, D, I] := fun {a o} e q => by
      have e2 := hle _ _ e
      rcases List.mem_cons.mp q with q | q
      · exact (lt_of e2).2 q
      · rcases List.mem_cons.mp q with q | q
        · exact (lt_of e2).1 q
        · rw [List.mem_singleton.mp q, hI] at e; exact Nat.lt_irrefl _ (Heap.lt_size e)
    have hmuc : ∀ {a o}, s₁.heap.get? a = some o → a ∉ c.mu → a ∉ muc := fun {a o} e ha q => by
      rcases List.mem_cons.mp q with q | q
      · exact hne1 e (by rw [q]; exact List.mem_cons_self)
      · rcases List.mem_cons.mp q with q | q
        · exact hne1 e (by rw [q]; exact List.mem_cons_of_mem _ List.mem_cons_self)
        · rcases List.mem_cons.mp q with q | q
          · exact hne1 e (by rw [q]; exact List.mem_cons_of_mem _ (List.mem_cons_of_mem _ List.mem_cons_self))
          · exact ha q
    have hvv : HLe (c.vis s₁.heap) (cc.vis s'.heap) := fun a o e => by
      have ha : a ∉ c.mu := fun q => by rw [show c.vis s₁.heap = hideAll s₁.heap c.mu from rfl, hideAll_none _ q] at e; cases e
      exact hideAll_get _ (hold1 _ _ (of_hideAll _ e)) (hmuc (of_hideAll _ e) ha)
    -- the cells of the frame around
    have hcells : ∀ z, sc.names.lookup z = some .free → ∃ a, c.env.cells.lookup z = some a ∧ cl.lookup z = some a ∧ ∃ v, s₁.heap.IsCell a v := fun z hz => by
      obtain ⟨a, e1, e2⟩ := hclos z (mem_of_lookup hz)
      obtain ⟨v, p⟩ := st.cells z a (by rw [ok.scope]; exact hfr z (mem_of_lookup hz)) e1
      exact ⟨a, e1, e2, v, p⟩
    refine ⟨{ scope := hsc, kind := hkind, glob := ok.glob, blt := ok.blt, loc := List.mem_cons_self, sub := fun a ha => (by rw [List.mem_singleton.mp ha]; exact List.mem_cons_self), off := fun a ha => hideAll_none _ ha, cell := fun z hz => ?_, inj := fun q => (by cases q), free := fun z hz => absurd hz (hnofree z) }, ⟨hj, fun _ _ e => of_hideAll _ e, hns', fun z a e e' => ?_, fun z sl e => ?_, fun z w xs ys' a e => ?_, fun a ha => ?_⟩, bs.keeps fun a o e => ?_, hvv⟩
    · obtain ⟨a, _, e2, v, o, ho', _⟩ := hcells z (hkinds z _ hz rfl)
      refine ⟨a, e2, .inr ⟨rfl, o, hideAll_get _ (hold1 _ _ ho') fun q => hne1 ho' ?_⟩⟩
      rw [List.mem_singleton.mp q]; exact List.mem_cons_self
    · rw [show cc.env.scope = relab sc T from hsc] at e
      obtain ⟨a', _, e2, v, p⟩ := hcells z (hkinds z _ e rfl)
      have e'' : cl.lookup z = some a := e'
      rw [e2] at e''; cases e''
      exact ⟨v, p.keeps hold1⟩
    · obtain ⟨sl₀, h1, h2, h3⟩ := hρ z sl e
      obtain ⟨u, nm, p⟩ := st.vars z sl₀ h1
      obtain ⟨a, e1, e2, v, pc⟩ := hcells z h3
      have hnm : Nm cc s'.heap z u := by
        rcases nm with ⟨q, _⟩ | ⟨_, a', q1, q2⟩
        · rw [ok.scope, hfr z (mem_of_lookup h3)] at q; cases q
        · rw [e1] at q1; cases q1
          exact .inr ⟨.inl (by rw [show cc.env.scope = relab sc T from hsc]; exact hfree z h3), a, e2, q2.keeps hold1⟩
      refine ⟨u, hnm, ?_⟩
      cases sl₀ with
      | val v => cases h2; exact RV.mono hvv p
      | «mut» xs =>
        cases h2
        obtain ⟨a', us', e', ha', pl, r⟩ := p
        obtain ⟨n', pl'⟩ := id pl
        refine ⟨a', us', e', fun q => ?_, plain_keeps hold1 pl, RVs.mono hvv r⟩
        exact hne1 pl' (by rw [List.mem_singleton.mp q]; exact List.mem_cons_self)
      | rd xs =>
        cases h2
        obtain ⟨a', us', e', ha', pl, r⟩ := p
        obtain ⟨n', pl'⟩ := id pl
        refine ⟨a', us', e', fun q => ?_, plain_keeps hold1 pl, RVs.mono hvv r⟩
        exact hne1 pl' (by rw [List.mem_singleton.mp q]; exact List.mem_cons_self)
      | app _ => cases h2
    · obtain ⟨sl₀, h1, h2, h3⟩ := hρ z _ e
      cases sl₀ <;> cases h2
    · rcases List.mem_cons.mp ha with e | ha
      · obtain ⟨m, o, _, _, e', _⟩ := hns'; exact ⟨o, e ▸ e'⟩
      · rcases List.mem_cons.mp ha with e | ha
        · obtain ⟨o, e'⟩ := hpl; exact ⟨o, e ▸ e'⟩
        · rcases List.mem_cons.mp ha with e | ha
          · rw [e]; exact hIl
          · obtain ⟨o, e⟩ := st.low a ha; exact ⟨o, hold1 _ _ e⟩
    · have ha : a ∉ c.mu := fun q => by rw [show c.vis c.h₀ = hideAll c.h₀ c.mu from rfl, hideAll_none _ q] at e; cases e
      have e1 := st.keep _ _ (of_hideAll _ e)
      exact hideAll_get _ (hideAll_get _ (hold1 _ _ e1) fun q => hne1 e1 (by rw [List.mem_singleton.mp q]; exact List.mem_cons_self)) (hmuc e1 ha)
  have loop : ∀ s₄ : Shared, s₄ = { s₂ with heap := h', toks := s₂.toks + ([] : List (Str × Value)).length } →
      codeAny (model C.prog C.w) A (.compLoop (.SetComp elt [⟨.Name x px, iter, [], 0⟩] sc pos) 0 (.ref I) (.ref D) cenv) (RR (.ref D) L) s₄ := by
    rintro s₄ rfl
    refine loop_set (fun j s' => ∃ i, i ≤ n ∧ j = n + 1 - i ∧ Inv i s') ?_ (n + 1) ⟨0, Nat.zero_le _, rfl, hacc, hst₁, ⟨_, hns⟩, fun a o _ e => old a o e, ?_, fun b hb => ?_⟩
    · rintro j s' ⟨i, hin, rfl, hpl, hst', hns', hold, hj, hfpl⟩
      by_cases hlt : i < n
      · refine W.item i s' _ _ hlt hst' fun v h1 tk hPv hst2 keep => ?_
        have keep' : ∀ a o, a ≠ I → s'.heap.get? a = some o → h1.get? a = some o := fun a o ha e => keep a o (fun q => ha (List.mem_singleton.mp q)) e
        have hpl1 : h1.get? D = some (setAt C.w i) := keep' _ _ (Ne.symm hID) hpl
        have hDl : ∃ o, h1.get? D = some o := ⟨_, hpl1⟩
        have hns1 : ∃ m, h1.Ns L m := let ⟨m, o, es, ep, e, r⟩ := hns'; ⟨m, o, es, ep, keep' _ _ (Ne.symm hIL) e, r⟩
        have hI1' := hlv _ _ hst2
        obtain ⟨okc, stc, bsc, hvv⟩ := frm i { s' with heap := h1, toks := tk } hin hDl hI1' hns1 (fun a o ha e => keep' a o ha (hold a o ha e)) hj
        refine wpAny_assign_Name ?_
        refine st_storeV (c := { J := J, h₀ := hideAll h1 [L], ow := [L], mu := muc, env := cenv, own := false }) okc stc (y := x) (fun q => by rw [hxl] at q; cases q) (.inl hxl) ?_ (RV.mono hvv (hP i v hPv)) fun h2 t2 st2 hv2 => ?_
        · exact hna
        have hk2 : ∀ a o, a ≠ L → h1.get? a = some o → h2.get? a = some o := fun a o ha e => st2.keep a o (hideAll_get _ e fun q => ha (List.mem_singleton.mp q))
        have hfp2 : ∀ (h9 : Heap), (∀ a o, a ≠ D → h2.get? a = some o → h9.get? a = some o) → ∀ bb ∈ fp, ∀ o, h1.get? bb = some o → h9.get? bb = some o := by
          intro h9 hk9 bb hb o e
          rcases hfp bb hb with q | ⟨o', q⟩
          · exact hk9 _ _ (by rw [q]; exact hID) (hk2 _ _ (by rw [q]; exact hIL) e)
          · exact hk9 _ _ (lt_of (hle _ _ q)).1 (hk2 _ _ (lt_of (hle _ _ q)).2 e)
        have hold9 : ∀ (h9 : Heap), (∀ a o, a ≠ D → h2.get? a = some o → h9.get? a = some o) → ∀ a o, a ≠ I → s₂.heap.get? a = some o → h9.get? a = some o := fun h9 hk9 a o ha e =>
          hk9 _ _ (lt_of e).1 (hk2 _ _ (lt_of e).2 (keep' a o ha (hold a o ha e)))
        have hlive9 : ∀ (h9 : Heap), (∀ a o, a ≠ D → h2.get? a = some o → h9.get? a = some o) → ∀ bb ∈ fp, ∃ o, h9.get? bb = some o := fun h9 hk9 bb hb => by
          have : ∃ o, h1.get? bb = some o := by
            by_cases q : bb = I
            · rw [q]; exact hI1'
            · obtain ⟨o, e⟩ := hfpl bb hb; exact ⟨o, keep' _ _ q e⟩
          obtain ⟨o, e⟩ := this
          exact ⟨o, hfp2 h9 hk9 bb hb o e⟩
        refine wpAny_mono (Run.use (E := _) (helt i hlt) rfl okc bsc cn st2) (fun u s4 ⟨st4, p4, r4⟩ => ?_) fun _ _ e => e
        have r4 : u = .bool true := r4
        subst r4
        have hle4 : ∀ a o, h2.get? a = some o → s4.heap.get? a = some o := fun a o e => p4.le _ _ e
        have hpl4 : s4.heap.get? D = some (setAt C.w i) := hle4 _ _ (hk2 _ _ hDL hpl1)
        refine set_grows hpl4 fun h5 tk5 hpl5 hs5 => ?_
        have hk5 : ∀ a o, a ≠ D → h2.get? a = some o → h5.get? a = some o := fun a o ha e => hs5.extBut a o ha (hle4 a o e)
        refine ⟨n + 1 - (i + 1), by omega, i + 1, hlt, rfl, hpl5, W.frame _ _ _ hst2 (hfp2 h5 hk5), ?_, hold9 h5 hk5, p4.j, hlive9 h5 hk5⟩
        · obtain ⟨m, nn⟩ := st4.ns
          exact ⟨m, nn.sameBut hs5 (Ne.symm hDL)⟩
      · have hin' : i = n := by omega
        subst hin'
        refine W.done s' _ _ hst' fun h1 tk keep => ?_
        have keep' : ∀ a o, a ≠ I → s'.heap.get? a = some o → h1.get? a = some o := fun a o ha e => keep a o (fun q => ha (List.mem_singleton.mp q)) e
        refine fin D L _ hD1 ?_ ?_ hDL ?_ ?_ (fun a o e => keep' a o (fun q => ?_) (hold a o (fun q => ?_) (hle _ _ e))) hj
        · cases q : s₁.heap.get? D with
          | none => rfl
          | some o => exact absurd rfl (lt_of (hle _ _ q)).1
        · cases q : s₁.heap.get? L with
          | none => rfl
          | some o => exact absurd rfl (lt_of (hle _ _ q)).2
        · obtain ⟨m, o, es, ep, e, r⟩ := hns'; exact ⟨m, o, es, ep, keep' _ _ (Ne.symm hIL) e, r⟩
        · exact keep' _ _ (Ne.symm hID) hpl
        · rw [q, hI] at e; exact Nat.lt_irrefl _ (Heap.lt_size e)
        · rw [q, hI] at e; exact Nat.lt_irrefl _ (Heap.lt_size e)
    · show J s₂.gens s₂.os
      rw [hg, ho, ← hJ]; exact st.j
    · rcases hfp b hb with q | ⟨o, q⟩
      · rw [q]; obtain ⟨o, e⟩ := hlive; exact ⟨o, old _ _ e⟩
      · exact ⟨o, old _ _ (hle _ _ q)⟩
  exact start_set (loop _ rfl) (W.self 0 _ _ _ hst₁ (loop _ rfl))
end
end Mine

end
section
set_option Elab.async false
set_option maxRecDepth 100000
namespace Mine
section
variable {prog : Program} {w : World} {A : Around} {E : Value → Shared → Prop} {s : Shared} {a : Addr}
theorem unpack_one {Q : List Value → Shared → Prop} (hh : A.handled = none) (ho : s.heap.get? a = some (set1 (ledOf w))) (h : ∀ h', HLe s.heap h' → Q [.bool true] { s with heap := h' }) : wpAny (model prog w) A (unpackItems (.ref a) 1 none) Q E s := by
  have hT : s.TypeIs (.ref a) "set" := ⟨_, ho, rfl⟩
  have hne : s.heap.objs.size ≠ a := Nat.ne_of_gt (Heap.lt_size ho)
  unfold unpackItems notIterableAtAll
  refine wpAny_bind (wpAny_bind (wpAny_specialOf hT set_iter.lookup (wpAny_pure ?_)))
  rw [if_neg (by decide)]
  refine wpAny_bind (wpAny_holding (set_pyIter ho ?_))
  have h1 : (s.heap.push (setIt a 0 0)).get? a = some (set1 (ledOf w)) := Heap.get?_push_of_some _ ho
  have h2 : (s.heap.push (setIt a 0 0)).get? s.heap.objs.size = some (setIt a 0 0) := Heap.get?_push_size _ rfl
  dsimp only
  refine wpAny_bind (wpAny_holding ?_)
  unfold draw
  refine wpAny_bind (setit_item (led := ledOf w) rfl h1 h2 hne fun h3 sl h4 hsl hs => ?_)
  dsimp only
  unfold draw
  refine wpAny_bind (wpAny_holding (wpAny_pure ?_))
  refine wpAny_pure ?_
  rw [if_neg (by decide)]
  refine wpAny_bind (wpAny_holding (setit_done (led := ledOf w) hh rfl ((hs.2 a (Ne.symm hne)).trans h1) h4 hne hsl fun h5 he => ?_))
  rw [if_neg (by decide)]
  exact wpAny_pure (h h5 fun b o e => he b o (Nat.ne_of_lt (Heap.lt_size e)) ((hs.2 b (Nat.ne_of_lt (Heap.lt_size e))).trans (Heap.get?_push_of_some _ e)))
end
section
variable {C : Cfg} {d : Nat} {J : Js} {T : Scope} {ρ : Rho}
theorem st_one {x y : Str} {px py tpos pos spos : Pos} {k : Nat} {elt iter : Expr} {sc : Scope} {n : Nat} {vs : Nat → V} {ρ' : Rho} (ρf : Rho) (hc : compOk sc T x = true) (h : Src C d J T ρ iter n vs) (hn : n ≤ sizeLine) (hn0 : 0 < n)
    (hy : T.names.lookup y = some .local ∨ T.names.lookup y = some .cell) (hny : NoApp ρ y) (hput : Put ρ y (.val (.bool true)) ρ')
    (hρ : CompR ρ sc ρf) (hna : NoApp ρf x) (helt : ∀ i, i < n → Ev C d J (relab sc T) (put ρf x (.val (vs i))) elt (.bool true)) (hs : ∀ env x, foldedSetIterable iter env x = pure x := by intro _ _; with_unfolding_all rfl)
    (hs1 : ∀ env, swapsWithSole [.Tuple [.Name y py] k tpos] (.SetComp elt [⟨.Name x px, iter, [], 0⟩] sc pos) spos.line env = pure false := by intro _; with_unfolding_all rfl)
    (hs2 : ∀ env, swappedStores [.Tuple [.Name y py] k tpos] (.SetComp elt [⟨.Name x px, iter, [], 0⟩] sc pos) env = pure none := by intro _; with_unfolding_all rfl) :
    Ex1 C d J T ρ (.Assign [.Tuple [.Name y py] k tpos] (.SetComp elt [⟨.Name x px, iter, [], 0⟩] sc pos) spos) (.next ρ') := by
  intro c A s Q E hJ okk bs cn x0 f
  have ok := okk.1
  obtain ⟨h1, h2, h3, h4, h5⟩ := compOk_all hc
  obtain ⟨cl, hcl, hcl2⟩ := closureFor_ok (sc := sc) (env := c.env) fun z hz => let ⟨a, e, _⟩ := ok.cell z (h1 z hz); ⟨a, e⟩
  refine Assign_Tuple ?_ (hs1 _) (hs2 _)
  rw [arm_eval_SetComp]
  refine wpAny_comprehension_free (use := none) rfl (hs _) hcl h3 h4 (h c A s _ E hJ ok bs cn x0 fun u s₁ p₁ it => it _ _ fun fp P Stt s₂ W hle hg ho hl hfp hst hP hnl hlv => ?_)
  refine set_core (RR := fun acc Lc => compPost (model C.prog C.w) A E none (fun v s₁ => wpAny (model C.prog C.w) A (assign (.Tuple [.Name y py] k tpos) c.env v) (fun _ => Q .next) E s₁) acc Lc) W hJ ok bs cn (x0.step p₁) rfl hle hg ho hl (fun b hb => (hfp b hb).imp id And.right) hst hP hlv hn hcl2 h1 h2 h3 h5 hρ.get hna.eq helt ?_
  intro D Lc s' hD hD1 hL1 hDL hns hpl hle1 hj
  obtain ⟨m, hm⟩ := hns
  refine ⟨m, hm, fun h' hsb => ?_⟩
  have hk : HLe s₁.heap h' := fun a o e => hsb.extBut a o (fun q => by rw [q, hL1] at e; cases e) (hle1 a o e)
  have x4 : St c ρ { s' with heap := h' } := (x0.step p₁).grow' hk (by rw [hJ]; exact hj)
  have hset : h'.get? D = some (set1 (ledOf C.w)) := by
    have := hsb.extBut D _ hDL hpl
    rw [this]
    unfold setAt
    rw [if_neg (Nat.ne_of_gt hn0)]
  show wpAny (model C.prog C.w) A (assign (.Tuple [.Name y py] k tpos) c.env (.ref D)) (fun _ => Q .next) E _
  rw [arm_assign_Tuple]
  refine wpAny_bind (wpAny_standAt ?_)
  unfold unpack
  refine wpAny_bind (wpAny_holding ?_)
  show wpAny _ _ (unpackItems (.ref D) 1 none) _ _ _
  refine unpack_one cn.hh hset fun h6 hk6 => ?_
  have x6 : St c ρ { s' with heap := h6 } := x4.grow (t := s'.toks) hk6
  show wpAny _ _ (assignInOrder [assign (.Name y py) c.env] [.bool true]) _ _ _
  refine wpAny_bind (wpAny_holding (PyProof.Rows.assign_Name (st_storeV ok x6 (fun _ => okk.2) hy hny.eq (v := .bool true) rfl fun h7 t7 x7 _ => ?_)))
  exact wpAny_pure (f c _ (Grow.refl ok) (hput.eq ▸ x7))
theorem tru_tup {l : List V} (hs : l.length ≤ sizeLine) : Tru C d (.tup l) (!l.isEmpty) := fun c T ρ A s u Q E k bs cn x r q => by
  obtain ⟨a, vs, rfl, p, rv⟩ := r
  rw [sizeLine_eq] at hs
  have hl := rv.len
  refine truthy_tuple (items := vs.toArray) (isTup_of p) (by simp only [List.size_toArray]; omega) (q _ _ (x.stok _) ?_)
  cases l with
  | nil => cases rv; rfl
  | cons a l => cases vs with
    | nil => simp at hl
    | cons b vs => simp
end
end Mine

end
section
open AutoSeq1 (wpAny_loadPart')
open PySem.MeetsSeq PySem.MeetsSeq3
set_option Elab.async false
set_option maxRecDepth 100000
namespace Mine
noncomputable def ltL : List (List Nat) → List (List Nat) → Bool
  | x :: xs, y :: ys => if x = y then ltL xs ys else decide (x < y)
  | [], _ :: _ => true
  | _, [] => false
/-- a value is the text -/
noncomputable def IsTx (l : List Nat) (v : Value) : Prop := ∃ t, v = .str (S l) t
theorem eq_tx {prog : Program} {w : World} {A : Around} {E : Value → Shared → Prop} {s : Shared} {a b : List Nat} {u v : Value} {Q : Bool → Shared → Prop} (hu : IsTx a u) (hv : IsTx b v) (h : Q (decide (a = b)) s) : wpAny (model prog w) A (eqBool u v) Q E s := by
  obtain ⟨t, rfl⟩ := hu
  obtain ⟨t', rfl⟩ := hv
  refine wpAny_eqBool_str ?_
  have : decide (S a = S b) = decide (a = b) := decide_eq_decide.mpr ⟨fun e => by simpa [S] using e, fun e => by rw [e]⟩
  rw [this]; exact h
theorem lt_loop {d1 d2 : Option Addr} {s1 s2 : Array (Option Value)} (l b : Addr) (items items2 : Array Value) (n n2 : Nat) (xs ys : List (List Nat)) (hx : items.size = xs.length) (hy : items2.size = ys.length) (hxs : ∀ (i : Nat) (h : i < items.size), IsTx (xs.getD i []) items[i]) (hys : ∀ (i : Nat) (h : i < items2.size), IsTx (ys.getD i []) items2[i]) (k : Nat) :
    ∀ i : Nat, items.size - i = k → i ≤ items.size → i ≤ items2.size → Meets (Builtin.«list.__eq__.loop» ⟨[.ref l, .ref b, rawInt i, rawInt 0], []⟩)
      (fun _ R s => s.heap.get? l = some { cls := .type "list", dict := d1, data := .seq items n, slots := s1 } ∧ s.heap.get? b = some { cls := .type "list", dict := d2, data := .seq items2 n2, slots := s2 } ∧
        R (.ok (.ret (.bool (ltL (xs.drop i) (ys.drop i))))) s) := by
  induction k with
  | zero =>
    intro i hk hi0 hi9 prog w A R s h
    obtain ⟨hp, g, d, tk, os⟩ := s; obtain ⟨hl, hb, h⟩ := h
    wp_walk using wpAny_loadPart' hl, wpAny_loadPart' hb
    have hi1 : items[((i : Nat) : Int).toNat]? = none := by simp; omega
    rw [hi1]
    have h1 : xs.drop i = [] := List.drop_eq_nil_of_le (by omega)
    rw [h1] at h
    wp_walk using wpAny_loadPart' hl, wpAny_loadPart' hb
    show R (.ok (.ret (.bool (decide (items.size < items2.size))))) _
    have e : ltL [] (ys.drop i) = decide (items.size < items2.size) := by
      cases h2 : ys.drop i with
      | nil =>
        have : ys.length ≤ i := List.drop_eq_nil_iff.mp h2
        rw [decide_eq_false (by omega)]; rfl
      | cons y r =>
        have : ¬ ys.length ≤ i := fun q => by rw [List.drop_eq_nil_of_le q] at h2; cases h2
        rw [decide_eq_true (by omega)]; rfl
    rw [← e]; exact h
  | succ k ih =>
    intro i hk hi0 hi9 prog w A R s h
    obtain ⟨hp, g, d, tk, os⟩ := s; obtain ⟨hl, hb, h⟩ := h
    wp_walk using wpAny_loadPart' hl, wpAny_loadPart' hb
    have hlt : i < items.size := by omega
    have hi1 : items[((i : Nat) : Int).toNat]? = some items[i] := by simp [hlt]
    have dx : xs.drop i = xs.getD i [] :: xs.drop (i + 1) := by
      rw [List.drop_eq_getElem_cons (by omega : i < xs.length)]
      simp [List.getD, (by omega : i < xs.length)]
    by_cases hlt2 : i < items2.size
    · have hi2 : items2[((i : Nat) : Int).toNat]? = some items2[i] := by simp [hlt2]
      have dy : ys.drop i = ys.getD i [] :: ys.drop (i + 1) := by
        rw [List.drop_eq_getElem_cons (by omega : i < ys.length)]
        simp [List.getD, (by omega : i < ys.length)]
      rw [dx, dy] at h
      unfold ltL at h
      rw [hi1, hi2]
      refine wpAny_bind (eq_tx (hxs i hlt) (hys i hlt2) ?_)
      by_cases hq : xs.getD i [] = ys.getD i []
      · rw [decide_eq_true hq]
        rw [if_pos hq] at h
        have hc : ((i : Int) + 1) = ((i + 1 : Nat) : Int) := by push_cast; rfl
        rw [if_pos rfl, hc]
        refine wpAny_pure ⟨plainId_quiet plain_eq_loop _, codeAny_builtin entry_eq_loop ?_⟩
        rw [Around.under_plainId plain_eq_loop _]
        exact ih (i + 1) (by omega) (by omega) (by omega) prog w A R _ ⟨hl, hb, h⟩
      · rw [decide_eq_false hq]
        rw [if_neg hq] at h
        rw [if_neg Bool.false_ne_true]
        wp_walk using wpAny_loadPart' hl, wpAny_loadPart' hb
        rw [hi1, hi2]
        obtain ⟨t1, e1⟩ := hxs i hlt
        obtain ⟨t2, e2⟩ := hys i hlt2
        rw [e1, e2]
        dsimp only
        refine wpAny_bind (show wpAny _ _ (compareOp .Lt (.str (S (xs.getD i [])) t1) (.str (S (ys.getD i [])) t2)) _ _ _ from P.lt_str (wpAny_pure ?_))
        simpa only [S_cps] using h
    · have hi2 : items2[((i : Nat) : Int).toNat]? = none := by simp; omega
      have dy : ys.drop i = [] := List.drop_eq_nil_of_le (by omega)
      rw [dx, dy] at h
      rw [hi1, hi2]
      wp_walk using wpAny_loadPart' hl, wpAny_loadPart' hb
      show R (.ok (.ret (.bool (decide (items.size < items2.size))))) _
      rw [decide_eq_false (by omega)]
      exact h
theorem gt_loop {d1 d2 : Option Addr} {s1 s2 : Array (Option Value)} (l b : Addr) (items items2 : Array Value) (n n2 : Nat) (xs ys : List (List Nat)) (hx : items.size = xs.length) (hy : items2.size = ys.length) (hxs : ∀ (i : Nat) (h : i < items.size), IsTx (xs.getD i []) items[i]) (hys : ∀ (i : Nat) (h : i < items2.size), IsTx (ys.getD i []) items2[i]) (k : Nat) :
    ∀ i : Nat, items.size - i = k → i ≤ items.size → i ≤ items2.size → Meets (Builtin.«list.__eq__.loop» ⟨[.ref l, .ref b, rawInt i, rawInt 4], []⟩)
      (fun _ R s => s.heap.get? l = some { cls := .type "list", dict := d1, data := .seq items n, slots := s1 } ∧ s.heap.get? b = some { cls := .type "list", dict := d2, data := .seq items2 n2, slots := s2 } ∧
        R (.ok (.ret (.bool (ltL (ys.drop i) (xs.drop i))))) s) := by
  induction k with
  | zero =>
    intro i hk hi0 hi9 prog w A R s h
    obtain ⟨hp, g, d, tk, os⟩ := s; obtain ⟨hl, hb, h⟩ := h
    wp_walk using wpAny_loadPart' hl, wpAny_loadPart' hb
    have hi1 : items[((i : Nat) : Int).toNat]? = none := by simp; omega
    rw [hi1]
    have h1 : xs.drop i = [] := List.drop_eq_nil_of_le (by omega)
    rw [h1] at h
    wp_walk using wpAny_loadPart' hl, wpAny_loadPart' hb
    show R (.ok (.ret (.bool (decide (items.size > items2.size))))) _
    have e : ltL (ys.drop i) [] = decide (items.size > items2.size) := by
      rw [decide_eq_false (by omega)]
      cases ys.drop i <;> rfl
    rw [← e]; exact h
  | succ k ih =>
    intro i hk hi0 hi9 prog w A R s h
    obtain ⟨hp, g, d, tk, os⟩ := s; obtain ⟨hl, hb, h⟩ := h
    wp_walk using wpAny_loadPart' hl, wpAny_loadPart' hb
    have hlt : i < items.size := by omega
    have hi1 : items[((i : Nat) : Int).toNat]? = some items[i] := by simp [hlt]
    have dx : xs.drop i = xs.getD i [] :: xs.drop (i + 1) := by
      rw [List.drop_eq_getElem_cons (by omega : i < xs.length)]
      simp [List.getD, (by omega : i < xs.length)]
    by_cases hlt2 : i < items2.size
    · have hi2 : items2[((i : Nat) : Int).toNat]? = some items2[i] := by simp [hlt2]
      have dy : ys.drop i = ys.getD i [] :: ys.drop (i + 1) := by
        rw [List.drop_eq_getElem_cons (by omega : i < ys.length)]
        simp [List.getD, (by omega : i < ys.length)]
      rw [dx, dy] at h
      unfold ltL at h
      rw [hi1, hi2]
      refine wpAny_bind (eq_tx (hxs i hlt) (hys i hlt2) ?_)
      by_cases hq : ys.getD i [] = xs.getD i []
      · rw [decide_eq_true hq.symm]
        rw [if_pos hq] at h
        have hc : ((i : Int) + 1) = ((i + 1 : Nat) : Int) := by push_cast; rfl
        rw [if_pos rfl, hc]
        refine wpAny_pure ⟨plainId_quiet plain_eq_loop _, codeAny_builtin entry_eq_loop ?_⟩
        rw [Around.under_plainId plain_eq_loop _]
        exact ih (i + 1) (by omega) (by omega) (by omega) prog w A R _ ⟨hl, hb, h⟩
      · rw [decide_eq_false (fun q => hq q.symm)]
        rw [if_neg hq] at h
        rw [if_neg Bool.false_ne_true]
        wp_walk using wpAny_loadPart' hl, wpAny_loadPart' hb
        rw [hi1, hi2]
        obtain ⟨t1, e1⟩ := hxs i hlt
        obtain ⟨t2, e2⟩ := hys i hlt2
        rw [e1, e2]
        dsimp only
        refine wpAny_bind (show wpAny _ _ (compareOp .Gt (.str (S (xs.getD i [])) t1) (.str (S (ys.getD i [])) t2)) _ _ _ from P.gt_str (wpAny_pure ?_))
        simpa only [S_cps] using h
    · have hi2 : items2[((i : Nat) : Int).toNat]? = none := by simp; omega
      have dy : ys.drop i = [] := List.drop_eq_nil_of_le (by omega)
      rw [dx, dy] at h
      rw [hi1, hi2]
      wp_walk using wpAny_loadPart' hl, wpAny_loadPart' hb
      show R (.ok (.ret (.bool (decide (items.size > items2.size))))) _
      rw [decide_eq_true (by omega)]
      exact h
end Mine

end
section
open AutoSeq1 (wpAny_loadPart')
open PySem.MeetsSeq PySem.MeetsSeq3
set_option Elab.async false
set_option maxRecDepth 100000
namespace Mine
theorem list_lt {d1 d2 : Option Addr} {s1 s2 : Array (Option Value)} (l b : Addr) (items items2 : Array Value) (n n2 : Nat) (xs ys : List (List Nat)) (hx : items.size = xs.length) (hy : items2.size = ys.length) (hxs : ∀ (i : Nat) (h : i < items.size), IsTx (xs.getD i []) items[i]) (hys : ∀ (i : Nat) (h : i < items2.size), IsTx (ys.getD i []) items2[i]) :
    Meets (Builtin.«list.__lt__» ⟨[.ref l, .ref b], []⟩)
      (fun _ R s => s.heap.get? l = some { cls := .type "list", dict := d1, data := .seq items n, slots := s1 } ∧ s.heap.get? b = some { cls := .type "list", dict := d2, data := .seq items2 n2, slots := s2 } ∧
        R (.ok (.ret (.bool (ltL xs ys)))) s) := by
  intro prog w A R s h
  obtain ⟨hp, g, d, tk, os⟩ := s; obtain ⟨hl, hb, h⟩ := h
  have f3 := AutoSeq1.sub_list_list
  unfold Builtin.«list.__lt__»
  wp_walk using wpAny_loadPart' hl, wpAny_loadPart' hb
  exact ⟨plainId_quiet plain_eq_loop _, codeAny_builtin entry_eq_loop (by
    rw [Around.under_plainId plain_eq_loop _]
    exact lt_loop l b items items2 n n2 xs ys hx hy hxs hys _ 0 rfl (Nat.zero_le _) (Nat.zero_le _) prog w A R _ ⟨hl, hb, h⟩)⟩
theorem list_gt {d1 d2 : Option Addr} {s1 s2 : Array (Option Value)} (l b : Addr) (items items2 : Array Value) (n n2 : Nat) (xs ys : List (List Nat)) (hx : items.size = xs.length) (hy : items2.size = ys.length) (hxs : ∀ (i : Nat) (h : i < items.size), IsTx (xs.getD i []) items[i]) (hys : ∀ (i : Nat) (h : i < items2.size), IsTx (ys.getD i []) items2[i]) :
    Meets (Builtin.«list.__gt__» ⟨[.ref l, .ref b], []⟩)
      (fun _ R s => s.heap.get? l = some { cls := .type "list", dict := d1, data := .seq items n, slots := s1 } ∧ s.heap.get? b = some { cls := .type "list", dict := d2, data := .seq items2 n2, slots := s2 } ∧
        R (.ok (.ret (.bool (ltL ys xs)))) s) := by
  intro prog w A R s h
  obtain ⟨hp, g, d, tk, os⟩ := s; obtain ⟨hl, hb, h⟩ := h
  have f3 := AutoSeq1.sub_list_list
  unfold Builtin.«list.__gt__»
  wp_walk using wpAny_loadPart' hl, wpAny_loadPart' hb
  exact ⟨plainId_quiet plain_eq_loop _, codeAny_builtin entry_eq_loop (by
    rw [Around.under_plainId plain_eq_loop _]
    exact gt_loop l b items items2 n n2 xs ys hx hy hxs hys _ 0 rfl (Nat.zero_le _) (Nat.zero_le _) prog w A R _ ⟨hl, hb, h⟩)⟩
end Mine

end
section
set_option Elab.async false
set_option maxRecDepth 100000
namespace Mine
section
variable {prog : Program} {w : World} {A : Around} {E : Value → Shared → Prop} {s : Shared}
/-- a list of texts stands at an address -/
noncomputable def TxL (h : Heap) (xs : List (List Nat)) (v : Value) : Prop := ∃ (a : Addr) (us : Array Value), v = .ref a ∧ h.IsList a us ∧ us.size = xs.length ∧ ∀ (i : Nat) (q : i < us.size), IsTx (xs.getD i []) us[i]
theorem TxL.keeps {h h' : Heap} {xs v} (x : TxL h xs v) (k : HLe h h') : TxL h' xs v :=
  let ⟨a, us, e, ⟨o, ho, r⟩, q⟩ := x; ⟨a, us, e, ⟨o, k _ _ ho, r⟩, q⟩
theorem cmp_lt {xs ys : List (List Nat)} {u v : Value} {Q : Value → Shared → Prop} (hx : TxL s.heap xs u) (hy : TxL s.heap ys v) (hu : A.units < cLine) (h : Q (.bool (ltL xs ys)) s) : wpAny (model prog w) A (richCompare .Lt u v) Q E s := by
  obtain ⟨a, us, rfl, ⟨⟨c1, d1, t1, s1⟩, h1, hc1, n1, hd1⟩, hz1, ht1⟩ := hx
  obtain ⟨b, vs, rfl, ⟨⟨c2, d2, t2, s2⟩, h2, hc2, n2, hd2⟩, hz2, ht2⟩ := hy
  simp only at hc1 hd1 hc2 hd2
  subst hc1 hd1 hc2 hd2
  refine richCompare_meets_room (op := .Lt) (T := "list") ⟨_, h1, rfl⟩ ⟨_, h2, rfl⟩ F.slot_list_lt F.entry_list_lt (F.args_list_lt_2 _ _) (list_lt a b us vs n1 n2 xs ys hz1 hz2 ht1 ht2) ⟨h1, h2, ?_⟩ hu
  exact ⟨by simp, h⟩
theorem cmp_gt {xs ys : List (List Nat)} {u v : Value} {Q : Value → Shared → Prop} (hx : TxL s.heap xs u) (hy : TxL s.heap ys v) (hu : A.units < cLine) (h : Q (.bool (ltL ys xs)) s) : wpAny (model prog w) A (richCompare .Gt u v) Q E s := by
  obtain ⟨a, us, rfl, ⟨⟨c1, d1, t1, s1⟩, h1, hc1, n1, hd1⟩, hz1, ht1⟩ := hx
  obtain ⟨b, vs, rfl, ⟨⟨c2, d2, t2, s2⟩, h2, hc2, n2, hd2⟩, hz2, ht2⟩ := hy
  simp only at hc1 hd1 hc2 hd2
  subst hc1 hd1 hc2 hd2
  refine richCompare_meets_room (op := .Gt) (T := "list") ⟨_, h1, rfl⟩ ⟨_, h2, rfl⟩ F.slot_list_gt F.entry_list_gt (F.args_list_gt_2 _ _) (list_gt a b us vs n1 n2 xs ys hz1 hz2 ht1 ht2) ⟨h1, h2, ?_⟩ hu
  exact ⟨by simp, h⟩
theorem min_loop {I S l : Addr} {items : Array Value} {xss : List (List (List Nat))} {h₀ h₁ : Heap} (hk1 : HLe h₁ h₀) {R : Result → Shared → Prop} (hh : A.handled = none) (hu : A.in1.units < cLine) (hz : items.size = xss.length) (hS : S ≠ I ∧ S ≠ l) (hIl : I ≠ l) (hI0 : h₀.get? I = none) (hS0 : h₀.get? S = none)
    (hx : ∀ (i : Nat) (q : i < items.size), TxL h₁ (xss.getD i []) items[i]) :
    ∀ (k j : Nat) (s : Shared) (v : Value) (cur : List (List Nat)) (c : Nat), items.size - j = k → j ≤ items.size → HLe h₀ s.heap → s.heap.IsListIter I l j → s.heap.IsList l items → TxL h₁ cur v →
    s.heap.get? S = some { cls := .type "list", dict := none, data := .seq #[v, v] c, slots := #[] } →
    (∀ u h' tk, HLe h₀ h' → TxL h₁ ((xss.drop j).foldl (fun c x => if ltL x c then x else c) cur) u → R (.ok (.ret u)) { s with heap := h', toks := tk }) →
    codeAny (model prog w) A (.builtin "min.loop" ⟨[.ref I, .none, .ref S], []⟩) R s := by
  have hname : (toString "min" ++ toString ".loop" : String) = "min.loop" := by decide
  intro k
  induction k with
  | zero =>
    intro j s v cur c hk hj hle hit hl hv hSo hR
    have hjn : j = items.size := by omega
    subst hjn
    refine codeAny_builtin F.entry_min_loop ?_
    rw [Around.under_plainId F.plain_min_loop _]
    show wpAny _ A.in1 (seqItems? (.ref S) >>= _) _ _ s
    refine wpAny_bind (wpAny_seqItems hSo rfl ?_)
    show wpAny _ A.in1 (tryCatch (pyNext (.ref I)) _ >>= _) _ _ s
    refine wpAny_bind (wpAny_tryCatch (wpAny_pyNext_list_end hh hit hl (by simp) fun h' he => ?_))
    show wpAny _ A.in1 (updateSeq S (fun _ => #[]) >>= _) _ _ _
    refine wpAny_bind (wpAny_updateSeq (he S _ hS.1 hSo) rfl (wpAny_bind (wpAny_letGo (wpAny_pure ?_))))
    refine hR v _ s.toks (fun b o e => (Heap.get?_update_other _ _ (fun q => by rw [← q, hS0] at e; cases e)).trans (he b o (fun q => by rw [q, hI0] at e; cases e) (hle b o e))) ?_
    rw [List.drop_eq_nil_of_le (by omega)]
    exact hv
  | succ k ih =>
    intro j s v cur c hk hj hle hit hl hv hSo hR
    have hlt : j < items.size := by omega
    have dx : xss.drop j = xss.getD j [] :: xss.drop (j + 1) := by
      rw [List.drop_eq_getElem_cons (by omega : j < xss.length)]
      simp [List.getD, (by omega : j < xss.length)]
    have hv2 := hx j hlt
    refine codeAny_builtin F.entry_min_loop ?_
    rw [Around.under_plainId F.plain_min_loop _]
    show wpAny _ A.in1 (seqItems? (.ref S) >>= _) _ _ s
    refine wpAny_bind (wpAny_seqItems hSo rfl ?_)
    show wpAny _ A.in1 (tryCatch (pyNext (.ref I)) _ >>= _) _ _ s
    refine wpAny_bind (wpAny_tryCatch (wpAny_pyNext_list_item hit hl (x := items[j]) (by simp [hlt]) fun h' hit' hs => ?_))
    have hS' : h'.get? S = _ := (hs.2 S hS.1).trans hSo
    have hle' : HLe h₀ h' := fun b o e => (hs.2 b fun q => by rw [q, hI0] at e; cases e).trans (hle b o e)
    have hl' : h'.IsList l items := let ⟨o, e, r⟩ := hl; ⟨o, (hs.2 l (Ne.symm hIl)).trans e, r⟩
    show wpAny _ A.in1 (tryCatch (holding [items[j], items[j]] (richCompare .Lt items[j] v >>= _)) _ >>= _) _ _ _
    refine wpAny_bind (wpAny_tryCatch (wpAny_holding (wpAny_bind (cmp_lt (s := { s with heap := h' }) (hv2.keeps (hk1.trans hle')) (hv.keeps (hk1.trans hle')) hu ?_))))
    refine wpAny_bind (wpAny_holding (wpAny_truthy_bool ?_))
    refine wpAny_bind (wpAny_letGo (wpAny_pure ?_))
    rw [dx, List.foldl_cons] at hR
    cases hb : ltL (xss.getD j []) cur with
    | true =>
      rw [hb] at hR
      simp only [if_true] at hR ⊢
      refine wpAny_bind ?_
      refine wpAny_updateSeq hS' rfl (wpAny_bind (wpAny_letGo ?_))
      rw [hname]
      refine wpAny_pure ⟨plainId_quiet F.plain_min_loop _, ih (j + 1) _ items[j] (xss.getD j []) _ (by omega) hlt (fun b o e => (Heap.get?_update_other _ _ (fun q => by rw [← q, hS0] at e; cases e)).trans (hle' b o e))
        (let ⟨o, e, r⟩ := hit'; ⟨o, (Heap.get?_update_other _ _ hS.1).trans e, r⟩) (let ⟨o, e, r⟩ := hl'; ⟨o, (Heap.get?_update_other _ _ hS.2).trans e, r⟩) hv2 (Heap.get?_update_self _ hS' rfl) fun u h2 tk k2 x2 => hR u h2 tk k2 x2⟩
    | false =>
      rw [hb] at hR
      simp only [Bool.false_eq_true, if_false] at hR ⊢
      refine wpAny_bind (wpAny_letGo ?_)
      rw [hname]
      exact wpAny_pure ⟨plainId_quiet F.plain_min_loop _, ih (j + 1) _ v cur c (by omega) hlt hle' hit' hl' hv hS' fun u h2 tk k2 x2 => hR u h2 tk k2 x2⟩
theorem max_loop {I S l : Addr} {items : Array Value} {xss : List (List (List Nat))} {h₀ h₁ : Heap} (hk1 : HLe h₁ h₀) {R : Result → Shared → Prop} (hh : A.handled = none) (hu : A.in1.units < cLine) (hz : items.size = xss.length) (hS : S ≠ I ∧ S ≠ l) (hIl : I ≠ l) (hI0 : h₀.get? I = none) (hS0 : h₀.get? S = none)
    (hx : ∀ (i : Nat) (q : i < items.size), TxL h₁ (xss.getD i []) items[i]) :
    ∀ (k j : Nat) (s : Shared) (v : Value) (cur : List (List Nat)) (c : Nat), items.size - j = k → j ≤ items.size → HLe h₀ s.heap → s.heap.IsListIter I l j → s.heap.IsList l items → TxL h₁ cur v →
    s.heap.get? S = some { cls := .type "list", dict := none, data := .seq #[v, v] c, slots := #[] } →
    (∀ u h' tk, HLe h₀ h' → TxL h₁ ((xss.drop j).foldl (fun c x => if ltL c x then x else c) cur) u → R (.ok (.ret u)) { s with heap := h', toks := tk }) →
    codeAny (model prog w) A (.builtin "max.loop" ⟨[.ref I, .none, .ref S], []⟩) R s := by
  have hname : (toString "max" ++ toString ".loop" : String) = "max.loop" := by decide
  intro k
  induction k with
  | zero =>
    intro j s v cur c hk hj hle hit hl hv hSo hR
    have hjn : j = items.size := by omega
    subst hjn
    refine codeAny_builtin F.entry_max_loop ?_
    rw [Around.under_plainId F.plain_max_loop _]
    show wpAny _ A.in1 (seqItems? (.ref S) >>= _) _ _ s
    refine wpAny_bind (wpAny_seqItems hSo rfl ?_)
    show wpAny _ A.in1 (tryCatch (pyNext (.ref I)) _ >>= _) _ _ s
    refine wpAny_bind (wpAny_tryCatch (wpAny_pyNext_list_end hh hit hl (by simp) fun h' he => ?_))
    show wpAny _ A.in1 (updateSeq S (fun _ => #[]) >>= _) _ _ _
    refine wpAny_bind (wpAny_updateSeq (he S _ hS.1 hSo) rfl (wpAny_bind (wpAny_letGo (wpAny_pure ?_))))
    refine hR v _ s.toks (fun b o e => (Heap.get?_update_other _ _ (fun q => by rw [← q, hS0] at e; cases e)).trans (he b o (fun q => by rw [q, hI0] at e; cases e) (hle b o e))) ?_
    rw [List.drop_eq_nil_of_le (by omega)]
    exact hv
  | succ k ih =>
    intro j s v cur c hk hj hle hit hl hv hSo hR
    have hlt : j < items.size := by omega
    have dx : xss.drop j = xss.getD j [] :: xss.drop (j + 1) := by
      rw [List.drop_eq_getElem_cons (by omega : j < xss.length)]
      simp [List.getD, (by omega : j < xss.length)]
    have hv2 := hx j hlt
    refine codeAny_builtin F.entry_max_loop ?_
    rw [Around.under_plainId F.plain_max_loop _]
    show wpAny _ A.in1 (seqItems? (.ref S) >>= _) _ _ s
    refine wpAny_bind (wpAny_seqItems hSo rfl ?_)
    show wpAny _ A.in1 (tryCatch (pyNext (.ref I)) _ >>= _) _ _ s
    refine wpAny_bind (wpAny_tryCatch (wpAny_pyNext_list_item hit hl (x := items[j]) (by simp [hlt]) fun h' hit' hs => ?_))
    have hS' : h'.get? S = _ := (hs.2 S hS.1).trans hSo
    have hle' : HLe h₀ h' := fun b o e => (hs.2 b fun q => by rw [q, hI0] at e; cases e).trans (hle b o e)
    have hl' : h'.IsList l items := let ⟨o, e, r⟩ := hl; ⟨o, (hs.2 l (Ne.symm hIl)).trans e, r⟩
    show wpAny _ A.in1 (tryCatch (holding [items[j], items[j]] (richCompare .Gt items[j] v >>= _)) _ >>= _) _ _ _
    refine wpAny_bind (wpAny_tryCatch (wpAny_holding (wpAny_bind (cmp_gt (s := { s with heap := h' }) (hv2.keeps (hk1.trans hle')) (hv.keeps (hk1.trans hle')) hu ?_))))
    refine wpAny_bind (wpAny_holding (wpAny_truthy_bool ?_))
    refine wpAny_bind (wpAny_letGo (wpAny_pure ?_))
    rw [dx, List.foldl_cons] at hR
    cases hb : ltL cur (xss.getD j []) with
    | true =>
      rw [hb] at hR
      simp only [if_true] at hR ⊢
      refine wpAny_bind ?_
      refine wpAny_updateSeq hS' rfl (wpAny_bind (wpAny_letGo ?_))
      rw [hname]
      refine wpAny_pure ⟨plainId_quiet F.plain_max_loop _, ih (j + 1) _ items[j] (xss.getD j []) _ (by omega) hlt (fun b o e => (Heap.get?_update_other _ _ (fun q => by rw [← q, hS0] at e; cases e)).trans (hle' b o e))
        (let ⟨o, e, r⟩ := hit'; ⟨o, (Heap.get?_update_other _ _ hS.1).trans e, r⟩) (let ⟨o, e, r⟩ := hl'; ⟨o, (Heap.get?_update_other _ _ hS.2).trans e, r⟩) hv2 (Heap.get?_update_self _ hS' rfl) fun u h2 tk k2 x2 => hR u h2 tk k2 x2⟩
    | false =>
      rw [hb] at hR
      simp only [Bool.false_eq_true, if_false] at hR ⊢
      refine wpAny_bind (wpAny_letGo ?_)
      rw [hname]
      exact wpAny_pure ⟨plainId_quiet F.plain_max_loop _, ih (j + 1) _ v cur c (by omega) hlt hle' hit' hl' hv hS' fun u h2 tk k2 x2 => hR u h2 tk k2 x2⟩
end
end Mine

end
section
set_option Elab.async false
set_option maxRecDepth 100000
namespace Mine
section
variable {prog : Program} {w : World} {A : Around} {E : Value → Shared → Prop} {s : Shared}
theorem call_minL {a : Addr} {items : Array Value} {x₀ : List (List Nat)} {xss : List (List (List Nat))} {h₁ : Heap} {Q : Value → Shared → Prop} (hh : A.handled = none) (hu : A.in1.units < cLine) (hl : s.heap.IsList a items) (hz : items.size = (x₀ :: xss).length) (hk1 : HLe h₁ s.heap)
    (hx : ∀ (i : Nat) (q : i < items.size), TxL h₁ ((x₀ :: xss).getD i []) items[i])
    (hQ : ∀ u h' tk, HLe s.heap h' → TxL h₁ (xss.foldl (fun c x => if ltL x c then x else c) x₀) u → Q u { s with heap := h', toks := tk }) : wpAny (model prog w) A (call (.builtin "min") [.ref a]) Q E s := by
  have hname : (toString "min" ++ toString ".loop" : String) = "min.loop" := by decide
  have h0 : 0 < items.size := by rw [hz]; simp
  have hal : s.heap.objs.size ≠ a := by obtain ⟨o, e, _⟩ := hl; exact Nat.ne_of_gt (Heap.lt_size e)
  have hal2 : s.heap.objs.size + 1 ≠ a := by obtain ⟨o, e, _⟩ := hl; exact Nat.ne_of_gt (Nat.lt_succ_of_lt (Heap.lt_size e))
  have hI0 : s.heap.get? s.heap.objs.size = none := by
    cases e : s.heap.get? s.heap.objs.size with
    | none => rfl
    | some o => exact absurd (Heap.lt_size e) (Nat.lt_irrefl _)
  have hS0 : s.heap.get? (s.heap.objs.size + 1) = none := by
    cases e : s.heap.get? (s.heap.objs.size + 1) with
    | none => rfl
    | some o => exact absurd (Heap.lt_size e) (Nat.not_lt.mpr (Nat.le_succ _))
  refine call_function_tree F.kind_min F.plain_min F.entry_min (F.args_min1 _) ?_
  show wpAny _ A.in1 (Builtin.Builtins.bindParams "min" ["key", "default"] 0 ⟨[], []⟩ >>= _) _ _ s
  refine wpAny_bind (wpAny_of_eq (show Builtin.Builtins.bindParams "min" ["key", "default"] 0 ⟨[], []⟩ = pure [none, none] from rfl) ?_)
  refine wpAny_bind (wpAny_pure ?_)
  refine wpAny_bind (wpAny_pyIter_list hl ?_)
  refine wpAny_bind (wpAny_newObj_type ?_)
  rw [hname]
  have hsz : (s.heap.push { cls := .type "list_iterator", data := .fields #[.ref a, .int 0 0] }).objs.size = s.heap.objs.size + 1 := Heap.size_push ..
  have hS := Heap.get?_push_size (s.heap.push { cls := .type "list_iterator", data := .fields #[.ref a, .int 0 0] }) (o := { cls := .type "list", data := .seq ([] : List Value).toArray }) rfl
  dsimp only
  rw [hsz] at hS ⊢
  have hI : ((s.heap.push { cls := .type "list_iterator", data := .fields #[.ref a, .int 0 0] }).push { cls := .type "list", data := .seq ([] : List Value).toArray }).IsListIter s.heap.objs.size a 0 := ⟨_, Heap.get?_push_of_some _ (Heap.get?_push_size _ rfl), rfl, rfl⟩
  have hL : ((s.heap.push { cls := .type "list_iterator", data := .fields #[.ref a, .int 0 0] }).push { cls := .type "list", data := .seq ([] : List Value).toArray }).IsList a items := let ⟨o, e, r⟩ := hl; ⟨o, Heap.get?_push_of_some _ (Heap.get?_push_of_some _ e), r⟩
  have hK : HLe s.heap ((s.heap.push { cls := .type "list_iterator", data := .fields #[.ref a, .int 0 0] }).push { cls := .type "list", data := .seq ([] : List Value).toArray }) := fun b o e => Heap.get?_push_of_some _ (Heap.get?_push_of_some _ e)
  generalize (s.heap.push { cls := .type "list_iterator", data := .fields #[.ref a, .int 0 0] }).push { cls := .type "list", data := .seq ([] : List Value).toArray } = H at *
  refine wpAny_pure ⟨plainId_quiet F.plain_min_loop _, codeAny_builtin F.entry_min_loop ?_⟩
  rw [Around.under_plainId F.plain_min_loop _]
  show wpAny _ A.in1 (seqItems? (.ref (s.heap.objs.size + 1)) >>= _) _ _ _
  refine wpAny_bind (wpAny_seqItems hS rfl ?_)
  show wpAny _ A.in1 (tryCatch (pyNext (.ref s.heap.objs.size)) _ >>= _) _ _ _
  refine wpAny_bind (wpAny_tryCatch (wpAny_pyNext_list_item hI hL (x := items[0]) (by simp [h0]) fun h' hit' hs => ?_))
  have hne : s.heap.objs.size + 1 ≠ s.heap.objs.size := Nat.succ_ne_self _
  have hS' := (hs.2 (s.heap.objs.size + 1) hne).trans hS
  show wpAny _ A.in1 (updateSeq (s.heap.objs.size + 1) (fun _ => #[items[0], items[0]]) >>= _) _ _ _
  refine wpAny_bind ?_
  refine wpAny_updateSeq hS' rfl ?_
  rw [hname]
  refine wpAny_pure ⟨plainId_quiet F.plain_min_loop _, min_loop (h₀ := s.heap) (h₁ := h₁) (xss := x₀ :: xss) hk1 hh hu hz ⟨hne, hal2⟩ hal hI0 hS0 hx _ 1 _ items[0] x₀ _ rfl (by omega)
    (fun b o e => (Heap.get?_update_other _ _ (fun q => by rw [← q, hS0] at e; cases e)).trans ((hs.2 b fun q => by rw [q, hI0] at e; cases e).trans (hK b o e)))
    (let ⟨o, e, r⟩ := hit'; ⟨o, (Heap.get?_update_other _ _ hne).trans e, r⟩) (let ⟨o, e, r⟩ := hL; ⟨o, (Heap.get?_update_other _ _ hal2).trans ((hs.2 a (Ne.symm hal)).trans e), r⟩) (hx 0 h0) (Heap.get?_update_self _ hS' rfl) fun u h2 tk k2 x2 => ?_⟩
  exact hQ u h2 tk k2 x2
theorem call_maxL {a : Addr} {items : Array Value} {x₀ : List (List Nat)} {xss : List (List (List Nat))} {h₁ : Heap} {Q : Value → Shared → Prop} (hh : A.handled = none) (hu : A.in1.units < cLine) (hl : s.heap.IsList a items) (hz : items.size = (x₀ :: xss).length) (hk1 : HLe h₁ s.heap)
    (hx : ∀ (i : Nat) (q : i < items.size), TxL h₁ ((x₀ :: xss).getD i []) items[i])
    (hQ : ∀ u h' tk, HLe s.heap h' → TxL h₁ (xss.foldl (fun c x => if ltL c x then x else c) x₀) u → Q u { s with heap := h', toks := tk }) : wpAny (model prog w) A (call (.builtin "max") [.ref a]) Q E s := by
  have hname : (toString "max" ++ toString ".loop" : String) = "max.loop" := by decide
  have h0 : 0 < items.size := by rw [hz]; simp
  have hal : s.heap.objs.size ≠ a := by obtain ⟨o, e, _⟩ := hl; exact Nat.ne_of_gt (Heap.lt_size e)
  have hal2 : s.heap.objs.size + 1 ≠ a := by obtain ⟨o, e, _⟩ := hl; exact Nat.ne_of_gt (Nat.lt_succ_of_lt (Heap.lt_size e))
  have hI0 : s.heap.get? s.heap.objs.size = none := by
    cases e : s.heap.get? s.heap.objs.size with
    | none => rfl
    | some o => exact absurd (Heap.lt_size e) (Nat.lt_irrefl _)
  have hS0 : s.heap.get? (s.heap.objs.size + 1) = none := by
    cases e : s.heap.get? (s.heap.objs.size + 1) with
    | none => rfl
    | some o => exact absurd (Heap.lt_size e) (Nat.not_lt.mpr (Nat.le_succ _))
  refine call_function_tree F.kind_max F.plain_max F.entry_max (F.args_max1 _) ?_
  show wpAny _ A.in1 (Builtin.Builtins.bindParams "max" ["key", "default"] 0 ⟨[], []⟩ >>= _) _ _ s
  refine wpAny_bind (wpAny_of_eq (show Builtin.Builtins.bindParams "max" ["key", "default"] 0 ⟨[], []⟩ = pure [none, none] from rfl) ?_)
  refine wpAny_bind (wpAny_pure ?_)
  refine wpAny_bind (wpAny_pyIter_list hl ?_)
  refine wpAny_bind (wpAny_newObj_type ?_)
  rw [hname]
  have hsz : (s.heap.push { cls := .type "list_iterator", data := .fields #[.ref a, .int 0 0] }).objs.size = s.heap.objs.size + 1 := Heap.size_push ..
  have hS := Heap.get?_push_size (s.heap.push { cls := .type "list_iterator", data := .fields #[.ref a, .int 0 0] }) (o := { cls := .type "list", data := .seq ([] : List Value).toArray }) rfl
  dsimp only
  rw [hsz] at hS ⊢
  have hI : ((s.heap.push { cls := .type "list_iterator", data := .fields #[.ref a, .int 0 0] }).push { cls := .type "list", data := .seq ([] : List Value).toArray }).IsListIter s.heap.objs.size a 0 := ⟨_, Heap.get?_push_of_some _ (Heap.get?_push_size _ rfl), rfl, rfl⟩
  have hL : ((s.heap.push { cls := .type "list_iterator", data := .fields #[.ref a, .int 0 0] }).push { cls := .type "list", data := .seq ([] : List Value).toArray }).IsList a items := let ⟨o, e, r⟩ := hl; ⟨o, Heap.get?_push_of_some _ (Heap.get?_push_of_some _ e), r⟩
  have hK : HLe s.heap ((s.heap.push { cls := .type "list_iterator", data := .fields #[.ref a, .int 0 0] }).push { cls := .type "list", data := .seq ([] : List Value).toArray }) := fun b o e => Heap.get?_push_of_some _ (Heap.get?_push_of_some _ e)
  generalize (s.heap.push { cls := .type "list_iterator", data := .fields #[.ref a, .int 0 0] }).push { cls := .type "list", data := .seq ([] : List Value).toArray } = H at *
  refine wpAny_pure ⟨plainId_quiet F.plain_max_loop _, codeAny_builtin F.entry_max_loop ?_⟩
  rw [Around.under_plainId F.plain_max_loop _]
  show wpAny _ A.in1 (seqItems? (.ref (s.heap.objs.size + 1)) >>= _) _ _ _
  refine wpAny_bind (wpAny_seqItems hS rfl ?_)
  show wpAny _ A.in1 (tryCatch (pyNext (.ref s.heap.objs.size)) _ >>= _) _ _ _
  refine wpAny_bind (wpAny_tryCatch (wpAny_pyNext_list_item hI hL (x := items[0]) (by simp [h0]) fun h' hit' hs => ?_))
  have hne : s.heap.objs.size + 1 ≠ s.heap.objs.size := Nat.succ_ne_self _
  have hS' := (hs.2 (s.heap.objs.size + 1) hne).trans hS
  show wpAny _ A.in1 (updateSeq (s.heap.objs.size + 1) (fun _ => #[items[0], items[0]]) >>= _) _ _ _
  refine wpAny_bind ?_
  refine wpAny_updateSeq hS' rfl ?_
  rw [hname]
  refine wpAny_pure ⟨plainId_quiet F.plain_max_loop _, max_loop (h₀ := s.heap) (h₁ := h₁) (xss := x₀ :: xss) hk1 hh hu hz ⟨hne, hal2⟩ hal hI0 hS0 hx _ 1 _ items[0] x₀ _ rfl (by omega)
    (fun b o e => (Heap.get?_update_other _ _ (fun q => by rw [← q, hS0] at e; cases e)).trans ((hs.2 b fun q => by rw [q, hI0] at e; cases e).trans (hK b o e)))
    (let ⟨o, e, r⟩ := hit'; ⟨o, (Heap.get?_update_other _ _ hne).trans e, r⟩) (let ⟨o, e, r⟩ := hL; ⟨o, (Heap.get?_update_other _ _ hal2).trans ((hs.2 a (Ne.symm hal)).trans e), r⟩) (hx 0 h0) (Heap.get?_update_self _ hS' rfl) fun u h2 tk k2 x2 => ?_⟩
  exact hQ u h2 tk k2 x2
end
end Mine

end
section
set_option Elab.async false
set_option maxRecDepth 100000
namespace Mine
/-- more addresses are hidden, not owned -/
noncomputable def Cx.hidL (c : Cx) (W : List Addr) : Cx := { c with mu := W ++ c.mu }
theorem Cx.Ok.hidL {c : Cx} {T : Scope} (k : c.Ok T) (W : List Addr) : (c.hidL W).Ok T :=
  { scope := k.scope, kind := k.kind, glob := k.glob, blt := k.blt, loc := k.loc, sub := fun a ha => List.mem_append_right _ (k.sub a ha), off := k.off, cell := k.cell, inj := k.inj, free := k.free }
/-- the same frame, another word of the generators -/
noncomputable def Cx.wJ (c : Cx) (J : Js) : Cx := { c with J := J }
theorem Cx.Ok.wJ {c : Cx} {T : Scope} (k : c.Ok T) (J : Js) : (c.wJ J).Ok T :=
  { scope := k.scope, kind := k.kind, glob := k.glob, blt := k.blt, loc := k.loc, sub := k.sub, off := k.off, cell := k.cell, inj := k.inj, free := k.free }
theorem St.wJ {c : Cx} {ρ : Rho} {s : Shared} (x : St c ρ s) {J : Js} (h : J s.gens s.os) : St (c.wJ J) ρ s where
  j := h
  keep := x.keep
  ns := x.ns
  cells := x.cells
  vars := x.vars
  mutd := x.mutd
  low := x.low
theorem Grow.wJ {c c' : Cx} {T : Scope} {J : Js} (ok : c.Ok T) (g : Grow T (c.wJ J) c') : ∃ c'', Grow T c c'' ∧ c' = c''.wJ J := by
  obtain ⟨⟨n, hn, e⟩, ok'⟩ := g
  subst e
  exact ⟨{ c with ow := n ++ c.ow, mu := n ++ c.mu }, ⟨⟨n, hn, rfl⟩, { scope := ok'.scope, kind := ok'.kind, glob := ok'.glob, blt := ok'.blt, loc := ok'.loc, sub := ok'.sub, off := ok'.off, cell := ok'.cell, inj := ok'.inj, free := ok'.free }⟩, rfl⟩

/-- only the hidden of W are changed -/
theorem St.hopL {c c' : Cx} {T : Scope} {ρ : Rho} {s s' : Shared} {W : List Addr} (x : St c ρ s) (ok : c.Ok T) (hW : ∀ a ∈ W, a ∈ c.mu ∧ a ∉ c.ow ∧ c.h₀.get? a = none ∧ ∀ us, ¬ s.heap.PlainList a us)
    (ho : c'.ow = c.ow) (he : c'.env = c.env) (hj : c'.J s'.gens s'.os) (hh : c'.h₀ = c.h₀) (hm : ∀ a ∈ c'.mu, a ∈ c.mu) (hk : ∀ b ob, b ∉ W → s.heap.get? b = some ob → s'.heap.get? b = some ob) (hl : ∀ a ∈ c'.mu, ∃ o, s'.heap.get? a = some o) :
    St c' ρ s' ∧ HLe (c.vis s.heap) (c'.vis s'.heap) := by
  have hv : HLe (c.vis s.heap) (c'.vis s'.heap) := fun b ob e => by
    have hb : b ∉ c.mu := fun q => by rw [show c.vis s.heap = hideAll s.heap c.mu from rfl, hideAll_none _ q] at e; cases e
    exact hideAll_get _ (hk b ob (fun q => hb (hW b q).1) (of_hideAll _ e)) fun q => hb (hm b q)
  have hne : ∀ {b : Addr}, b ∈ c.ow → b ∉ W := fun hb q => (hW _ q).2.1 hb
  have h0 : ∀ {b : Addr} {o}, c.h₀.get? b = some o → b ∉ W := fun e q => by rw [(hW _ q).2.2.1] at e; cases e
  have nm : ∀ w u, Nm c s.heap w u → Nm c' s'.heap w u := by
    intro w u nn
    rcases nn with ⟨e, m, nn, q⟩ | ⟨e, a, nn, q⟩
    · obtain ⟨o', es, ep, ho', r⟩ := nn
      exact .inl ⟨by rw [he]; exact e, m, by rw [he]; exact ⟨o', es, ep, hk _ _ (hne ok.loc) ho', r⟩, q⟩
    · obtain ⟨o', ho', hd'⟩ := q
      refine .inr ⟨by rw [he]; exact e, a, by rw [he]; exact nn, o', hk _ _ ?_ ho', hd'⟩
      rcases e with e | e
      · obtain ⟨a', e2, e3⟩ := ok.cell w (by rw [← ok.scope]; exact e)
        rw [nn] at e2; cases e2
        rcases e3 with e3 | ⟨_, o2, e3⟩
        · exact hne e3
        · exact h0 e3
      · obtain ⟨a', o2, e2, e3⟩ := ok.free w (by rw [← ok.scope]; exact e)
        rw [nn] at e2; cases e2
        exact h0 e3
  have mn : ∀ w u, Nm c' s'.heap w u → (∃ v, Nm c s.heap w v) → Nm c s.heap w u := fun w u n ⟨v, q⟩ => by
    have := (nm _ _ q).fun n; subst this; exact q
  refine ⟨⟨hj, fun b ob e => hk b ob (h0 (by rw [← hh]; exact e)) (x.keep b ob (by rw [← hh]; exact e)), ?_, fun z a e e' => ?_, fun z sl e => ?_, fun z w xs ys a e e' n1 n2 => ?_, hl⟩, hv⟩
  · obtain ⟨m, o', es, ep, ho', r⟩ := x.ns
    exact ⟨m, by rw [he]; exact ⟨o', es, ep, hk _ _ (hne ok.loc) ho', r⟩⟩
  · rw [he] at e e'
    obtain ⟨v, o', ho', hd'⟩ := x.cells z a e e'
    obtain ⟨a', e2, e3⟩ := ok.cell z (by rw [← ok.scope]; exact e)
    rw [e'] at e2; cases e2
    refine ⟨v, o', hk _ _ ?_ ho', hd'⟩
    rcases e3 with e3 | ⟨_, o2, e3⟩
    · exact hne e3
    · exact h0 e3
  · obtain ⟨u, nn, q⟩ := x.vars z sl e
    refine ⟨u, nm _ _ nn, ?_⟩
    cases sl with
    | val v => exact RV.mono hv q
    | «mut» xs => obtain ⟨b, us, e, hb', ⟨n', q⟩, r⟩ := q; exact ⟨b, us, e, ho ▸ hb', ⟨n', hk _ _ (hne hb') q⟩, RVs.mono hv r⟩
    | rd xs =>
      obtain ⟨b, us, e, hb', ⟨n', q⟩, r⟩ := q
      exact ⟨b, us, e, ho ▸ hb', ⟨n', hk _ _ (fun q' => (hW b q').2.2.2 us.toArray ⟨n', q⟩) q⟩, RVs.mono hv r⟩
    | app w => obtain ⟨a, b, n', e, q⟩ := q; exact ⟨a, b, nm _ _ n', e, q.keeps hv⟩
  · obtain ⟨u, q, _⟩ := x.vars z _ e
    obtain ⟨u', q', _⟩ := x.vars w _ e'
    exact x.mutd z w xs ys a e e' (mn _ _ n1 ⟨u, q⟩) (mn _ _ n2 ⟨u', q'⟩)

/-- fresh addresses are hidden -/
theorem St.hideL {c : Cx} {T : Scope} {ρ : Rho} {s s₂ : Shared} {W : List Addr} (x : St c ρ s) (hle : HLe s.heap s₂.heap) (hj : c.J s₂.gens s₂.os) (hW : ∀ a ∈ W, s.heap.get? a = none ∧ ∃ o, s₂.heap.get? a = some o) :
    St (c.hidL W) ρ s₂ ∧ HLe (c.vis s.heap) ((c.hidL W).vis s₂.heap) ∧ ∀ C : Cfg, C.Base (c.vis c.h₀) → C.Base ((c.hidL W).vis (c.hidL W).h₀) := by
  have hv0 : HLe (c.vis s.heap) ((c.hidL W).vis s₂.heap) := fun b ob e => hideAll_get _ (hle _ _ (of_hideAll _ e)) fun q => by
    rcases List.mem_append.mp q with q | q
    · have h1 := of_hideAll _ e; rw [(hW b q).1] at h1; cases h1
    · rw [show c.vis s.heap = hideAll s.heap c.mu from rfl, hideAll_none _ q] at e; cases e
  refine ⟨x.re hv0 rfl rfl hle hj (x.keep.trans hle) fun a ha => ?_, hv0, fun C bs => bs.keeps fun b ob e => hideAll_get _ (of_hideAll _ e) fun q => ?_⟩
  · rcases List.mem_append.mp ha with ha | ha
    · exact (hW a ha).2
    · obtain ⟨ob, e⟩ := x.low a ha; exact ⟨ob, hle _ _ e⟩
  · rcases List.mem_append.mp q with q | q
    · have h1 := x.keep _ _ (of_hideAll _ e); rw [(hW b q).1] at h1; cases h1
    · rw [show c.vis c.h₀ = hideAll c.h₀ c.mu from rfl, hideAll_none _ q] at e; cases e

/-- out of the hiding again: only W has changed since -/
theorem St.outL {c c' : Cx} {T : Scope} {ρ : Rho} {s s' : Shared} {W : List Addr} (x : St c' ρ s) (ok : c.Ok T) (hown : c.own = true) (g : Grow T (c.hidL W) c') (hWc : ∀ a ∈ W, a ∉ c.mu ∧ c.h₀.get? a = none)
    (hW : ∀ a ∈ W, a ∉ c'.ow ∧ ∀ us, ¬ s.heap.PlainList a us) (hj : c.J s'.gens s'.os) (hk : ∀ b ob, b ∉ W → s.heap.get? b = some ob → s'.heap.get? b = some ob) : ∃ c'', Grow T c c'' ∧ St c'' ρ s' ∧ HLe (c'.vis s.heap) (c''.vis s'.heap) := by
  obtain ⟨⟨m, hm, e⟩, ok'⟩ := g
  subst e
  have hmu : ∀ a ∈ m ++ c.mu, a ∈ m ++ (W ++ c.mu) := fun a ha => by
    rcases List.mem_append.mp ha with ha | ha
    · exact List.mem_append_left _ ha
    · exact List.mem_append_right _ (List.mem_append_right _ ha)
  have hl : ∀ a ∈ m ++ c.mu, ∃ o, s'.heap.get? a = some o := fun a ha => by
    obtain ⟨o, e⟩ := x.low a (hmu a ha)
    refine ⟨o, hk a o (fun q => ?_) e⟩
    rcases List.mem_append.mp ha with ha | ha
    · exact (hW a q).1 (List.mem_append_left _ ha)
    · exact (hWc a q).1 ha
  have X := x.hopL (c' := { c with ow := m ++ c.ow, mu := m ++ c.mu }) (s' := s') (W := W) ok' (fun a ha => ⟨List.mem_append_right _ (List.mem_append_left _ ha), (hW a ha).1, (hWc a ha).2, (hW a ha).2⟩) rfl rfl hj rfl hmu hk hl
  refine ⟨{ c with ow := m ++ c.ow, mu := m ++ c.mu }, ⟨⟨m, fun a ha q => hm a ha (List.mem_append_right _ q), rfl⟩, { scope := ok'.scope, kind := ok'.kind, glob := ok'.glob, blt := ok'.blt, loc := ok'.loc, sub := fun a ha => ?_, off := ok'.off, cell := fun y hy => let ⟨a, e, h⟩ := ok'.cell y hy; ⟨a, e, h.elim .inl fun q => by have q1 : c.own = false := q.1; rw [hown] at q1; cases q1⟩, inj := ok'.inj, free := ok.free }⟩, X.1, X.2⟩
  rcases List.mem_append.mp ha with ha | ha
  · exact List.mem_append_left _ ha
  · exact List.mem_append_right _ (ok.sub a ha)
theorem noApp_put : ∀ {ρ : Rho} {x y : Str} {v : V}, noApp ρ y = true → noApp (put ρ x (.val v)) y = true
  | [], x, y, v, _ => rfl
  | p :: r, x, y, v, h => by
    unfold noApp at h
    rw [List.all_cons, Bool.and_eq_true] at h
    unfold put
    split
    · unfold noApp
      rw [List.all_cons, Bool.and_eq_true]
      exact ⟨rfl, h.2⟩
    · unfold noApp
      rw [List.all_cons, Bool.and_eq_true]
      exact ⟨h.1, noApp_put (ρ := r) h.2⟩
end Mine

end
section
set_option Elab.async false
set_option maxRecDepth 100000
namespace Mine
section
variable {C : Cfg} {d : Nat} {J : Js} {T : Scope} {ρ : Rho}
theorem isEnum_noList {h : Heap} {e it : Addr} {i : Int} {old : Value} (x : IsEnum h e it i old) (us) : ¬ h.PlainList e us := by
  rintro ⟨n, q⟩
  rw [x] at q; exact absurd (Value.type.inj (congrArg Obj.cls (Option.some.inj q))) (by decide)
theorem listIter_noList {h : Heap} {it l : Addr} {i : Nat} (x : h.IsListIter it l i) (us) : ¬ h.PlainList it us := by
  rintro ⟨n, q⟩
  obtain ⟨o, ho, hc, _⟩ := x
  rw [ho] at q; cases q; exact absurd (Value.type.inj hc) (by decide)
/-- for i, v in enumerate(list) -/
theorem st_forEnum {xi xv ye : Str} {pi pv pt pe pc pos : Pos} {k0 : Nat} {e : Expr} {body : List Stmt} {xs : List V} {o : Out} (k : Nat) (hE : Ev C d J T ρ (.Name ye pe) (.const (.type "enumerate"))) (h : EvA C d J T ρ pc [e] [.list xs])
    (hxi : T.names.lookup xi = some .local) (hxv : T.names.lookup xv = some .local) (hni : NoApp ρ xi) (hnv : NoApp ρ xv) (hk : k ≤ xs.length)
    (turn : ∀ i v, i < k → xs[i]? = some v → Ex C d J T (put (put ρ xi (.val (.int i))) xv (.val v)) body (.next ρ))
    (ends : (k = xs.length ∧ o = .next ρ) ∨ ∃ v ρ', xs[k]? = some v ∧ o = .next ρ' ∧ Ex C d J T (put (put ρ xi (.val (.int k))) xv (.val v)) body (.brk ρ'))
    (he : ∀ env, starEach [e] env = (false, eval e env) :: starEach [] env := by intro _; with_unfolding_all rfl) (hp : ∀ env, (backTo pc (starEach [] env)).any (·.1) = false := by intro _; with_unfolding_all rfl)
    (hs : ∀ env x, foldedSetIterable (.Call (.Name ye pe) [e] [] pc) env x = pure x := by intro _ _; with_unfolding_all rfl) :
    Ex1 C d J T ρ (.For (.Tuple [.Name xi pi, .Name xv pv] k0 pt) (.Call (.Name ye pe) [e] [] pc) body [] pos) o := by
  intro c A s Q E hJ okk bs cn x f
  have ok := okk.1
  have hown := okk.2
  refine wpAny_For ?_ (hs _)
  refine wpAny_Call_Name_kw (wpAny_mono (hE.use hJ ok bs cn x) (fun u s₀ ⟨x₀, p₀, r₀⟩ => ?_) fun _ _ e => e)
  have r₀ : u = .type "enumerate" := r₀
  subst r₀
  refine callWith_type1 (wpAny_mono (h.use hJ ok bs cn x₀) (fun us₀ s₁ ⟨x₁, p₁, r₁⟩ => ?_) fun _ _ e => e) (he _) (hp _)
  obtain ⟨ul, rfl, l, us, rfl, pl, rs⟩ := rvs1 r₁
  have hl := rs.len
  have il := isList_of pl
  obtain ⟨ol, pl', _⟩ := pl
  have hlm : l ∉ c.mu := fun q => by rw [show c.vis s₁.heap = hideAll s₁.heap c.mu from rfl, hideAll_none _ q] at pl'; cases pl'
  have hlo := of_hideAll _ pl'
  have hll : l < s₁.heap.objs.size := Heap.lt_size hlo
  refine call_enumerate_list il fun h₂ hen hit hsz hk₂ => ?_
  generalize hit0 : s₁.heap.objs.size = it at hen hit hsz hll ⊢
  generalize hen0 : it + 1 = en at hen ⊢
  have hei : en ≠ it := by rw [← hen0]; exact Nat.succ_ne_self _
  have hle : l ≠ en := by rw [← hen0]; exact Nat.ne_of_lt (Nat.lt_succ_of_lt hll)
  have hli : l ≠ it := Nat.ne_of_lt hll
  refine wpAny_pyIter_enum hen ?_
  have fresh : ∀ a, it ≤ a → s₁.heap.get? a = none := fun a ha => by
    cases q : s₁.heap.get? a with
    | none => rfl
    | some o' => exact absurd (Heap.lt_size q) (Nat.not_lt.mpr (hit0 ▸ ha))
  have hWf : ∀ a ∈ [en, it], s₁.heap.get? a = none := fun a ha => by
    rcases List.mem_cons.mp ha with q | q
    · rw [q, ← hen0]; exact fresh _ (Nat.le_succ _)
    · rw [List.mem_singleton.mp q]; exact fresh _ (Nat.le_refl _)
  have hWc : ∀ a ∈ [en, it], a ∉ c.mu ∧ c.h₀.get? a = none := fun a ha => by
    refine ⟨fun q => ?_, ?_⟩
    · obtain ⟨ob, e⟩ := x₁.low a q; rw [hWf a ha] at e; cases e
    · cases q : c.h₀.get? a with
      | none => rfl
      | some ob => have := x₁.keep _ _ q; rw [hWf a ha] at this; cases this
  obtain ⟨xW, hv0, hbW⟩ := x₁.hideL (T := T) (W := [en, it]) (s₂ := { s₁ with heap := h₂ }) hk₂ x₁.j (fun a ha => ⟨hWf a ha, by
    rcases List.mem_cons.mp ha with q | q
    · rw [q]; exact ⟨_, hen⟩
    · rw [List.mem_singleton.mp q]; obtain ⟨ob, e, _⟩ := hit; exact ⟨ob, e⟩⟩)
  have okW := ok.hidL [en, it]
  have bsW := hbW C bs
  have hl2 : h₂.IsList l us.toArray := let ⟨ob, e, r⟩ := il; ⟨ob, hk₂ _ _ e, r⟩
  let Inv : Nat → Shared → Prop := fun i s' => ∃ c', Grow T (c.hidL [en, it]) c' ∧ St c' ρ s' ∧ (∃ old, IsEnum s'.heap en it (i : Int) old) ∧ s'.heap.IsListIter it l i ∧ s'.heap.IsList l us.toArray ∧ HLe ((c.hidL [en, it]).vis h₂) (c'.vis s'.heap) ∧ ∀ b ∈ [en, it, l], b ∉ c'.ow
  have hgo : codeAny (model C.prog C.w) A (.forLoop (.Tuple [.Name xi pi, .Name xv pv] k0 pt) (.ref en) body [] c.env) (fun r s' => match r with | .ok f => Q f s' | .error e => cameBackBy (model C.prog C.w) A c.env E e s') { s₁ with heap := h₂ } := by
    refine codeAny_forLoop_any (fun j s' => ∃ i, i ≤ k ∧ j = k + 1 - i ∧ Inv i s') ?_ (k + 1) ⟨0, Nat.zero_le _, rfl, c.hidL [en, it], Grow.refl okW, xW, ⟨_, hen⟩, hit, hl2, HLe.refl _, fun b hb q => ?_⟩
    · rintro j s' ⟨i, hik, rfl, c', g, x', ⟨old, he'⟩, hit', hl', hv, hb⟩
      have e1 : c'.env = c.env := by obtain ⟨⟨m, _, e⟩, _⟩ := g; subst e; rfl
      have eJ : c'.J = J := by obtain ⟨⟨m, _, e⟩, _⟩ := g; subst e; exact hJ
      have eown : c'.own = true := by obtain ⟨⟨m, _, e⟩, _⟩ := g; subst e; exact hown
      have eh : c'.h₀ = c.h₀ := by obtain ⟨⟨m, _, e⟩, _⟩ := g; subst e; rfl
      have hWm : ∀ a ∈ [en, it], a ∈ c'.mu := fun a ha => by obtain ⟨⟨m, _, e⟩, _⟩ := g; subst e; exact List.mem_append_right _ (List.mem_append_left _ ha)
      have hWs : ∀ a ∈ [en, it], a ∈ [en, it, l] := fun a ha => by
        rcases List.mem_cons.mp ha with q | q
        · rw [q]; exact List.mem_cons_self
        · rw [List.mem_singleton.mp q]; exact List.mem_cons_of_mem _ List.mem_cons_self
      have hWn : ∀ (h : Heap) (i' : Nat) (old' : Value), IsEnum h en it (i' : Int) old' → h.IsListIter it l i' → ∀ a ∈ [en, it], ∀ us, ¬ h.PlainList a us := fun h i' old' q1 q2 a ha us => by
        rcases List.mem_cons.mp ha with q | q
        · rw [q]; exact isEnum_noList q1 us
        · rw [List.mem_singleton.mp q]; exact listIter_noList q2 us
      have hfJ : c.J = c'.J := by rw [hJ, eJ]
      by_cases hin : i < xs.length
      · have hiu : i < us.length := by rw [hl]; exact hin
        obtain ⟨u, hu, ru⟩ := rs.get i xs[i] (by simp [hin])
        have hu' : us.toArray[i]? = some u := by simpa using hu
        refine wpAny_pyNext_enum_item he' hit' hl' hu' hei fun h₃ heo hit₃ ht₃ hz₃ hk₃ => ?_
        refine wpAny_letOwnedTupleGo_enum heo fun h₄ he₄ hs₄ => ?_
        replace hs₄ : Heap.SameBut en h₃ h₄ := hs₄
        have hlt' : en < s'.heap.objs.size := Heap.lt_size he'
        have hit4 : h₄.IsListIter it l (i + 1) := let ⟨ob, e, r⟩ := hit₃; ⟨ob, (hs₄.2 it (Ne.symm hei)).trans e, r⟩
        have ht₄ : h₄.IsTuple s'.heap.objs.size #[.int i s'.toks, u] := ⟨_, (hs₄.2 _ (Nat.ne_of_gt hlt')).trans ht₃, rfl, _, rfl⟩
        have hz₄ : h₄.objs.size = s'.heap.objs.size + 1 := hs₄.1.trans hz₃
        have hk₄ : ∀ b ob, b ∉ [en, it] → s'.heap.get? b = some ob → h₄.get? b = some ob := fun b ob hb e => (hs₄.2 b fun q => hb (by rw [q]; exact List.mem_cons_self)).trans
          (hk₃ b ob (fun q => hb (by rw [q]; exact List.mem_cons_self)) (fun q => hb (by rw [q]; exact List.mem_cons_of_mem _ List.mem_cons_self)) e)
        have he4 : IsEnum h₄ en it ((i + 1 : Nat) : Int) u := by
          have : ((i + 1 : Nat) : Int) = (i : Int) + 1 := by push_cast; rfl
          rw [this]; exact he₄
        obtain ⟨x2, hv2⟩ := x'.hopL (c' := c') (s' := { s' with heap := h₄, toks := s'.toks + 1 }) (W := [en, it]) g.ok (fun a ha => ⟨hWm a ha, hb a (hWs a ha), by rw [eh]; exact (hWc a ha).2, hWn _ _ _ he' hit' a ha⟩) rfl rfl x'.j rfl (fun _ h => h) hk₄ (fun a ha => by
          by_cases q : a ∈ [en, it]
          · rcases List.mem_cons.mp q with q | q
            · rw [q]; exact ⟨_, he4⟩
            · rw [List.mem_singleton.mp q]; obtain ⟨ob, e, _⟩ := hit4; exact ⟨ob, e⟩
          · obtain ⟨ob, e⟩ := x'.low a ha; exact ⟨ob, hk₄ a ob q e⟩)
        refine wpAny_assign_Tuple (env := c.env) cn.hh ht₄ rfl rfl fun h₅ hx₅ => ?_
        replace hx₅ : Heap.ExtBut h₄.objs.size h₄ h₅ := hx₅
        have hk₅ : HLe h₄ h₅ := fun b ob e => hx₅ b ob (Nat.ne_of_lt (Heap.lt_size e)) e
        have x3 : St (c'.on h₅) ρ { s' with heap := h₅, toks := s'.toks + 1 } := (x2.grow (t := s'.toks + 1) hk₅).on
        have hk0 : HLe c'.h₀ h₅ := x2.keep.trans hk₅
        have okR : (c'.on h₅).Ok T := g.ok.on hk0
        have bR : C.Base ((c'.on h₅).vis (c'.on h₅).h₀) := (g.base bsW).keeps (vis_keeps (c := c') (on_le g.ok hk0))
        have rv : RV ((c'.on h₅).vis h₅) xs[i] u := RV.mono (((hv0.trans hv).trans hv2).trans (vis_keeps hk₅)) ru
        show wpAny (model C.prog C.w) A (assignInOrder [assign (.Name xi pi) c.env, assign (.Name xv pv) c.env] [.int i s'.toks, u]) _ _ _
        rw [← e1]
        refine wpAny_bind (wpAny_holding (PyProof.Rows.assign_Name (st_storeV (c := c'.on h₅) okR x3 (fun _ => eown) (.inl hxi) hni.eq (v := .int i) ⟨_, rfl⟩ fun h₆ t₆ x4 hv4 => ?_)))
        refine wpAny_bind (wpAny_holding (PyProof.Rows.assign_Name (st_storeV (c := c'.on h₅) okR x4 (fun _ => eown) (.inl hxv) (noApp_put hnv.eq) (RV.mono hv4 rv) fun h₇ t₇ x5 hv5 => ?_)))
        refine wpAny_pure ?_
        have hlen5 : h₅.IsList l us.toArray := by
          obtain ⟨ob, e, r⟩ := hl'
          exact ⟨ob, hk₅ _ _ (hk₄ l ob (fun q => by
            rcases List.mem_cons.mp q with q | q
            · exact hle q
            · exact hli (List.mem_singleton.mp q)) e), r⟩
        by_cases hlt : i < k
        · refine turn i xs[i] hlt (by simp [hin]) (c'.on h₅) A _ _ _ eJ ⟨okR, eown⟩ bR cn x5 fun c2 s2 g2 x6 => ?_
          obtain ⟨c3, g3, e3, e3o, up⟩ := g2.off g.ok hk0
          have hseen : ∀ b ob, b ∉ c'.ow → h₅.get? b = some ob → b ∉ c3.ow ∧ s2.heap.get? b = some ob := by
            intro b ob hbo e
            have h1 : (c'.on h₅).h₀.get? b = some ob := hideAll_get _ e hbo
            have h2 : c2.h₀ = (c'.on h₅).h₀ := by obtain ⟨⟨m, _, e⟩, _⟩ := g2; subst e; rfl
            refine ⟨fun q => ?_, x6.keep b ob (by rw [h2]; exact h1)⟩
            have h3 := g2.ok.off b (e3o ▸ q)
            rw [h2, h1] at h3; cases h3
          have s_e := hseen en _ (hb en List.mem_cons_self) (hk₅ _ _ he4)
          have s_l : ∃ ob, l ∉ c3.ow ∧ s2.heap.get? l = some ob ∧ s2.heap.IsList l us.toArray := by
            obtain ⟨ob, e, r⟩ := hlen5
            have := hseen l ob (hb l (by simp)) e
            exact ⟨ob, this.1, this.2, ob, this.2, r⟩
          have s_i : it ∉ c3.ow ∧ s2.heap.IsListIter it l (i + 1) := by
            obtain ⟨ob, e, r⟩ := hit4
            have := hseen it ob (hb it (by simp)) (hk₅ _ _ e)
            exact ⟨this.1, ob, this.2, r⟩
          refine ⟨k + 1 - (i + 1), by omega, i + 1, hlt, rfl, c3, g.trans g3, up _ _ x6, ⟨u, s_e.2⟩, s_i.2, s_l.choose_spec.2.2, ?_, fun b hb' => ?_⟩
          · refine (hv.trans (hv2.trans (vis_keeps hk₅))).trans fun b ob e => ?_
            have hbm : b ∉ c'.mu := fun q => by rw [show c'.vis h₅ = hideAll h₅ c'.mu from rfl, hideAll_none _ q] at e; cases e
            obtain ⟨h1, h2⟩ := hseen b ob (fun q => hbm (g.ok.sub b q)) (of_hideAll _ e)
            refine hideAll_get _ h2 fun q => ?_
            rw [e3] at q
            obtain ⟨⟨m, _, e5⟩, _⟩ := g2
            subst e5
            rcases List.mem_append.mp q with q | q
            · exact h1 (by rw [e3o]; exact List.mem_append_left _ q)
            · exact hbm q
          · rcases List.mem_cons.mp hb' with q | q
            · rw [q]; exact s_e.1
            · rcases List.mem_cons.mp q with q | q
              · rw [q]; exact s_i.1
              · rw [List.mem_singleton.mp q]; exact s_l.choose_spec.1
        · have hik' : i = k := by omega
          subst hik'
          rcases ends with ⟨q, _⟩ | ⟨v, ρ', hv', rfl, hbody⟩
          · omega
          have hvi : v = xs[i] := by
            have : xs[i]? = some xs[i] := by simp [hin]
            rw [this] at hv'; cases hv'; rfl
          subst hvi
          refine hbody (c'.on h₅) A _ _ _ eJ ⟨okR, eown⟩ bR cn x5 fun c2 s2 g2 x6 => ?_
          obtain ⟨c3, g3, e3, e3o, up⟩ := g2.off g.ok hk0
          have x7 := up _ _ x6
          have hseen : ∀ b ob, b ∉ c'.ow → h₅.get? b = some ob → b ∉ c3.ow ∧ s2.heap.get? b = some ob := by
            intro b ob hbo e
            have h1 : (c'.on h₅).h₀.get? b = some ob := hideAll_get _ e hbo
            have h2 : c2.h₀ = (c'.on h₅).h₀ := by obtain ⟨⟨m, _, e⟩, _⟩ := g2; subst e; rfl
            refine ⟨fun q => ?_, x6.keep b ob (by rw [h2]; exact h1)⟩
            have h3 := g2.ok.off b (e3o ▸ q)
            rw [h2, h1] at h3; cases h3
          have s_e := hseen en _ (hb en List.mem_cons_self) (hk₅ _ _ he4)
          have s_i : it ∉ c3.ow ∧ s2.heap.IsListIter it l (i + 1) := by
            obtain ⟨ob, e, r⟩ := hit4
            have := hseen it ob (hb it (by simp)) (hk₅ _ _ e)
            exact ⟨this.1, ob, this.2, r⟩
          have ej3 : c.J = c3.J := by obtain ⟨⟨m, _, e⟩, _⟩ := g3; subst e; exact hfJ
          obtain ⟨c4, g4, x8, _⟩ := x7.outL (s' := s2) ok hown (g.trans g3) hWc (fun a ha => ⟨by
            rcases List.mem_cons.mp ha with q | q
            · rw [q]; exact s_e.1
            · rw [List.mem_singleton.mp q]; exact s_i.1, hWn _ (i + 1) _ s_e.2 s_i.2 a ha⟩) (by rw [ej3]; exact x7.j) (fun _ _ _ e => e)
          exact f c4 s2 g4 x8
      · have hik' : i = k ∧ k = xs.length := ⟨by omega, by omega⟩
        obtain ⟨rfl, hkn⟩ := hik'
        rcases ends with ⟨_, rfl⟩ | ⟨v, ρ', hv', _⟩
        · refine wpAny_pyNext_enum_end cn.hh he' hit' hl' (by simp [hl]; omega) fun h₃ hx₃ => wpAny_execs_nil ?_
          obtain ⟨c4, g4, x8, _⟩ := x'.outL (s' := { s' with heap := h₃ }) ok hown g hWc (fun a ha => ⟨hb a (hWs a ha), hWn _ _ _ he' hit' a ha⟩) (by rw [hfJ]; exact x'.j) (fun b ob hb' e => hx₃ b ob (fun q => hb' (by rw [q]; exact List.mem_cons_of_mem _ List.mem_cons_self)) e)
          exact f c4 _ g4 x8
        · rw [List.getElem?_eq_none (by omega)] at hv'; cases hv'
    · have q' := ok.sub b q
      rcases List.mem_cons.mp hb with e | hb
      · exact (hWc en (by simp)).1 (e ▸ q')
      · rcases List.mem_cons.mp hb with e | hb
        · exact (hWc it (by simp)).1 (e ▸ q')
        · exact hlm (List.mem_singleton.mp hb ▸ q')
  exact hgo
end
end Mine

end
section
set_option Elab.async false
set_option maxRecDepth 100000
namespace Mine
section
variable {C : Cfg} {d : Nat} {J : Js} {T : Scope} {ρ : Rho}
noncomputable def vL (g : List (List Nat)) : V := .list (g.map .str)
theorem txL_of {h : Heap} {g : List (List Nat)} {u : Value} (r : RV h (vL g) u) : TxL h g u := by
  obtain ⟨a, us, rfl, il, rs⟩ := r
  have hl := rs.len
  refine ⟨a, us.toArray, rfl, il, by simpa using hl, fun i q => ?_⟩
  have hi : i < us.length := by simpa using q
  have hi2 : i < g.length := by rw [hl] at hi; simpa using hi
  obtain ⟨w, hw, t, rw'⟩ := rs.get i (.str g[i]) (by simp [hi2])
  have e : us.toArray[i] = w := by
    rw [List.getElem?_eq_getElem hi] at hw
    simpa using hw
  exact ⟨t, by rw [e, rw']; simp [List.getD, hi2]⟩
theorem rvs_txs {h : Heap} : ∀ {g : List (List Nat)} {us : List Value}, us.length = g.length → (∀ (i : Nat) (q : i < us.length), IsTx (g.getD i []) us[i]) → RVs h (g.map V.str) us
  | [], us, hl, _ => List.length_eq_zero_iff.mp hl
  | x :: g, us, hl, hx => by
    cases us with
    | nil => simp at hl
    | cons u us =>
      obtain ⟨t, e⟩ := hx 0 (by simp)
      refine ⟨u, us, rfl, ⟨t, by simpa using e⟩, rvs_txs (by simpa using hl) fun i q => ?_⟩
      have := hx (i + 1) (by simpa using q)
      simpa using this
theorem rv_txL {h : Heap} {g : List (List Nat)} {u : Value} (x : TxL h g u) : RV h (vL g) u := by
  obtain ⟨a, us, rfl, il, hl, hx⟩ := x
  refine ⟨a, us.toList, rfl, by simpa using il, rvs_txs (by simpa using hl) fun i q => ?_⟩
  have := hx i (by simpa using q)
  simpa using this
noncomputable def minOf (x₀ : List (List Nat)) (xss : List (List (List Nat))) : List (List Nat) := xss.foldl (fun c x => if ltL x c then x else c) x₀
noncomputable def maxOf (x₀ : List (List Nat)) (xss : List (List (List Nat))) : List (List Nat) := xss.foldl (fun c x => if ltL c x then x else c) x₀
theorem Cnd.in1u {A : Around} (x : Cnd A (d + 1)) : A.in1.units < cLine := x.in1.room
theorem txs_at {h : Heap} {gs : List (List (List Nat))} {ws : List Value} (rs : RVs h (gs.map vL) ws) (i : Nat) (q : i < ws.toArray.size) : TxL h (gs.getD i []) ws.toArray[i] := by
  have hl := rs.len
  have hi : i < ws.length := by simpa using q
  have hi2 : i < gs.length := by rw [hl] at hi; simpa using hi
  obtain ⟨w, hw, rw'⟩ := rs.get i (vL gs[i]) (by simp [hi2])
  have e : ws.toArray[i] = w := by
    rw [List.getElem?_eq_getElem hi] at hw
    simpa using hw
  have e2 : gs.getD i [] = gs[i] := by simp [List.getD, hi2]
  rw [e, e2]
  exact txL_of rw'
theorem op_min {x₀ : List (List Nat)} {xss : List (List (List Nat))} : OpN C (d + 1) (fun us => call (.builtin "min") us) [.list ((x₀ :: xss).map vL)] (fun h u => RV h (vL (minOf x₀ xss)) u) := fun c T ρ A s us Q E k b cn x r q => by
  obtain ⟨u, rfl, a, ws, rfl, p, rs⟩ := rvs1 r
  have hl := rs.len
  refine call_minL (h₁ := c.vis s.heap) (x₀ := x₀) (xss := xss) cn.hh cn.in1u (isList_of p) (by simpa using hl) (fun b o e => of_hideAll _ e) (fun i qi => txs_at rs i qi) fun u h' tk hk hx => ?_
  exact q _ _ (x.sle hk tk) (RV.mono (x.sle hk tk).vis (rv_txL hx))
theorem op_max {x₀ : List (List Nat)} {xss : List (List (List Nat))} : OpN C (d + 1) (fun us => call (.builtin "max") us) [.list ((x₀ :: xss).map vL)] (fun h u => RV h (vL (maxOf x₀ xss)) u) := fun c T ρ A s us Q E k b cn x r q => by
  obtain ⟨u, rfl, a, ws, rfl, p, rs⟩ := rvs1 r
  have hl := rs.len
  refine call_maxL (h₁ := c.vis s.heap) (x₀ := x₀) (xss := xss) cn.hh cn.in1u (isList_of p) (by simpa using hl) (fun b o e => of_hideAll _ e) (fun i qi => txs_at rs i qi) fun u h' tk hk hx => ?_
  exact q _ _ (x.sle hk tk) (RV.mono (x.sle hk tk).vis (rv_txL hx))
end
end Mine

end
section
set_option Elab.async false
set_option maxRecDepth 100000

namespace Mine
noncomputable def splitOf (p : List Nat) : List (List Nat) := (Txt.split (S p) (S [47])).map (·.cps.toList)
noncomputable def keepC (c : List Nat) : Bool := !c.isEmpty && c != [46]
noncomputable def comps (p : List Nat) : List (List Nat) := (splitOf p).filter keepC
noncomputable def lcp : List (List Nat) → List (List Nat) → List (List Nat)
  | x :: xs, y :: ys => if x = y then x :: lcp xs ys else []
  | _, _ => []
noncomputable def lcpOk : List (List Nat) → List (List Nat) → Prop
  | x :: xs, y :: ys => x = y → lcpOk xs ys
  | [], _ => True
  | _ :: _, [] => False
noncomputable def joinOf (ls : List (List Nat)) : List Nat := (Txt.join (S [47]) (ls.map S)).cps.toList
theorem range_map {α : Type} (f : List Nat → α) (ps : List (List Nat)) : ((List.range ps.length).filter (fun _ => true)).map (fun i => f (ps.getD i [])) = ps.map f := by
  rw [List.filter_eq_self.mpr (by simp)]
  apply List.ext_getElem (by simp)
  intro i h1 h2
  have h3 : i < ps.length := by simpa using h2
  simp [List.getD, h3]
theorem range_filter (b : List Nat → Bool) (ps : List (List Nat)) : ((List.range ps.length).filter (fun i => b (ps.getD i []))).map (fun i => V.str (ps.getD i [])) = (ps.filter b).map V.str := by
  induction ps with
  | nil => rfl
  | cons p r ih =>
    rw [List.length_cons, List.range_succ_eq_map, List.filter_cons, List.filter_map]
    have e : (List.map Nat.succ (List.filter ((fun i => b ((p :: r).getD i [])) ∘ Nat.succ) (List.range r.length))).map (fun i => V.str ((p :: r).getD i [])) = (r.filter b).map V.str := by
      rw [← ih, List.map_map]; rfl
    by_cases h : b p = true
    · rw [List.filter_cons_of_pos h, if_pos (by simpa using h), List.map_cons, e]; rfl
    · rw [List.filter_cons_of_neg h, if_neg (by simpa using h), e]
theorem getD_str (ps : List (List Nat)) (i : Nat) (h : i < ps.length) : (ps.map V.str).getD i .none = .str (ps.getD i []) := by simp [List.getD, h]
theorem lcp_spec : ∀ (g1 g2 : List (List Nat)), lcpOk g1 g2 → ∃ k, k ≤ g1.length ∧ lcp g1 g2 = g1.take k ∧ (∀ (i : Nat) (c : List Nat), i < k → g1[i]? = some c → g2[i]? = some c) ∧ (k = g1.length ∨ ∃ c c', g1[k]? = some c ∧ g2[k]? = some c' ∧ c ≠ c')
  | [], g2, _ => ⟨0, Nat.le_refl _, by cases g2 <;> rfl, fun i c h => absurd h (Nat.not_lt_zero _), .inl rfl⟩
  | x :: xs, [], h => h.elim
  | x :: xs, y :: ys, h => by
    by_cases e : x = y
    · obtain ⟨k, h1, h2, h3, h4⟩ := lcp_spec xs ys (h e)
      refine ⟨k + 1, by simpa using h1, ?_, fun i c hi hc => ?_, ?_⟩
      · unfold lcp; rw [if_pos e, h2]; rfl
      · cases i with
        | zero => simp at hc ⊢; rw [← e]; exact hc
        | succ i => simp at hc ⊢; exact h3 i c (by omega) hc
      · rcases h4 with h4 | ⟨c, c', h4, h5, h6⟩
        · exact .inl (by rw [h4]; rfl)
        · exact .inr ⟨c, c', by simpa using h4, by simpa using h5, h6⟩
    · exact ⟨0, Nat.zero_le _, by unfold lcp; rw [if_neg e]; rfl, fun i c hi => absurd hi (Nat.not_lt_zero _), .inr ⟨x, y, rfl, rfl, e⟩⟩
theorem minOf_mem : ∀ (xss : List (List (List Nat))) (x₀ : List (List Nat)), minOf x₀ xss ∈ x₀ :: xss
  | [], x₀ => List.mem_singleton.mpr rfl
  | x :: r, x₀ => by
    unfold minOf
    rw [List.foldl_cons]
    have := minOf_mem r (if ltL x x₀ = true then x else x₀)
    unfold minOf at this
    rcases List.mem_cons.mp this with h | h
    · rw [h]; split
      · exact List.mem_cons_of_mem _ List.mem_cons_self
      · exact List.mem_cons_self
    · exact List.mem_cons_of_mem _ (List.mem_cons_of_mem _ h)
theorem maxOf_mem : ∀ (xss : List (List (List Nat))) (x₀ : List (List Nat)), maxOf x₀ xss ∈ x₀ :: xss
  | [], x₀ => List.mem_singleton.mpr rfl
  | x :: r, x₀ => by
    unfold maxOf
    rw [List.foldl_cons]
    have := maxOf_mem r (if ltL x₀ x = true then x else x₀)
    unfold maxOf at this
    rcases List.mem_cons.mp this with h | h
    · rw [h]; split
      · exact List.mem_cons_of_mem _ List.mem_cons_self
      · exact List.mem_cons_self
    · exact List.mem_cons_of_mem _ (List.mem_cons_of_mem _ h)
theorem splitOf_len (p : List Nat) : (splitOf p).length ≤ p.length + 2 := by
  unfold splitOf; rw [List.length_map]
  have := split_le (S p) (S [47]); rw [S_len] at this; exact this
theorem splitOf_part {p c : List Nat} (h : c ∈ splitOf p) : c.length ≤ p.length := by
  unfold splitOf at h
  obtain ⟨x, hx, rfl⟩ := List.mem_map.mp h
  have := part_short hx
  rw [S_len] at this
  simpa [Str.length] using this
theorem parts_le {p : List Nat} (hp : p.length ≤ 20) : (partsBetween (S p) (occurrences (S p) (S [47]) 0 (S p).length ((S p).length + 1)) (S [47]).length).length ≤ sizeLine := by
  rw [len_partsBetween]
  have := StrLaws.occ_length_le (S p) (S [47]) 0 (S p).length ((S p).length + 1)
  rw [S_len] at *
  rw [sizeLine_eq]; omega
theorem join_le {ls : List (List Nat)} (hn : ls.length ≤ 30) (hl : ∀ l ∈ ls, l.length ≤ 30) : JoinOk (S [47]) (ls.map S) = true ∧ (joinOf ls).length ≤ 1000 := by
  have hs : ((ls.map S).map (·.length)).sum ≤ 30 * ls.length := by
    clear hn
    induction ls with
    | nil => simp
    | cons l r ih =>
      have h1 := hl l List.mem_cons_self
      have h2 := ih fun x hx => hl x (List.mem_cons_of_mem _ hx)
      simp only [List.map_cons, List.sum_cons, List.length_cons, S_len]
      omega
  constructor
  · unfold JoinOk
    rw [Bool.not_eq_true', StrLaws.joinTotal]
    unfold Builtin.Str.tooLong
    rw [sizeLine_eq, S_len, List.length_map]
    simp only [List.length_singleton, gt_iff_lt, decide_eq_false_iff_not]
    omega
  · have h := StrLaws.join_length_le (S [47]) (ls.map S)
    unfold joinOf Txt.join
    rw [StrLaws.glued_eq_join]
    rw [S_len, List.length_map] at h
    simp only [List.length_singleton] at h
    show (Str.join (S [47]) (List.map S ls)).cps.toList.length ≤ 1000
    have e : (Str.join (S [47]) (List.map S ls)).cps.toList.length = (Str.join (S [47]) (List.map S ls)).length := by simp [Str.length]
    rw [e]
    omega
end Mine

end
section
set_option Elab.async false
set_option maxRecDepth 100000

namespace Mine
section
variable {C : Cfg} {d : Nat} {J : Js}
theorem ex_put2 {T : Scope} {ρ ρ₁ ρ₂ : Rho} {x y : Str} {a b : Slot} {sts : List Stmt} {o : Out} (h1 : Put ρ x a ρ₁) (h2 : Put ρ₁ y b ρ₂) (h : Ex C d J T ρ₂ sts o) : Ex C d J T (put (put ρ x a) y b) sts o := by rw [h1.eq, h2.eq]; exact h
theorem comm_body {f20 : Addr} (h20 : Def C 20 "fspath" f20) (B : Blts C) {p₀ : List Nat} {pr : List (List Nat)} (hn : pr.length ≤ 5) (hp : ∀ p ∈ p₀ :: pr, p.length ≤ 20 ∧ Txt.startswith (S p) (S [47]) = true)
    (hok : lcpOk (minOf (comps p₀) (pr.map comps)) (maxOf (comps p₀) (pr.map comps))) :
    Ex C (d + 5) J (rec 26).scope [("paths", .val (.list ((p₀ :: pr).map V.str)))] (rec 26).body (.ret (.str ([47] ++ joinOf (lcp (minOf (comps p₀) (pr.map comps)) (maxOf (comps p₀) (pr.map comps)))))) := by
  have b1 := B.tuple
  have b2 := B.map
  have b3 := B.isinstance
  have b4 := B.bytes
  have b5 := B.min
  have b6 := B.max
  have b7 := B.enumerate
  have hg20 := h20.g
  have hr20 := h20.r
  have hlen : (p₀ :: pr).length ≤ 6 := by simp; omega
  generalize hps : p₀ :: pr = ps at *
  refine ex_cons (st_set (v := .tup (ps.map V.str)) ?_ (by walk_at "m:put") (by walk_at "m:loc") (by walk_at "m:noapp")) ?_
  · exact ev_tupleMap (d := d + 1) (by walk_at "m:blt") (by walk_at "m:blt") hr20 (by walk_at "m:eva") (by omega) (fun l _ => fn_fspath ⟨hg20, hr20⟩ B)
  refine ex_cons (st_if (r := false) (Tst.cast (tst_not (tst_val (by walk_at "m:ev") (tru_tup (by rw [List.length_map, sizeLine_eq]; omega)))) (by rw [← hps]; rfl)) (fun e => absurd e (by decide)) fun _ => ex_nil) ?_
  refine ex_cons (st_if (r := false) (o := .next [("paths", .val (.tup (ps.map V.str))), ("sep", .val (.str [47])), ("curdir", .val (.str [46]))]) (Tst.cast (tst_val (a := .bool false) ?_ tru_bool) rfl) (fun e => absurd e (by decide)) fun _ => ?_) ?_
  · with_reducible refine' run_callB ?k1 ?k2 (op_isiB (l := p₀))
    case k1 => walk_at "m:blt"
    case k2 =>
      with_reducible refine' eva_cons ?g1 ?g2
      case g1 =>
        with_reducible refine' ev_itemT 0 ?q1 ?q2 ?q3 ?q4 ?q5
        case q1 => walk_at "m:ev"
        case q2 => walk_at "m:ev"
        case q3 => exact ⟨by omega, by omega⟩
        case q4 => rw [← hps]; rfl
        case q5 => rw [List.length_map, sizeLine_eq]; omega
      case g2 => walk_at "m:eva"
  · walk_at "m:set"
    walk_at "m:set"
    exact ex_nil
  refine ex_ret (st_try (o := .ret _) ?_)
  -- the parts
  refine ex_cons (st_compF [("sep", .val (.str [47]))] (fun _ => true) (fun i => .list ((splitOf (ps.getD i [])).map V.str)) (by decide +kernel) (src_tup (xs := ps.map V.str) (by walk_at "m:ev")) (by rw [List.length_map, sizeLine_eq]; omega) (by decide +kernel) (by walk_at "m:noapp") (by walk_at "m:put") ?_ (by walk_at "m:compr") (by walk_at "m:noapp") (fun i hi => tss_nil) (fun i hi _ => ?_)) ?_
  · intro env he
    obtain ⟨_, _, _, _, _, _, _, _, _⟩ := env
    subst he
    kernel_rfl
  · rw [Put.eq (by walk_at "m:put"), getD_str ps i (by simpa using hi)]
    have hl := hp (ps.getD i []) (by
      have hi' : i < ps.length := by simpa using hi
      simp [List.getD, hi'])
    with_reducible refine' run_meth ?k1 ?k2 PySem.F.slot_str_split PySem.F.type_str_split ?k3
    case k1 => walk_at "m:ev"
    case k2 => walk_at "m:eva"
    case k3 =>
      have := op_split (C := C) (d := d + 5) (l := ps.getD i []) (m := [47]) (by decide) (by rw [sizeLine_eq]; omega) (parts_le hl.1)
      rw [show (splitOf (ps.getD i [])).map V.str = (Txt.split (S (ps.getD i [])) (S [47])).map VS by unfold splitOf; rw [List.map_map]; rfl]
      exact this
  have e1 := range_map (fun p => V.list ((splitOf p).map V.str)) ps
  try dsimp only at e1
  rw [List.length_map, e1]
  -- absolute all
  refine ex_cons (st_try (o := .next [("paths", .val (.tup (ps.map V.str))), ("sep", .val (.str [47])), ("curdir", .val (.str [46])), ("split_paths", .val (.list (ps.map fun p => .list ((splitOf p).map V.str)))), ("isabs", .val (.bool true))])
    (ex_cons (st_one [("sep", .val (.str [47]))] (by decide +kernel) (src_tup (xs := ps.map V.str) (by walk_at "m:ev")) (by rw [List.length_map, sizeLine_eq]; omega) (by rw [List.length_map, ← hps]; simp) (by walk_at "m:loc") (by walk_at "m:noapp") (by walk_at "m:put") (by walk_at "m:compr") (by walk_at "m:noapp") (fun i hi => ?_)) ex_nil)) ?_
  · rw [Put.eq (by walk_at "m:put"), getD_str ps i (by simpa using hi)]
    have hl := hp (ps.getD i []) (by
      have hi' : i < ps.length := by simpa using hi
      simp [List.getD, hi'])
    exact Ev.cast (by walk_at "m:ev") (by rw [hl.2])
  -- the parts that count
  refine ex_cons (st_compF [("curdir", .val (.str [46]))] (fun _ => true) (fun i => vL (comps (ps.getD i []))) (by decide +kernel) (src_list (xs := ps.map fun p => .list ((splitOf p).map V.str)) (by walk_at "m:ev")) (by rw [List.length_map, sizeLine_eq]; omega) (by decide +kernel) (by walk_at "m:noapp") (by walk_at "m:put") ?_ (by walk_at "m:compr") (by walk_at "m:noapp") (fun i hi => tss_nil) (fun i hi _ => ?_)) ?_
  · intro env he
    cases env
    dsimp only at he
    subst he
    kernel_rfl
  · have hi' : i < ps.length := by simpa using hi
    have hl := hp (ps.getD i []) (by simp [List.getD, hi'])
    rw [Put.eq (by walk_at "m:put"), show (ps.map fun p => V.list ((splitOf p).map V.str)).getD i .none = .list ((splitOf (ps.getD i [])).map V.str) by simp [List.getD, hi']]
    have hls := splitOf_len (ps.getD i [])
    have hlp := fun c hc => splitOf_part (p := ps.getD i []) (c := c) hc
    unfold vL comps
    generalize splitOf (ps.getD i []) = gs at *
    have e2 := range_filter keepC gs
    refine Ev.cast (ev_compF [("curdir", .val (.str [46]))] (fun j => keepC (gs.getD j [])) (fun j => V.str (gs.getD j [])) (by decide +kernel) (src_list (xs := gs.map V.str) (by walk_at "m:ev")) (by rw [List.length_map, sizeLine_eq]; omega) (by walk_at "m:compr") (by walk_at "m:noapp") (fun j hj => ?_) (fun j hj _ => ?_)) ?_
    · have hj' : j < gs.length := by simpa using hj
      rw [Put.eq (by walk_at "m:put"), getD_str gs j hj']
      have h3 := hlp (gs.getD j []) (by simp [List.getD, hj'])
      refine tss_one (Tst.cast (by walk_at "m:tst") ?_)
      rfl
    · have hj' : j < gs.length := by simpa using hj
      rw [Put.eq (by walk_at "m:put"), getD_str gs j hj']
      walk_at "m:ev"
    · rw [List.length_map, e2]
  have e2 := range_map (fun p => vL (comps p)) ps
  rw [List.length_map, e2]
  have e3 : List.map (fun p => vL (comps p)) ps = (comps p₀ :: pr.map comps).map vL := by
    rw [← hps, List.map_cons, List.map_cons, List.map_map]; rfl
  rw [e3]
  clear e1 e2 e3
  have hg1 := minOf_mem (pr.map comps) (comps p₀)
  have hg2 := maxOf_mem (pr.map comps) (comps p₀)
  have hin : ∀ g ∈ comps p₀ :: pr.map comps, g.length ≤ 22 ∧ ∀ c ∈ g, c.length ≤ 20 := fun g hg => by
    have hx : ∃ p ∈ p₀ :: pr, g = comps p := by
      rcases List.mem_cons.mp hg with q | q
      · exact ⟨p₀, List.mem_cons_self, q⟩
      · obtain ⟨p, h1, h2⟩ := List.mem_map.mp q
        exact ⟨p, List.mem_cons_of_mem _ h1, h2.symm⟩
    obtain ⟨p, hp1, rfl⟩ := hx
    have hpl := (hp p (hps ▸ hp1)).1
    have h1 := splitOf_len p
    have h2 : (comps p).length ≤ (splitOf p).length := List.length_filter_le _ _
    refine ⟨by omega, fun c hc => ?_⟩
    have h3 := splitOf_part (p := p) (c := c) ((List.mem_filter.mp hc).1)
    omega
  obtain ⟨hl1, hc1⟩ := hin _ hg1
  obtain ⟨hl2, hc2⟩ := hin _ hg2
  refine ex_cons (st_set (v := vL (minOf (comps p₀) (pr.map comps))) ?_ (by walk_at "m:put") (by walk_at "m:loc") (by walk_at "m:noapp")) ?_
  · with_reducible refine' run_callB ?k1 ?k2 op_min
    case k1 => walk_at "m:blt"
    case k2 => walk_at "m:eva"
  refine ex_cons (st_set (v := vL (maxOf (comps p₀) (pr.map comps))) ?_ (by walk_at "m:put") (by walk_at "m:loc") (by walk_at "m:noapp")) ?_
  · with_reducible refine' run_callB ?k1 ?k2 op_max
    case k1 => walk_at "m:blt"
    case k2 => walk_at "m:eva"
  generalize minOf (comps p₀) (pr.map comps) = g1 at *
  generalize maxOf (comps p₀) (pr.map comps) = g2 at *
  clear hg1 hg2 hin
  generalize hgs : (comps p₀ :: pr.map comps).map vL = gv
  clear hgs
  walk_at "m:set"
  obtain ⟨k, hk1, hk2, hk3, hk4⟩ := lcp_spec g1 g2 hok
  have hjn := join_le (ls := lcp g1 g2) (by rw [hk2, List.length_take]; omega) (fun l hl => by
    rw [hk2] at hl
    have := hc1 l (List.mem_of_mem_take hl); omega)
  unfold vL
  have hbody : ∀ (i : Nat) (c c' : List Nat), g1[i]? = some c → g2[i]? = some c' →
      (c = c' → Ex C (d + 5) J (rec 26).scope [("paths", .val (.tup (ps.map V.str))), ("sep", .val (.str [47])), ("curdir", .val (.str [46])), ("split_paths", .val (.list gv)), ("isabs", .val (.bool true)), ("s1", .val (.list (g1.map V.str))), ("s2", .val (.list (g2.map V.str))), ("common", .val (.list (g1.map V.str))), ("i", .val (.int i)), ("c", .val (.str c))] (bodyOf (nth (bodyOf (nth (rec 26).body 3)) 6))
        (.next [("paths", .val (.tup (ps.map V.str))), ("sep", .val (.str [47])), ("curdir", .val (.str [46])), ("split_paths", .val (.list gv)), ("isabs", .val (.bool true)), ("s1", .val (.list (g1.map V.str))), ("s2", .val (.list (g2.map V.str))), ("common", .val (.list (g1.map V.str)))])) ∧
      (c ≠ c' → Ex C (d + 5) J (rec 26).scope [("paths", .val (.tup (ps.map V.str))), ("sep", .val (.str [47])), ("curdir", .val (.str [46])), ("split_paths", .val (.list gv)), ("isabs", .val (.bool true)), ("s1", .val (.list (g1.map V.str))), ("s2", .val (.list (g2.map V.str))), ("common", .val (.list (g1.map V.str))), ("i", .val (.int i)), ("c", .val (.str c))] (bodyOf (nth (bodyOf (nth (rec 26).body 3)) 6))
        (.brk [("paths", .val (.tup (ps.map V.str))), ("sep", .val (.str [47])), ("curdir", .val (.str [46])), ("split_paths", .val (.list gv)), ("isabs", .val (.bool true)), ("s1", .val (.list (g1.map V.str))), ("s2", .val (.list (g2.map V.str))), ("common", .val (.list ((g1.take i).map V.str)))])) := by
    intro i c c' h1 h2
    have hi2 : i < g2.length := by rw [List.getElem?_eq_some_iff] at h2; exact h2.1
    have hx : (g2.map V.str)[i]? = some (.str c') := by rw [List.getElem?_map, h2]; rfl
    refine ⟨fun e => ?_, fun e => ?_⟩
    · refine ex_cons (st_if (r := false) (Tst.cast (by walk_at "m:tst") (by simpa using e)) (fun e => absurd e (by decide)) fun _ => ex_nil) ?_
      walk_at "m:end"
    · refine ex_brk (st_if (r := true) (Tst.cast (by walk_at "m:tst") (by simpa using e)) (fun _ => ?_) fun e => absurd e (by decide))
      refine ex_cons (st_set (v := .list ((g1.take i).map V.str)) (Ev.cast (by walk_at "m:ev") ?_) (by walk_at "m:put") (by walk_at "m:loc") (by walk_at "m:noapp")) ?_
      · rw [pick_cut, cut_to, List.map_take]
      · exact ex_brk (Ex.less1 st_break (by walk_at "m:sub"))
  refine ex_cons (ρ₁ := [("paths", .val (.tup (ps.map V.str))), ("sep", .val (.str [47])), ("curdir", .val (.str [46])), ("split_paths", .val (.list gv)), ("isabs", .val (.bool true)), ("s1", .val (.list (g1.map V.str))), ("s2", .val (.list (g2.map V.str))), ("common", .val (.list ((lcp g1 g2).map V.str)))])
    (Ex.less1 (st_forEnum (ρ := [("paths", .val (.tup (ps.map V.str))), ("sep", .val (.str [47])), ("curdir", .val (.str [46])), ("split_paths", .val (.list gv)), ("isabs", .val (.bool true)), ("s1", .val (.list (g1.map V.str))), ("s2", .val (.list (g2.map V.str))), ("common", .val (.list (g1.map V.str)))]) (xs := g1.map V.str) k (by walk_at "m:blt") (by walk_at "m:eva") (by decide +kernel) (by decide +kernel) (by walk_at "m:noapp") (by walk_at "m:noapp") (by simpa using hk1) ?_ ?_) (by walk_at "m:sub")) ?_
  · intro i v hi hv
    rw [List.getElem?_map] at hv
    obtain ⟨c, hc, rfl⟩ := Option.map_eq_some_iff.mp hv
    refine' ex_put2 ?w1 ?w2 ?w3
    case w1 => walk_at "m:put"
    case w2 => walk_at "m:put"
    case w3 => exact (hbody i c c hc (hk3 i c hi hc)).1 rfl
  · rcases hk4 with hk4 | ⟨c, c', h1, h2, h3⟩
    · refine .inl ⟨by simpa using hk4, ?_⟩
      rw [hk2, hk4, List.take_length]
    · refine .inr ⟨.str c, _, by rw [List.getElem?_map, h1]; rfl, rfl, ?_⟩
      refine' ex_put2 ?w1 ?w2 ?w3
      case w1 => walk_at "m:put"
      case w2 => walk_at "m:put"
      case w3 =>
        rw [hk2]
        exact (hbody k c c' h1 h2).2 h3
  refine ex_cons (st_set (v := .str [47]) (Ev.cast (by walk_at "m:ev") (by rfl)) (by walk_at "m:put") (by walk_at "m:loc") (by walk_at "m:noapp")) ?_
  refine ex_ret (st_return ?_)
  with_reducible refine' ev_bin ?q1 ?q2 (bin_addS ?q3)
  case q1 => walk_at "m:ev"
  case q2 =>
    with_reducible refine' run_meth ?k1 ?k2 PySem.F.slot_str_join PySem.F.type_str_join ?k3
    case k1 => walk_at "m:ev"
    case k2 => walk_at "m:eva"
    case k3 => exact op_join hjn.1
  case q3 => rw [sizeLine_eq]; have := hjn.2; simp only [List.length_singleton]; omega
theorem fn_comm {f20 g : Addr} (h20 : Def C 20 "fspath" f20) (hg : Def C 26 "commonpath" g) (B : Blts C) {p₀ : List Nat} {pr : List (List Nat)} (hn : pr.length ≤ 5) (hp : ∀ p ∈ p₀ :: pr, p.length ≤ 20 ∧ Txt.startswith (S p) (S [47]) = true)
    (hok : lcpOk (minOf (comps p₀) (pr.map comps)) (maxOf (comps p₀) (pr.map comps))) :
    Fn C (d + 6) J g [.list ((p₀ :: pr).map V.str)] (.str ([47] ++ joinOf (lcp (minOf (comps p₀) (pr.map comps)) (maxOf (comps p₀) (pr.map comps))))) :=
  fn_of ["paths"] hg.r (comm_body h20 B hn hp hok) (fun us hu => by
    obtain ⟨u1, rfl⟩ := len1 hu
    intro doc pm an cdv ct; rfl) (by decide +kernel) (by decide +kernel) (by decide +kernel) (by decide +kernel) (by decide +kernel) (by decide +kernel)
end
end Mine

end
section
set_option Elab.async false
set_option maxRecDepth 100000
namespace Mine
section
variable {M : Model} {A : Around} {R : GenEnd} {Y : Protocol} {n : Nat} {s₀ : Shared} {c : Code} {fs : List Frame} {s : Shared} {env : Env}
  {K : Flow → Sem PySem.Fin} {H : Value → Sem PySem.Fin} {gd : Bool → Bool} {lv : List Value → List Value}

theorem seg_If {t : Expr} {body orelse : List Stmt} {pos : Pos}
    (h : wpAny M (A.over c fs) (isTrue t env (eval t env)) (fun b s' => if b = true then Seg M A R Y n s₀ c ((execs body env).wrap K H gd lv) fs s' else Seg M A R Y n s₀ c ((execs orelse env).wrap K H gd lv) fs s') (fun x s' => Seg M A R Y n s₀ c (H x) fs s') s) :
    Seg M A R Y n s₀ c ((exec (.If t body orelse pos) env).wrap K H gd lv) fs s := by
  rw [arm_exec_If]
  refine seg_bind_wrap (wpAny_standAt ?_)
  refine seg_bind_wrap (wpAny_mono h (fun b s' hb => ?_) fun _ _ e => e)
  cases b with
  | true => exact hb
  | false => exact hb
theorem seg_plain {st : Stmt} (h : wpAny M (A.over c fs) (exec st env) (fun f s' => Seg M A R Y n s₀ c (K f) fs s') (fun x s' => Seg M A R Y n s₀ c (H x) fs s') s) :
    Seg M A R Y n s₀ c ((exec st env).wrap K H gd lv) fs s := seg_wrap h

/-- what stands below a loop of the frame's own -/
noncomputable def loopRet (env : Env) (K : Flow → Sem PySem.Fin) (H : Value → Sem PySem.Fin) (gd : Bool → Bool) (lv : List Value → List Value) : Result → Sem PySem.Fin := fun r =>
  ((match r with | .ok f => .pure f | .error e => .raise e : Sem Flow).onRaise fun (x : Value) => do
    if (← field x 1) == Value.none then unsupported "frame.own-activation:exception-without-traceback"
    setFlight x env.frame).wrap K H gd lv
theorem seg_For {target iter : Expr} {body orelse : List Stmt} {pos : Pos}
    (h : wpAny M (A.over c fs) (eval iter env) (fun x s₁ => wpAny M (A.over c fs) (pyIter x) (fun it s₂ => ∀ p, Seg M A R Y n s₀ (.forLoop target it body orelse env) (M.den (.forLoop target it body orelse env)) (.ret (loopRet env K H gd lv) none (gd false) (lv []) c p [] :: fs) s₂)
      (fun x s' => Seg M A R Y n s₀ c (H x) fs s') s₁) (fun x s' => Seg M A R Y n s₀ c (H x) fs s') s)
    (hs : ∀ x, foldedSetIterable iter env x = pure x) :
    Seg M A R Y n s₀ c ((exec (.For target iter body orelse pos) env).wrap K H gd lv) fs s := by
  rw [arm_exec_For]
  refine seg_bind_wrap (wpAny_standAt ?_)
  refine seg_bind_wrap (wpAny_mono h (fun x s₁ h₁ => ?_) fun _ _ e => e)
  refine seg_bind_wrap (wpAny_of_eq (hs x) ?_)
  refine seg_bind_wrap (wpAny_standAt ?_)
  refine seg_bind_wrap (wpAny_holding (wpAny_mono h₁ (fun it s₂ h₂ => ?_) fun _ _ e => e))
  exact seg_call h₂
end
section
variable {prog : Program} {w : World} {A : Around} {R : GenEnd} {Y : Protocol} {n : Nat} {s₀ : Shared} {fs : List Frame} {s : Shared} {env : Env}
noncomputable def forK (target : Expr) (it : Value) (body orelse : List Stmt) (env : Env) : Flow → Sem PySem.Fin
  | .next | .cont => .pure (.again (.forLoop target it body orelse env))
  | .brk => .pure (.done .next)
  | .ret v => .pure (.done (.ret v))
noncomputable def noteH (env : Env) (e : Value) : Sem PySem.Fin := (do noteFrame e env; theTreesLotGoes e : Sem Unit).wrap (fun _ => .raise e) .raise id id
theorem seg_forLoop {target : Expr} {it : Value} {body orelse : List Stmt}
    (h : wpAny (model prog w) (A.over (.forLoop target it body orelse env) fs) (pyNext it) (fun r s₁ => match r with
      | none => Seg (model prog w) A R Y n s₀ (.block orelse env) ((model prog w).den (.block orelse env)) fs s₁
      | some v => wpAny (model prog w) (A.over (.forLoop target it body orelse env) fs) (letOwnedTupleGo target it v) (fun _ s₂ => wpAny (model prog w) (A.over (.forLoop target it body orelse env) fs) (assign target env v) (fun _ s₃ =>
          Seg (model prog w) A R Y n s₀ (.forLoop target it body orelse env) ((execs body env).wrap (forK target it body orelse env) (noteH env) id id) fs s₃) (fun x s' => Seg (model prog w) A R Y n s₀ (.forLoop target it body orelse env) (noteH env x) fs s') s₂)
          (fun x s' => Seg (model prog w) A R Y n s₀ (.forLoop target it body orelse env) (noteH env x) fs s') s₁)
      (fun x s' => Seg (model prog w) A R Y n s₀ (.forLoop target it body orelse env) (noteH env x) fs s') s) :
    Seg (model prog w) A R Y n s₀ (.forLoop target it body orelse env) ((model prog w).den (.forLoop target it body orelse env)) fs s := by
  show Seg _ A R Y n s₀ _ ((forTurn target it body orelse env).onRaise (fun x => do noteFrame x env; theTreesLotGoes x)) fs s
  unfold forTurn
  rw [Sem.onRaise_eq_wrap]
  have hH : (fun e => (do noteFrame e env; theTreesLotGoes e : Sem Unit).bind fun _ => (.raise e : Sem PySem.Fin)) = noteH env := by
    funext e; unfold noteH; rw [Sem.bind_eq_wrap]
  rw [hH]
  refine seg_bind_wrap (wpAny_standAt ?_)
  refine seg_bind_wrap (wpAny_onRaise (wpAny_mono h (fun r s₁ h₁ => ?_) fun x s' e => wpAny_standAt e))
  cases r with
  | none => exact seg_again rfl h₁
  | some v =>
    refine seg_bind_wrap (wpAny_mono h₁ (fun _ s₂ h₂ => ?_) fun _ _ e => e)
    refine seg_bind_wrap (wpAny_mono h₂ (fun _ s₃ h₃ => ?_) fun _ _ e => e)
    rw [Sem.bind_eq_wrap', Sem.wrap_wrap]
    rw [Sem.wrap_congr (execs body env) _ _ (K' := forK target it body orelse env) (H' := noteH env) (fun f => by cases f <;> rfl) (fun e => by rfl)]
    exact h₃
theorem seg_block_nil (h : Seg (model prog w) A R Y n s₀ (.block [] env) (leafOf (.ok .next)) fs s) : Seg (model prog w) A R Y n s₀ (.block [] env) ((model prog w).den (.block [] env)) fs s := by
  show Seg _ A R Y n s₀ _ (((execs [] env).onRaise (fun x => do noteFrame x env; theTreesLotGoes x)) >>= fun f => pure (Fin.done f)) fs s
  exact h
end
end Mine

end
section
set_option Elab.async false
set_option maxRecDepth 100000
namespace Mine
/-- a frame whose names are all local -/
structure Bare (T : Scope) (env : Env) (L : Addr) : Prop where
  scope : env.scope = T
  kind : T.kind = .function
  glob : env.globals = mainGlobals
  blt : env.builtins = builtinsNs
  loc : env.locals = L
  frame : env.frame = some L
  plain : ∀ x k, T.names.lookup x = some k → k ≠ .cell ∧ k ≠ .free
section
variable {C : Cfg} {d : Nat} {T : Scope} {ρ : Rho}
theorem gen_run {α : Type} {t : Env → Sem α} {R : Heap → α → Prop} {A : Around} {env : Env} {L : Addr} {s : Shared} {m : Str → Option Value} {E : Value → Shared → Prop} (h : ∀ J : Js, Run C d J T ρ t R) (cn : Cnd A d) (e : Bare T env L)
    (hb : C.Base (hideAll s.heap [L])) (hn : s.heap.Ns L m) (hρ : ∀ x sl, ρ.lookup x = some sl → ∃ v u, sl = .val v ∧ T.names.lookup x = some .local ∧ m x = some u ∧ ∀ h, RV h v u) :
    wpAny (model C.prog C.w) A (t env) (fun a s' => HLe s.heap s'.heap ∧ s'.gens = s.gens ∧ s'.os = s.os ∧ R (hideAll s'.heap [L]) a) E s := by
  let c : Cx := { J := fun g o => g = s.gens ∧ o = s.os, h₀ := hideAll s.heap [L], ow := [L], mu := [L], env := env, own := true }
  have ok : c.Ok T :=
    { scope := e.scope, kind := e.kind, glob := e.glob, blt := e.blt, loc := (by show env.locals ∈ [L]; rw [e.loc]; exact List.mem_singleton.mpr rfl), sub := fun a ha => ha, off := fun a ha => hideAll_none _ ha,
      cell := fun x hx => absurd rfl (e.plain x _ hx).1, inj := fun _ x _ _ hx => absurd rfl (e.plain x _ hx).1, free := fun x hx => absurd rfl (e.plain x _ hx).2 }
  have x : St c ρ s :=
    { j := ⟨rfl, rfl⟩, keep := fun _ _ q => of_hideAll _ q, ns := ⟨m, by show s.heap.Ns env.locals m; rw [e.loc]; exact hn⟩,
      cells := fun y a q _ => absurd rfl (e.plain y _ (by rw [← e.scope]; exact q)).1,
      vars := fun y sl q => (by
        obtain ⟨v, u, rfl, h1, h2, h3⟩ := hρ y sl q
        exact ⟨u, .inl ⟨by show env.scope.names.lookup y = _; rw [e.scope]; exact h1, m, by show s.heap.Ns env.locals m; rw [e.loc]; exact hn, h2⟩, h3 _⟩),
      mutd := fun y z xs ys a q => (by obtain ⟨v, u, q', _⟩ := hρ y _ q; cases q'),
      low := fun a ha => (by rw [List.mem_singleton.mp ha]; obtain ⟨o, _, _, ho, _⟩ := hn; exact ⟨o, ho⟩) }
  have b : C.Base (c.vis c.h₀) := hb.keeps fun a o q => hideAll_get _ q fun w => by rw [hideAll_none _ w] at q; cases q
  refine wpAny_mono ((h c.J).use (c := c) (E := E) rfl ok b cn x) (fun a s' ⟨x', p, r⟩ => ?_) fun _ _ q => q
  exact ⟨p.le, p.j.1, p.j.2, r⟩
end

/-- the sizes that _grouping_intervals tells of the entries -/
noncomputable def outs : Option Nat → List Nat → Nat → Option Nat
  | _, [], _ => none
  | last, e :: r, j => if e = 127 then none else if e = 0 then last else match j with | 0 => some e | j + 1 => outs (some e) r j
noncomputable def lastV : Option Nat → V
  | none => .none
  | some i => .int i
noncomputable def LastIs (last : Option Nat) (u : Value) : Prop := match last with | none => u = .none | some i => ∃ t, u = .int i t
theorem lastIs_rv {last : Option Nat} {u : Value} (h : LastIs last u) (hp : Heap) : RV hp (lastV last) u := by
  cases last with
  | none => exact h
  | some i => exact h

theorem Cnd.over1 {A : Around} {d : Nat} {body : List Stmt} {env : Env} (x : Cnd A (d + 1)) : Cnd (A.over (.func body env) []) d :=
  ⟨x.hh, by have := x.depth; show A.depth + 0 + 1 + d < _; omega, by have := x.units; show A.units + 0 + 3 + _ < _; omega⟩
theorem Cnd.over2 {A : Around} {d : Nat} {body fb : List Stmt} {env : Env} {target : Expr} {it : Value} {k : Result → Sem PySem.Fin} {g : Bool} {l : List Value} {p : Pos} (x : Cnd A (d + 1)) : Cnd (A.over (.forLoop target it fb [] env) [.ret k none g l (.func body env) p []]) d :=
  ⟨x.hh, by have := x.depth; show A.depth + 1 + 0 + d < _; omega, by have := x.units; show A.units + 3 + 0 + 16 * d < _; omega⟩
theorem Cnd.over3 {A : Around} {d : Nat} {body fb wb : List Stmt} {env : Env} {target test : Expr} {it : Value} {k k' : Result → Sem PySem.Fin} {g g' : Bool} {l l' : List Value} {p p' : Pos} (x : Cnd A (d + 1)) :
    Cnd (A.over (.whileLoop test wb [] env) [.ret k' none g' l' (.forLoop target it fb [] env) p' [], .ret k none g l (.func body env) p []]) d :=
  ⟨x.hh, by have := x.depth; show A.depth + 1 + 0 + d < _; omega, by have := x.units; show A.units + 3 + 0 + 16 * d < _; omega⟩
end Mine

end
section
set_option Elab.async false
set_option maxRecDepth 100000

namespace Mine
theorem ev_constInt {C : Cfg} {d : Nat} {J : Js} {T : Scope} {ρ : Rho} {e : Expr} {i : Int} {t : Tok} (h : Ev C d J T ρ e (.const (.int i t))) : Ev C d J T ρ e (.int i) :=
  fun c A s Q E hJ k b cn x q => h c A s Q E hJ k b cn x fun u s' p r => q u s' p ⟨t, r⟩
noncomputable def gBody : List Stmt := bodyOf (nth (rec 5).body 1)
noncomputable def gR (e : Nat) (last : Option Nat) : Rho := [("interval", .val (.int e)), ("last_interval", .val (lastV last))]
theorem lastN (last : Option Nat) : isN (lastV last) = last.isNone := by cases last <;> rfl
theorem gen_t1 {C : Cfg} {d : Nat} {J : Js} {e : Nat} {last : Option Nat} {t : Tok} (hc : C.mg "CHAR_MAX" = some (.int 127 t)) : Tst C d J (rec 5).scope (gR e last) (testOf (nth gBody 0)) (e == 127) := by
  unfold gR
  refine Tst.cast (tst_cmp (by walk_at "m:ev") (ev_constInt (by walk_at "m:ev")) cmp_eqI) ?_
  rw [Bool.eq_iff_iff]; simp; omega
theorem gen_t2 {C : Cfg} {d : Nat} {J : Js} {e : Nat} {last : Option Nat} : Tst C d J (rec 5).scope (gR e last) (testOf (nth gBody 1)) (e == 0) := by
  unfold gR
  refine Tst.cast (tst_cmp (by walk_at "m:ev") (by walk_at "m:ev") cmp_eqI) ?_
  rw [Bool.eq_iff_iff]; simp
theorem gen_t3 {C : Cfg} {d : Nat} {J : Js} {e : Nat} {last : Option Nat} : Tst C d J (rec 5).scope (gR e last) (testOf (nth (bodyOf (nth gBody 1)) 0)) last.isNone := by
  unfold gR
  refine Tst.cast (tst_cmp (by walk_at "m:ev") (by walk_at "m:ev") (cmp_isN (by cases last <;> (intro _ q; cases q)))) (lastN last)
noncomputable def gKf : Flow → Sem PySem.Fin := fun f => .pure (.done (.ret (match f with | .ret v => v | _ => .none)))
noncomputable def gH (env : Env) : Value → Sem PySem.Fin := fun e => (leaving env e).wrap (fun _ => .raise e) .raise id id
noncomputable def gK (env : Env) : Flow → Sem PySem.Fin := fun f => match f with | .next => (execs [] env).wrap gKf (gH env) id id | f => gKf f
noncomputable def gFr (env : Env) (p : Pos) : Frame := .ret (loopRet env (gK env) (gH env) id id) none (id false) (id []) (.func (rec 5).body env) p []
noncomputable def gFor (env : Env) (it : Addr) : Code := .forLoop (.Name "interval" ⟨11, 8, 11, 16⟩) (.ref it) gBody [] env

/-- only the generator's own has changed -/
noncomputable def GSince (L it : Addr) (s₀ s : Shared) : Prop := s.gens = s₀.gens ∧ s.os = s₀.os ∧ ∀ b o, b ≠ L → b ≠ it → s₀.heap.get? b = some o → s.heap.get? b = some o
theorem GSince.refl (L it : Addr) (s : Shared) : GSince L it s s := ⟨rfl, rfl, fun _ _ _ _ e => e⟩
theorem GSince.step {L it : Addr} {s₀ s s' : Shared} (x : GSince L it s₀ s) (hg : s'.gens = s.gens) (ho : s'.os = s.os) (hk : ∀ b o, b ≠ L → b ≠ it → s.heap.get? b = some o → s'.heap.get? b = some o) : GSince L it s₀ s' :=
  ⟨hg.trans x.1, ho.trans x.2.1, fun b o h1 h2 e => hk b o h1 h2 (x.2.2 b o h1 h2 e)⟩
/-- what the generator leans on, while it waits -/
structure GAt (L it l : Addr) (us : List Value) (h : Heap) : Prop where
  ns : ∃ m, h.Ns L m
  iter : ∃ i, h.IsListIter it l i
  list : h.IsList l us.toArray
noncomputable def gR' (F : Nat → Option Nat) (N : Nat) (L it : Addr) : GenEnd := fun n s₀ r s₁ => r = .ok (.ret .none) ∧ F (N - n) = none ∧ GSince L it s₀ s₁
noncomputable def gY (C : Cfg) (F : Nat → Option Nat) (N : Nat) (L it l : Addr) (us : List Value) : Protocol := fun m s₀ v s kap =>
  (∃ (e : Nat) (t : Tok), F (N - 1 - m) = some e ∧ v = .int e t) ∧ GSince L it s₀ s ∧ GAt L it l us s.heap ∧
    (0 < m → ∀ s'' : Shared, (∀ b, b = L ∨ b = it ∨ b = l → ∀ o, s.heap.get? b = some o → s''.heap.get? b = some o) → C.Base (hideAll s''.heap [L, it]) → kap (.send .none) s'')

section
variable {C : Cfg} {A : Around} {env : Env} {L it l : Addr} {F : Nat → Option Nat} {N : Nat} {us : List Value} {row : List Nat}
/-- the endless telling of the last size -/
theorem gen_rep (e : Bare (rec 5).scope env L) {fs : List Frame} (hfs : splitAtGen fs = none) (hfg : fs.any Frame.guarded = false) {last : Nat} : ∀ (n : Nat) (s₀ s : Shared) (m : Str → Option Value), 0 < n → n ≤ N → (∀ j, F (N - n + j) = some last) → s.heap.Ns L m → (∃ t, m "last_interval" = some (.int last t)) →
    (∃ i, s.heap.IsListIter it l i) → s.heap.IsList l us.toArray → GSince L it s₀ s → C.Base (hideAll s.heap [L, it]) →
    Seg (model C.prog C.w) A (gR' F N L it) (gY C F N L it l us) n s₀ (.whileLoop (testOf (nth (bodyOf (nth gBody 1)) 1)) (bodyOf (nth (bodyOf (nth gBody 1)) 1)) [] env) ((model C.prog C.w).den (.whileLoop (testOf (nth (bodyOf (nth gBody 1)) 1)) (bodyOf (nth (bodyOf (nth gBody 1)) 1)) [] env)) fs s
  | 0, _, _, _, h0, _, _, _, _, _, _, _, _ => absurd h0 (Nat.lt_irrefl _)
  | n + 1, s₀, s, m, _, hN, hF, hn, ⟨t, hm⟩, hi, hli, hs, hb => by
    refine seg_whileLoop ?_
    refine isTrue_plain (wpAny_Constant_bool (wpAny_truthy_bool ?_)) (by rfl)
    rw [if_pos rfl]
    refine seg_execs_cons (seg_Expr_Yield hfs rfl hfg ?_ (by rw [e.scope]; rfl) (by unfold interactive; rw [e.scope]; rfl))
    refine wpAny_Name (wpAny_loadName_local (by rw [e.scope]; rfl) (by show env.scope.names.lookup _ = _; rw [e.scope]; decide +kernel) (by rw [e.loc]; exact hn) hm fun kap hk => ?_) (by decide)
    refine ⟨⟨last, t, ?_, rfl⟩, hs, ⟨⟨m, hn⟩, hi, hli⟩, fun h0 s'' hp hb' => hk .none s'' ?_⟩
    · have := hF 0
      rw [← this]; congr 1; omega
    · obtain ⟨i, hi⟩ := hi
      exact seg_again rfl (gen_rep e hfs hfg n s'' s'' m h0 (by omega) (fun j => by rw [← hF (j + 1)]; congr 1; omega) (hn.at' fun o x => hp L (.inl rfl) o x) ⟨t, hm⟩ ⟨i, hi.at fun o x => hp it (.inr (.inl rfl)) o x⟩ (hli.at fun o x => hp l (.inr (.inr rfl)) o x) (GSince.refl _ _ _) hb')
theorem gR_get {e : Nat} {last : Option Nat} {m : Str → Option Value} {t : Tok} {ul : Value} (h1 : m "interval" = some (.int e t)) (h2 : m "last_interval" = some ul) (h3 : LastIs last ul) :
    ∀ x sl, (gR e last).lookup x = some sl → ∃ v u, sl = .val v ∧ (rec 5).scope.names.lookup x = some .local ∧ m x = some u ∧ ∀ h, RV h v u := by
  intro x sl hx
  unfold gR at hx
  by_cases e1 : x = "interval"
  · subst e1
    simp [List.lookup] at hx
    subst hx
    exact ⟨_, _, rfl, by decide +kernel, h1, fun _ => ⟨t, rfl⟩⟩
  · have b1 : (x == ("interval" : Str)) = false := beq_eq_false_iff_ne.mpr e1
    by_cases e2 : x = "last_interval"
    · subst e2
      simp only [List.lookup, b1] at hx
      simp at hx
      subst hx
      exact ⟨_, _, rfl, by decide +kernel, h2, fun h => lastIs_rv h3 h⟩
    · have b2 : (x == ("last_interval" : Str)) = false := beq_eq_false_iff_ne.mpr e2
      simp [List.lookup, b1, b2] at hx
end
end Mine

end
section
set_option Elab.async false
set_option maxRecDepth 100000
namespace Mine
section
variable {C : Cfg} {A : Around} {env : Env} {L it l : Addr} {F : Nat → Option Nat} {N : Nat} {us : List Value} {row : List Nat}
theorem gen_for {d : Nat} (cn : Cnd A (d + 1)) (e : Bare (rec 5).scope env L) (hiL : it ≠ L) (hlL : l ≠ L) (hil : l ≠ it) {tc : Tok} (hc : C.mg "CHAR_MAX" = some (.int 127 tc))
    (hrow : ∀ (i x : Nat), row[i]? = some x → ∃ t, us[i]? = some (.int x t)) (hlen : us.length = row.length) {p : Pos} : ∀ (r : List Nat) (last : Option Nat) (n idx : Nat) (s₀ s : Shared) (m : Str → Option Value), 0 < n → n ≤ N → row.drop idx = r → idx ≤ row.length → (∀ j, F (N - n + j) = outs last r j) →
    (r.head? = some 0 → last ≠ none) → s.heap.Ns L m → (∃ u, m "last_interval" = some u ∧ LastIs last u) → s.heap.IsListIter it l idx → s.heap.IsList l us.toArray → GSince L it s₀ s → C.Base (hideAll s.heap [L, it]) →
    Seg (model C.prog C.w) A (gR' F N L it) (gY C F N L it l us) n s₀ (gFor env it) ((model C.prog C.w).den (gFor env it)) [gFr env p] s
  | [], last, n, idx, s₀, s, m, h0, hN, hr, hix, hF, hz, hn, hm, hi, hl, hs, hb => by
    have cn2 := cn.over2 (body := (rec 5).body) (fb := gBody) (env := env) (target := .Name "interval" ⟨11, 8, 11, 16⟩) (it := .ref it) (k := loopRet env (gK env) (gH env) id id) (g := id false) (l := id []) (p := p)
    refine seg_forLoop (wpAny_pyNext_list_end cn2.hh hi hl ?_ fun h' he => ?_)
    · have : row.length ≤ idx := List.drop_eq_nil_iff.mp hr
      simp; omega
    · refine seg_block_nil (seg_leaf (.ok .next) ?_)
      show Seg _ A _ _ n s₀ _ (leafOf (.ok (.ret .none))) [] _
      refine seg_end _ ⟨rfl, ?_, hs.step rfl rfl fun b o _ hb e => he b o hb e⟩
      have := hF 0
      rw [Nat.add_zero] at this
      rw [this]; rfl
  | x :: r, last, n + 1, idx, s₀, s, m, h0, hN, hr, hix, hF, hz, hn, ⟨ul, hu, hul⟩, hi, hl, hs, hb => by
    have cn2 := cn.over2 (body := (rec 5).body) (fb := gBody) (env := env) (target := .Name "interval" ⟨11, 8, 11, 16⟩) (it := .ref it) (k := loopRet env (gK env) (gH env) id id) (g := id false) (l := id []) (p := p)
    have hxi : row[idx]? = some x := by
      have := congrArg (·[0]?) hr
      simpa [List.getElem?_drop] using this
    have hr1 : row.drop (idx + 1) = r := by
      have := congrArg (List.drop 1) hr
      simpa [List.drop_drop] using this
    have hix1 : idx + 1 ≤ row.length := by rw [List.getElem?_eq_some_iff] at hxi; exact hxi.1
    obtain ⟨t, ht⟩ := hrow idx x hxi
    have hkind : ∀ y, env.kindOf y = (rec 5).scope.names.lookup y := fun y => by show env.scope.names.lookup y = _; rw [e.scope]
    refine seg_forLoop (wpAny_pyNext_list_item hi hl (x := .int x t) (by simpa using ht) fun h₁ hi₁ hs₁ => ?_)
    replace hs₁ : Heap.SameBut it s.heap h₁ := hs₁
    refine wpAny_of_eq (rfl : letOwnedTupleGo (.Name "interval" ⟨11, 8, 11, 16⟩) (.ref it) (.int x t) = pure ()) ?_
    have hn₁ : h₁.Ns L m := hn.sameBut hs₁ (Ne.symm hiL)
    refine wpAny_assign_Name (wpAny_storeName_local (by rw [hkind]; decide +kernel) (by rw [e.loc]; exact hn₁) (fun h₂ hn₂ hs₂ => ?_) (by rw [e.scope]; rfl))
    rw [e.loc] at hn₂ hs₂
    replace hs₂ : Heap.SameBut L h₁ h₂ := hs₂
    replace hn₂ : h₂.Ns L (fun y => if y = "interval" then some (.int x t) else m y) := hn₂
    have hk₂ : ∀ b o, b ≠ L → b ≠ it → s.heap.get? b = some o → h₂.get? b = some o := fun b o h1 h2 q => (hs₂.2 b h1).trans ((hs₁.2 b h2).trans q)
    have hi₂ : h₂.IsListIter it l (idx + 1) := let ⟨o, q, w⟩ := hi₁; ⟨o, (hs₂.2 it hiL).trans q, w⟩
    have hl₂ : h₂.IsList l us.toArray := let ⟨o, q, w⟩ := hl; ⟨o, hk₂ l o hlL hil q, w⟩
    have hbk : ∀ h', (∀ b o, b ≠ L → b ≠ it → s.heap.get? b = some o → h'.get? b = some o) → C.Base (hideAll h' [L, it]) := fun h' hk => hb.keeps fun b o q => by
      have hbn : b ∉ [L, it] := fun w => by rw [hideAll_none _ w] at q; cases q
      exact hideAll_get _ (hk b o (fun w => hbn (by rw [w]; exact List.mem_cons_self)) (fun w => hbn (by rw [w]; exact List.mem_cons_of_mem _ List.mem_cons_self)) (of_hideAll _ q)) hbn
    have hb1 : ∀ h', C.Base (hideAll h' [L, it]) → C.Base (hideAll h' [L]) := fun h' q => q.keeps (hide_more fun b w => by rw [List.mem_singleton.mp w]; exact List.mem_cons_self)
    have hmi : (fun y : Str => if y = "interval" then some (Value.int x t) else m y) "interval" = some (.int x t) := if_pos rfl
    have hml : (fun y : Str => if y = "interval" then some (Value.int x t) else m y) "last_interval" = some ul := by
      show (if ("last_interval" : Str) = "interval" then _ else m "last_interval") = _
      rw [if_neg (by decide)]; exact hu
    generalize (fun y : Str => if y = "interval" then some (Value.int x t) else m y) = m₂ at hn₂ hmi hml
    have hF0 := hF 0
    rw [Nat.add_zero] at hF0
    -- 127
    refine seg_execs_cons (seg_If (wpAny_mono (gen_run (m := m₂) (fun J => gen_t1 hc) cn2 e (hb1 _ (hbk _ hk₂)) hn₂ (gR_get hmi hml hul)) (fun b s₃ ⟨hk₃, hg₃, ho₃, hb₃⟩ => ?_) fun _ _ q => q))
    replace hk₃ : HLe h₂ s₃.heap := hk₃
    have hs₃ : GSince L it s₀ s₃ := hs.step hg₃ ho₃ fun b o h1 h2 q => hk₃ b o (hk₂ b o h1 h2 q)
    subst hb₃
    by_cases h127 : x = 127
    · rw [if_pos (by simpa using h127)]
      refine seg_execs_cons (seg_plain (wpAny_Return_none ?_))
      show Seg _ A _ _ (n + 1) s₀ (gFor env it) (leafOf (.ok (.ret .none))) _ _
      refine seg_leaf (.ok (.ret .none)) ?_
      show Seg _ A _ _ (n + 1) s₀ _ (leafOf (.ok (.ret .none))) [] _
      refine seg_end _ ⟨rfl, ?_, hs₃⟩
      rw [hF0]; unfold outs; rw [if_pos h127]
    rw [if_neg (by simpa using h127)]
    refine seg_execs_nil ?_
    refine seg_execs_cons (seg_If (wpAny_mono (gen_run (m := m₂) (fun J => gen_t2) cn2 e ((hb1 _ (hbk _ hk₂)).keeps (hide_le fun b o _ q => hk₃ b o q)) (hn₂.keeps hk₃) (gR_get hmi hml hul)) (fun b s₄ ⟨hk₄, hg₄, ho₄, hb₄⟩ => ?_) fun _ _ q => q))
    have hs₄ : GSince L it s₀ s₄ := hs₃.step hg₄ ho₄ fun b o _ _ q => hk₄ b o q
    have hk4 : ∀ b o, b ≠ L → b ≠ it → s.heap.get? b = some o → s₄.heap.get? b = some o := fun b o h1 h2 q => hk₄ b o (hk₃ b o (hk₂ b o h1 h2 q))
    have hn₄ := (hn₂.keeps hk₃).keeps hk₄
    have hi₄ : s₄.heap.IsListIter it l (idx + 1) := let ⟨o, q, w⟩ := hi₂; ⟨o, hk₄ _ _ (hk₃ _ _ q), w⟩
    have hl₄ : s₄.heap.IsList l us.toArray := let ⟨o, q, w⟩ := hl₂; ⟨o, hk₄ _ _ (hk₃ _ _ q), w⟩
    subst hb₄
    by_cases h00 : x = 0
    · rw [if_pos (by simpa using h00)]
      have hlast : last ≠ none := hz (by rw [h00]; rfl)
      obtain ⟨lv, rfl⟩ : ∃ lv, last = some lv := by cases last with
        | none => exact absurd rfl hlast
        | some lv => exact ⟨lv, rfl⟩
      refine seg_execs_cons (seg_If (wpAny_mono (gen_run (m := m₂) (fun J => gen_t3 (e := x) (last := some lv)) cn2 e (hb1 _ (hbk _ hk4)) hn₄ (gR_get hmi hml hul)) (fun b s₅ ⟨hk₅, hg₅, ho₅, hb₅⟩ => ?_) fun _ _ q => q))
      have hs₅ : GSince L it s₀ s₅ := hs₄.step hg₅ ho₅ fun b o _ _ q => hk₅ b o q
      subst hb₅
      rw [if_neg (by simp)]
      refine seg_execs_nil ?_
      refine seg_execs_cons (seg_While fun p' => ?_)
      obtain ⟨tl, e2⟩ := hul
      refine gen_rep e rfl rfl (last := lv) (n + 1) s₀ s₅ m₂ h0 hN (fun j => ?_) (hn₄.keeps hk₅) ⟨tl, by rw [hml, e2]⟩ ⟨idx + 1, let ⟨o, q, w⟩ := hi₄; ⟨o, hk₅ _ _ q, w⟩⟩ (let ⟨o, q, w⟩ := hl₄; ⟨o, hk₅ _ _ q, w⟩) hs₅ (hbk _ fun b o h1 h2 q => hk₅ b o (hk4 b o h1 h2 q))
      rw [hF j]; unfold outs; rw [if_neg h127, if_pos h00]
    rw [if_neg (by simpa using h00)]
    refine seg_execs_nil ?_
    refine seg_execs_cons (seg_Expr_Yield rfl rfl rfl ?_ (by rw [e.scope]; rfl) (by unfold interactive; rw [e.scope]; rfl))
    refine wpAny_Name (wpAny_loadName_local (by rw [e.scope]; rfl) (by rw [hkind]; decide +kernel) (by rw [e.loc]; exact hn₄) hmi fun kap hkap => ?_) (by decide)
    have hFx : F (N - (n + 1)) = some x := by rw [hF0]; unfold outs; rw [if_neg h127, if_neg h00]
    refine ⟨⟨x, t, by rw [← hFx]; congr 1; omega, rfl⟩, hs₄, ⟨⟨m₂, hn₄⟩, ⟨idx + 1, hi₄⟩, hl₄⟩, fun hn0 s'' hp hb' => hkap .none s'' ?_⟩
    have hn5 : s''.heap.Ns L m₂ := hn₄.at' fun o w => hp L (.inl rfl) o w
    have hi5 : s''.heap.IsListIter it l (idx + 1) := hi₄.at fun o w => hp it (.inr (.inl rfl)) o w
    have hl5 : s''.heap.IsList l us.toArray := hl₄.at fun o w => hp l (.inr (.inr rfl)) o w
    refine seg_execs_cons (seg_plain ?_)
    refine wpAny_Assign_Name (wpAny_Name (wpAny_loadName_local (by rw [e.scope]; rfl) (by rw [hkind]; decide +kernel) (by rw [e.loc]; exact hn5) hmi ?_) (by decide)) (by rfl)
    refine wpAny_storeName_local (by rw [hkind]; decide +kernel) (by rw [e.loc]; exact hn5) (fun h₆ hn₆ hs₆ => ?_) (by rw [e.scope]; rfl)
    rw [e.loc] at hn₆ hs₆
    replace hs₆ : Heap.SameBut L s''.heap h₆ := hs₆
    refine seg_again rfl (gen_for cn e hiL hlL hil hc hrow hlen r (some x) n (idx + 1) s'' _ _ hn0 (by omega) hr1 hix1 (fun j => ?_) (fun _ q => by cases q) hn₆ ⟨_, if_pos rfl, t, rfl⟩ (let ⟨o, q, w⟩ := hi5; ⟨o, (hs₆.2 it hiL).trans q, w⟩) (let ⟨o, q, w⟩ := hl5; ⟨o, (hs₆.2 l hlL).trans q, w⟩)
      ⟨rfl, rfl, fun b o h1 _ q => (hs₆.2 b h1).trans q⟩ (hb'.keeps fun b o q => ?_))
    · have hj : F (N - (n + 1) + (j + 1)) = outs (some x) r j := by
        rw [hF (j + 1)]
        conv => lhs; unfold outs
        rw [if_neg h127, if_neg h00]
      rw [← hj]; congr 1; omega
    · have hbn : b ∉ [L, it] := fun w => by rw [hideAll_none _ w] at q; cases q
      exact hideAll_get _ ((hs₆.2 b fun w => hbn (by rw [w]; exact List.mem_cons_self)).trans (of_hideAll _ q)) hbn
  | _, _, 0, _, _, _, _, h0, _, _, _, _, _, _, _, _, _, _, _ => absurd h0 (Nat.lt_irrefl _)
end
end Mine

end
section
set_option Elab.async false
set_option maxRecDepth 100000
namespace Mine
section
variable {C : Cfg} {A : Around} {env : Env} {L l : Addr} {F : Nat → Option Nat} {N : Nat} {us : List Value} {row : List Nat} {s : Shared}
theorem gen_start {d : Nat} (cn : Cnd A (d + 1)) (e : Bare (rec 5).scope env L) (hlL : l ≠ L) {tc : Tok} (hc : C.mg "CHAR_MAX" = some (.int 127 tc))
    (hrow : ∀ (i x : Nat), row[i]? = some x → ∃ t, us[i]? = some (.int x t)) (hlen : us.length = row.length) {m : Str → Option Value} (hN : 0 < N) (hF : ∀ j, F j = outs none row j) (hz : row.head? ≠ some 0)
    (hn : s.heap.Ns L m) (hm : m "grouping" = some (.ref l)) (hl : s.heap.IsList l us.toArray) (hb : C.Base (hideAll s.heap [L])) :
    Seg (model C.prog C.w) A (gR' F N L s.heap.objs.size) (gY C F N L s.heap.objs.size l us) N s (.func (rec 5).body env) ((model C.prog C.w).den (.func (rec 5).body env)) [] s := by
  have hkind : ∀ y, env.kindOf y = (rec 5).scope.names.lookup y := fun y => by show env.scope.names.lookup y = _; rw [e.scope]
  have hlt : L < s.heap.objs.size := hn.lt
  have hll : l < s.heap.objs.size := by obtain ⟨o, ho, _⟩ := hl; exact Heap.lt_size ho
  refine seg_func ?_
  refine seg_execs_cons (seg_plain ?_)
  refine wpAny_Assign_Name (wpAny_Constant_none ?_) (by rfl)
  refine wpAny_storeName_local (by rw [hkind]; decide +kernel) (by rw [e.loc]; exact hn) (fun h₁ hn₁ hs₁ => ?_) (by rw [e.scope]; rfl)
  rw [e.loc] at hn₁ hs₁
  replace hs₁ : Heap.SameBut L s.heap h₁ := hs₁
  replace hn₁ : h₁.Ns L (fun y => if y = "last_interval" then some .none else m y) := hn₁
  have hl₁ : h₁.IsList l us.toArray := let ⟨o, q, w⟩ := hl; ⟨o, (hs₁.2 l hlL).trans q, w⟩
  have hmg : (fun y : Str => if y = "last_interval" then some Value.none else m y) "grouping" = some (.ref l) := by
    show (if ("grouping" : Str) = "last_interval" then _ else m "grouping") = _
    rw [if_neg (by decide)]; exact hm
  have hml : (fun y : Str => if y = "last_interval" then some Value.none else m y) "last_interval" = some .none := if_pos rfl
  generalize (fun y : Str => if y = "last_interval" then some Value.none else m y) = m₁ at hn₁ hmg hml
  refine seg_execs_cons (seg_For ?_ (fun _ => rfl))
  refine wpAny_Name (wpAny_loadName_local (by rw [e.scope]; rfl) (by rw [hkind]; decide +kernel) (by rw [e.loc]; exact hn₁) hmg ?_) (by decide)
  refine wpAny_pyIter_list hl₁ fun p => ?_
  show Seg _ A (gR' F N L s.heap.objs.size) (gY C F N L s.heap.objs.size l us) N s _ _ _ ({ s with heap := h₁.push { cls := .type "list_iterator", data := .fields #[.ref l, .int 0 0] }, toks := s.toks + 1 } : Shared)
  have hsz : h₁.objs.size = s.heap.objs.size := hs₁.1
  rw [← hsz]
  rw [← hsz] at hlt hll
  refine gen_for cn e (Nat.ne_of_gt hlt) hlL (Nat.ne_of_lt hll) hc hrow hlen row none N 0 s _ m₁ hN (Nat.le_refl _) rfl (Nat.zero_le _) (fun j => by rw [← hF j]; congr 1; omega) (fun q => absurd q hz) ?_ ⟨_, hml, rfl⟩ ?_ ?_ ⟨rfl, rfl, fun b o h1 h2 q => ?_⟩ (hb.keeps fun b o q => ?_)
  · exact hn₁.keeps fun b o q => Heap.get?_push_of_some _ q
  · exact ⟨_, Heap.get?_push_size _ rfl, rfl, rfl⟩
  · obtain ⟨o, q, w⟩ := hl₁; exact ⟨o, Heap.get?_push_of_some _ q, w⟩
  · exact Heap.get?_push_of_some _ ((hs₁.2 b h1).trans q)
  · have hbn : b ∉ [L] := fun w => by rw [hideAll_none _ w] at q; cases q
    have q' := of_hideAll _ q
    refine hideAll_get _ (Heap.get?_push_of_some _ ((hs₁.2 b fun w => hbn (List.mem_singleton.mpr w)).trans q')) fun w => ?_
    rcases List.mem_cons.mp w with w | w
    · exact hbn (List.mem_singleton.mpr w)
    · rw [List.mem_singleton.mp w, hsz] at q'; exact Nat.lt_irrefl _ (Heap.lt_size q')

theorem gen_make {d : Nat} {f : Addr} {E : Value → Shared → Prop} {Q : Value → Shared → Prop} (cn : Cnd A d) (hf : C.fn f = some (rec 5)) (hb : C.Base s.heap) {u : Value}
    (h : ∀ env a h' tk, Bare (rec 5).scope env s.heap.objs.size → (∃ m, h'.Ns s.heap.objs.size m ∧ m "grouping" = some u) → h'.IsGen a s.gens.size → HLe s.heap h' → s.heap.objs.size < a → a < h'.objs.size →
      Q (.ref a) { s with gens := s.gens.push (.fresh (.func (rec 5).body env)), heap := h', toks := tk }) :
    wpAny (model C.prog C.w) A (call (.ref f) [u]) Q E s := by
  obtain ⟨o, doc, pm, an, cdv, ct, ho, hd, hcd⟩ := hb.fns f _ hf
  refine wpAny_call (codeAny_call_generator (fd := fnOf (rec 5).name (rec 5).name (rec 5).params (rec 5).body (rec 5).scope .none .none doc pm an cdv ct) (body := (rec 5).body) cn.lim ho hd (by rfl) (by rfl) (by rfl) hcd ?_)
  refine wpAny_of_eq (a := [(("grouping" : Str), u)]) (by rfl) ?_
  refine wpAny_newFunctionEnv (show ∀ x ∈ (rec 5).scope.names, x.2 ≠ .cell by decide +kernel) (fun x hx => by rw [List.mem_singleton.mp hx]; exact (show (rec 5).scope.names.lookup ("grouping" : Str) = some NameKind.local by decide +kernel)) (fun h₁ hn₁ hs₁ => ?_) (by rfl)
  replace hs₁ : Heap.SameBut s.heap.objs.size (s.heap.push { cls := .type "frame", data := .dict #[] }) h₁ := hs₁
  have hk : HLe s.heap h₁ := fun b o q => (hs₁.2 b (Nat.ne_of_lt (Heap.lt_size q))).trans (Heap.get?_push_of_some _ q)
  have hsz : h₁.objs.size = s.heap.objs.size + 1 := by rw [hs₁.1, Heap.size_push]
  refine ⟨hb.lim.keeps hk, ?_⟩
  refine h _ h₁.objs.size _ _ ⟨rfl, rfl, rfl, rfl, rfl, rfl, fun x k hx => (show ∀ p ∈ (rec 5).scope.names, p.2 ≠ .cell ∧ p.2 ≠ .free by decide +kernel) _ (mem_of_lookup hx)⟩ ⟨_, hn₁.keeps fun b o q => Heap.get?_push_of_some _ q, by simp⟩ ⟨_, _, _, Heap.get?_push_size _ rfl, rfl, rfl, rfl⟩ (fun b o q => Heap.get?_push_of_some _ (hk b o q)) (by rw [hsz]; exact Nat.lt_succ_self _) (by rw [Heap.size_push]; exact Nat.lt_succ_self _)
end
end Mine

end
section
set_option Elab.async false
set_option maxRecDepth 100000
namespace Mine
section
variable {C : Cfg} {A : Around} {L it l : Addr} {F : Nat → Option Nat} {N : Nat} {us : List Value} {s : Shared} {E : Value → Shared → Prop}
theorem gen_pull {a : Addr} {g m : Nat} {gs : GenState} {Q : Option Value → Shared → Prop} (hh : A.handled = none) (hl : s.heap.NoLimit) (hroom : A.depth < recursionLimit) (hg : s.heap.IsGen a g) (hgs : s.gens[g]? = some gs) (hm : m < N)
    (hgo : gs.Goes (model C.prog C.w) A.in1 (gR' F N L it) (gY C F N L it l us) (m + 1) (.send .none) (s.setGen g .running))
    (hY : ∀ (e : Nat) (t : Tok) (s₁ : Shared) (gs' : GenState), F (N - (m + 1)) = some e → gs'.bare = true → GSince L it (s.setGen g .running) s₁ → GAt L it l us s₁.heap →
      (0 < m → ∀ s'' : Shared, (∀ b, b = L ∨ b = it ∨ b = l → ∀ o, s₁.heap.get? b = some o → s''.heap.get? b = some o) → C.Base (hideAll s''.heap [L, it]) → gs'.Goes (model C.prog C.w) A.in1 (gR' F N L it) (gY C F N L it l us) m (.send .none) s'') →
      Q (some (.int e t)) (s₁.setGen g gs'))
    (hP : ∀ s₁ h', F (N - (m + 1)) = none → GSince L it (s.setGen g .running) s₁ → HLe s₁.heap h' → Q none { s₁.setGen g .finished with heap := h' }) :
    wpAny (model C.prog C.w) A (pyNext (.ref a)) Q E s := by
  unfold pyNext
  refine wpAny_bind (wpAny_attempt (wpAny_callSpecial?_slot (name := Str.ofString "__next__") hg.typeIs slot_gen_next
    (wpAny_call_entry slot_gen_next hg.typeIs entry_gen_next ?_ (args_gen_next _))))
  show wpAny _ A.in1 (Builtin.Generator.genWake (.ref a) (.send .none)) _ _ s
  unfold Builtin.Generator.genWake
  refine wpAny_bind (wpAny_holding (wpAny_genNumber hg (wpAny_bind (wpAny_genState hgs ?_))))
  cases gs with
  | running => exact hgo.elim
  | finished => exact hgo.elim
  | _ =>
    refine wpAny_bind (wpAny_roomToWake hl hroom ?_)
    show wpAny _ A.in1 (.resume g (.send .none) [] _) _ _ s
    refine wpAny_resumeQ hgs hgo (fun x s₁ hx => ?_) (fun v s₁ gs' hbare hv => ?_)
    · obtain ⟨rfl, h1, h2⟩ := hx
      show wpAny _ A.in1 (newExc (.type "StopIteration") [] >>= _) _ _ _
      refine wpAny_bind ?_
      simp only [newExc, newTuple]
      refine wpAny_bind (wpAny_newObj_type ?_ (by size_fits))
      refine wpAny_bind (m := firstArgMember _ _) (wpAny_of_eq (a := Value.none) (by first | rfl | (simp only [firstArgMember]; rfl)) ?_)
      refine wpAny_newObj_type ?_ (by size_fits)
      simp only [raiseNew]
      refine wpAny_bind (wpAny_bind (wpAny_handled ?_))
      first | rw [show A.in1.handled = none from hh] | rw [hh]
      refine wpAny_throw ?_
      refine wpAny_bind (wpAny_isInstance (T := "StopIteration") (b := true) ⟨_, Heap.get?_push_size _ rfl, rfl⟩ isSubtype_stop ?_)
      exact wpAny_pure (hP s₁ _ h1 h2 fun b o hb => Heap.get?_push_of_some _ (Heap.get?_push_of_some _ hb))
    · obtain ⟨⟨e, t, h1, rfl⟩, h2, h3, h4⟩ := hv
      refine wpAny_pure ⟨_, rfl, wpAny_pure (hY e t s₁ gs' ?_ hbare h2 h3 h4)⟩
      rw [← h1]; congr 1; omega
end
/-- the generators' word: each new one, each one that waits or is through, is let be -/
structure JGen (J : Js) : Prop where
  push : ∀ g o x, J g o → x.bare = true → J (g.push x) o
  set : ∀ g o i x, J g o → x.bare = true → J (g.setIfInBounds i x) o
end Mine

end
section
set_option Elab.async false
set_option maxRecDepth 100000

namespace Mine
noncomputable def cutGo : Nat → (Nat → Option Nat) → List Nat → List (List Nat) → List Nat × List (List Nat)
  | 0, _, rest, gs => (rest, gs)
  | n + 1, F, rest, gs => match F 0 with
    | none => (rest, gs)
    | some e => if rest = [] then (rest, gs) else cutGo n (fun j => F (j + 1)) (rest.take (rest.length - e)) (rest.drop (rest.length - e) :: gs)
noncomputable def cutR (figs : List Nat) (row : List Nat) (p : List Nat × List (List Nat)) : Rho := [("figures", .val (.str figs)), ("row", .val (.list (row.map fun e : Nat => V.int e))), ("groups", .val (.list (p.2.map V.str))), ("rest", .val (.str p.1))]
noncomputable def cutFor : Stmt := nth (bodyOf (nth (rec 28).body 2)) 0
theorem cut_neg {α : Type} (xs : List α) (e : Nat) (he : 0 < e) : cut (some (-(e : Int))) none xs = xs.drop (xs.length - e) := by
  unfold cut
  simp only [Option.elim]
  rw [clip_neg _ _ he, List.take_of_length_le (by simp)]
theorem cut_negTo {α : Type} (xs : List α) (e : Nat) (he : 0 < e) : cut none (some (-(e : Int))) xs = xs.take (xs.length - e) := by
  unfold cut
  simp only [Option.elim]
  rw [clip_neg _ _ he]; simp
section
variable {C : Cfg} {d : Nat} {J : Js}
theorem cut_turn {figs row rest : List Nat} {gs : List (List Nat)} {e : Nat} (he : 0 < e) (hr : rest.length ≤ 10) (hg : gs.length ≤ 20) :
    (rest = [] → Ex C d J (rec 28).scope (put (cutR figs row (rest, gs)) "size" (.val (.int e))) (bodyOf cutFor) (.brk (cutR figs row (rest, gs)))) ∧
    (rest ≠ [] → Ex C d J (rec 28).scope (put (cutR figs row (rest, gs)) "size" (.val (.int e))) (bodyOf cutFor) (.next (cutR figs row (rest.take (rest.length - e), rest.drop (rest.length - e) :: gs)))) := by
  unfold cutR
  constructor
  · intro h
    rw [Put.eq (by walk_at "m:put")]
    refine ex_brk (st_if (r := true) (Tst.cast (by walk_at "m:tst") (by simpa using h)) (fun _ => ?_) fun e => absurd e (by decide))
    exact ex_brk (Ex.less1 st_break (by walk_at "m:sub"))
  · intro h
    rw [Put.eq (by walk_at "m:put")]
    refine ex_cons (st_if (r := false) (Tst.cast (by walk_at "m:tst") (by simpa using h)) (fun e => absurd e (by decide)) fun _ => ex_nil) ?_
    have hgl : (gs.map V.str).length ≤ 20 := by simpa using hg
    refine ex_cons (st_set (v := .list ((rest.drop (rest.length - e) :: gs).map V.str)) (Ev.cast (ev_bin (by walk_at "m:ev") (by walk_at "m:ev") (bin_addL (by rw [sizeLine_eq]; simp; omega))) ?_) (by walk_at "m:put") (by walk_at "m:loc") (by walk_at "m:noapp")) ?_
    · rw [cut_neg _ _ he]; rfl
    refine ex_cons (st_set (v := .str (rest.take (rest.length - e))) (Ev.cast (by walk_at "m:ev") ?_) (by walk_at "m:put") (by walk_at "m:loc") (by walk_at "m:noapp")) ?_
    · rw [cut_negTo _ _ he]
    · walk_at "m:end"
end
end Mine

end
section
set_option Elab.async false
set_option maxRecDepth 100000
namespace Mine
section
variable {C : Cfg} {d : Nat} {J : Js}
theorem cutR_noApp (figs row : List Nat) (p : List Nat × List (List Nat)) (y : Str) : noApp (cutR figs row p) y = true := rfl
theorem gens_set_self {gens : Array GenState} {g : Nat} {x y : GenState} (h : gens[g]? = some x) : (gens.setIfInBounds g y)[g]? = some y := by
  have hlt : g < gens.size := by
    rcases Nat.lt_or_ge g gens.size with h' | h'
    · exact h'
    · rw [Array.getElem?_eq_none h'] at h; cases h
  simp [hlt]
theorem outs_pos : ∀ (row : List Nat) (last : Option Nat) (j e : Nat), (∀ x, last = some x → 0 < x) → outs last row j = some e → 0 < e
  | [], last, j, e, _, h => by cases j <;> cases h
  | x :: r, last, j, e, hl, h => by
    unfold outs at h
    split at h
    · cases h
    · rename_i h1
      split at h
      · exact hl e h
      · rename_i h2
        cases j with
        | zero => simp at h; omega
        | succ j => exact outs_pos r (some x) j e (fun y hy => by cases hy; omega) h
theorem gSince_heap {L it : Addr} {s s' : Shared} {g : Nat} {y : GenState} (x : GSince L it (s.setGen g y) s') : ∀ b o, b ∉ [L, it] → s.heap.get? b = some o → s'.heap.get? b = some o :=
  fun b o hb q => x.2.2 b o (fun w => hb (by rw [w]; exact List.mem_cons_self)) (fun w => hb (by rw [w]; exact List.mem_cons_of_mem _ List.mem_cons_self)) q
theorem gSince_gens {L it : Addr} {s s' : Shared} {g : Nat} {y z : GenState} (x : GSince L it (s.setGen g y) s') : (s'.setGen g z).gens = (s.gens.setIfInBounds g y).setIfInBounds g z ∧ (s'.setGen g z).os = s.os :=
  ⟨by show s'.gens.setIfInBounds g z = _; rw [x.1]; rfl, x.2.1⟩
theorem cut_for (hJG : JGen J) {f : Addr} {tc : Tok} (hf : Def C 5 "_grouping_intervals" f) (hc : C.mg "CHAR_MAX" = some (.int 127 tc)) {figs row : List Nat} (hfl : figs.length ≤ 6) (hz : row.head? ≠ some 0) :
    Ex1 C (d + 4) J (rec 28).scope (cutR figs row (figs, [])) cutFor (.next (cutR figs row (cutGo 8 (outs none row) figs []))) := by
  intro c A s Q E hJ okk bs cn x fin
  have ok := okk.1
  have hown := okk.2
  show wpAny _ A (exec (.For (.Name "size" _) (.Call (.Name "_grouping_intervals" _) [.Name "row" _] [] _) (bodyOf cutFor) [] _) c.env) Q E s
  refine wpAny_For ?_ (fun _ => rfl)
  refine wpAny_Call_Name_kw (wpAny_mono ((ev_glob (d := d + 4) (J := J) (T := (rec 28).scope) (ρ := cutR figs row (figs, [])) (by decide +kernel) hf.g (by decide +kernel)).use hJ ok bs cn x) (fun u s₀ ⟨x₀, p₀, r₀⟩ => ?_) fun _ _ e => e)
  have r₀ : u = .ref f := r₀
  subst r₀
  obtain ⟨of, doc, pm, an, cdv, ct, hof, hdf, _⟩ := ((bs.now x₀.keep).fns f _ hf.r)
  refine callWith_function (o := of) (fd := fnOf (rec 5).name (rec 5).name (rec 5).params (rec 5).body (rec 5).scope .none .none doc pm an cdv ct) (evalArgs_plain ?_)
  have hargs : EvA C (d + 4) J (rec 28).scope (cutR figs row (figs, [])) ⟨209, 20, 209, 44⟩ [.Name "row" ⟨209, 40, 209, 43⟩] [.list (row.map fun e : Nat => V.int e)] :=
    eva_cons (ev_loc (At.there At.here (by decide +kernel)) (by decide +kernel)) eva_nil
  refine wpAny_mono (hargs.use (E := E) hJ ok bs cn x₀) (fun us₀ s₁ ⟨x₁, p₁, r₁⟩ => ⟨⟨p₁.le _ _ hof, hdf⟩, ?_⟩) fun _ _ e => e
  obtain ⟨ul, rfl, l, us, rfl, pl, rs⟩ := rvs1 r₁
  have hlen : us.length = row.length := by have := rs.len; simpa using this
  have hrow : ∀ (i y : Nat), row[i]? = some y → ∃ t, us[i]? = some (.int y t) := fun i y hy => by
    obtain ⟨w, hw, t, rfl⟩ := rs.get i (.int y) (by simp [hy])
    exact ⟨t, hw⟩
  have il := isList_of pl
  obtain ⟨ol, pl', _⟩ := pl
  have hlm : l ∉ c.mu := fun q => by rw [show c.vis s₁.heap = hideAll s₁.heap c.mu from rfl, hideAll_none _ q] at pl'; cases pl'
  have hlo := of_hideAll _ pl'
  have hll : l < s₁.heap.objs.size := Heap.lt_size hlo
  have hb1 : C.Base s₁.heap := bs.now x₁.keep
  refine gen_make cn hf.r hb1 fun env a h₂ tk₂ eB hm hga hk₂ hLa haz => ?_
  refine wpAny_pyIter_gen hga ?_
  have fresh : ∀ b, s₁.heap.objs.size ≤ b → s₁.heap.get? b = none := fun b hb => by
    cases q : s₁.heap.get? b with
    | none => rfl
    | some o' => exact absurd (Heap.lt_size q) (Nat.not_lt.mpr hb)
  generalize hLe : s₁.heap.objs.size = L at eB hm hLa hll fresh
  generalize hie : h₂.objs.size = it at haz
  have hLit : L < it := Nat.lt_trans hLa haz
  have hlL : l ≠ L := Nat.ne_of_lt hll
  have hil : l ≠ it := Nat.ne_of_lt (Nat.lt_trans hll hLit)
  have haL : a ≠ L := Nat.ne_of_gt hLa
  have hai : a ≠ it := Nat.ne_of_lt haz
  obtain ⟨mg, hnL, hmg⟩ := hm
  have hWf : ∀ b ∈ [L, it], s₁.heap.get? b = none := fun b hb => by
    rcases List.mem_cons.mp hb with q | q
    · rw [q]; exact fresh _ (Nat.le_refl _)
    · rw [List.mem_singleton.mp q]; exact fresh _ (Nat.le_of_lt hLit)
  have hWc : ∀ b ∈ [L, it], b ∉ c.mu ∧ c.h₀.get? b = none := fun b hb => by
    refine ⟨fun q => ?_, ?_⟩
    · obtain ⟨ob, e⟩ := x₁.low b q; rw [hWf b hb] at e; cases e
    · cases q : c.h₀.get? b with
      | none => rfl
      | some ob => have := x₁.keep _ _ q; rw [hWf b hb] at this; cases this
  have hac : a ∉ c.ow := fun q => by
    obtain ⟨ob, e⟩ := x₁.low a (ok.sub a q)
    rw [fresh a (Nat.le_of_lt hLa)] at e; cases e
  have hlc : l ∉ c.ow := fun q => hlm (ok.sub l q)
  have jj : J s₁.gens s₁.os := by rw [← hJ]; exact x₁.j
  have hJJ : ∀ {s s' : Shared} {y z : GenState}, J s.gens s.os → y.bare = true → z.bare = true → GSince L it (s.setGen s₁.gens.size y) s' → J (s'.setGen s₁.gens.size z).gens (s'.setGen s₁.gens.size z).os := fun h1 h2 h3 h4 => by
    rw [(gSince_gens h4).1, (gSince_gens h4).2]
    exact hJG.set _ _ _ _ (hJG.set _ _ _ _ h1 h2) h3
  have okW := ok.hidL [L, it]
  let F : Nat → Option Nat := outs none row
  let s₂ : Shared := { s₁ with gens := s₁.gens.push (.fresh (.func (rec 5).body env)), heap := h₂, toks := tk₂ }
  let P8 := cutGo 8 F figs []
  let Inv : Nat → Shared → Prop := fun k s' => (k = 9 ∧ s' = s₂) ∨ ∃ c' rest gs gst, k ≤ 7 ∧ rest.length + 2 ≤ k ∧ gs.length + k ≤ 8 ∧ cutGo k (fun j => F (8 - k + j)) rest gs = P8 ∧ Grow (rec 28).scope (c.hidL [L, it]) c' ∧ St c' (cutR figs row (rest, gs)) s' ∧
    (∀ b ∈ [L, it, l, a], b ∉ c'.ow) ∧ GAt L it l us s'.heap ∧ s'.heap.IsGen a s₁.gens.size ∧ s'.gens[s₁.gens.size]? = some gst ∧
    ∀ s'' : Shared, (∀ b, b = L ∨ b = it ∨ b = l → ∀ o, s'.heap.get? b = some o → s''.heap.get? b = some o) → C.Base (hideAll s''.heap [L, it]) → gst.Goes (model C.prog C.w) A.in1 (gR' F 8 L it) (gY C F 8 L it l us) k (.send .none) s''
  have hnoL : ∀ {h : Heap}, GAt L it l us h → ∀ b ∈ [L, it], ∀ us', ¬ h.PlainList b us' := fun hg b hb us' => by
    rcases List.mem_cons.mp hb with q | q
    · obtain ⟨m, n⟩ := hg.ns; rw [q]; exact Ns.noList n us'
    · obtain ⟨i, n⟩ := hg.iter; rw [List.mem_singleton.mp q]; exact listIter_noList n us'
  have hW4 : ∀ b ∈ [L, it], b ∈ [L, it, l, a] := fun b hb => by
    rcases List.mem_cons.mp hb with q | q
    · rw [q]; exact List.mem_cons_self
    · rw [List.mem_singleton.mp q]; exact List.mem_cons_of_mem _ List.mem_cons_self
  -- a turn, behind the pull
  have turn : ∀ (n m : Nat) (c' : Cx) (s' : Shared) (rest : List Nat) (gs : List (List Nat)) (gst : GenState) (e : Nat) (t : Tok) (E1 E2 E3 : Value → Shared → Prop), m < n → m ≤ 7 → rest.length + 1 ≤ m → gs.length + m ≤ 7 → F (8 - (m + 1)) = some e → cutGo (m + 1) (fun j => F (8 - (m + 1) + j)) rest gs = P8 →
      Grow (rec 28).scope (c.hidL [L, it]) c' → C.Base (c'.vis c'.h₀) → St c' (cutR figs row (rest, gs)) s' → (∀ b ∈ [L, it, l, a], b ∉ c'.ow) → GAt L it l us s'.heap → s'.heap.IsGen a s₁.gens.size → s'.gens[s₁.gens.size]? = some gst →
      (∀ s'' : Shared, (∀ b, b = L ∨ b = it ∨ b = l → ∀ o, s'.heap.get? b = some o → s''.heap.get? b = some o) → C.Base (hideAll s''.heap [L, it]) → gst.Goes (model C.prog C.w) A.in1 (gR' F 8 L it) (gY C F 8 L it l us) m (.send .none) s'') →
      wpAny (model C.prog C.w) A (letOwnedTupleGo (.Name "size" ⟨209, 12, 209, 16⟩) (.ref a) (.int e t)) (fun _ s₃ => wpAny (model C.prog C.w) A (assign (.Name "size" ⟨209, 12, 209, 16⟩) c.env (.int e t)) (fun _ s₄ => wpAny (model C.prog C.w) A (execs (bodyOf cutFor) c.env) (fun f s₅ => match f with
        | .next | .cont => ∃ m', m' < n ∧ Inv m' s₅
        | .brk => Q .next s₅
        | .ret v => Q (.ret v) s₅) E1 s₄) E2 s₃) E3 s' := by
    intro n m c' s' rest gs gst e t E1 E2 E3 hmn hm7 hrm hgm hFe hP g bs' x' hb4 hgat hgen hgs hgo
    have e1 : c'.env = c.env := by obtain ⟨⟨m, _, e⟩, _⟩ := g; subst e; rfl
    have eJ : c'.J = J := by obtain ⟨⟨m, _, e⟩, _⟩ := g; subst e; exact hJ
    have eown : c'.own = true := by obtain ⟨⟨m, _, e⟩, _⟩ := g; subst e; exact hown
    have hepos : 0 < e := outs_pos row none _ e (fun _ q => by cases q) hFe
    let Jz : Js := fun g o => g = s'.gens ∧ o = s'.os
    have x3 : St ((c'.on s'.heap).wJ Jz) (cutR figs row (rest, gs)) s' := x'.on.wJ ⟨rfl, rfl⟩
    have okz : ((c'.on s'.heap).wJ Jz).Ok (rec 28).scope := (g.ok.on x'.keep).wJ Jz
    have bz : C.Base (((c'.on s'.heap).wJ Jz).vis ((c'.on s'.heap).wJ Jz).h₀) := bs'.keeps (vis_keeps (c := c') (on_le g.ok x'.keep))
    refine wpAny_of_eq (rfl : letOwnedTupleGo (.Name "size" ⟨209, 12, 209, 16⟩) (.ref a) (.int e t) = pure ()) ?_
    rw [← e1]
    refine wpAny_assign_Name (st_storeV (c := (c'.on s'.heap).wJ Jz) okz x3 (fun _ => eown) (.inl (by decide +kernel)) (cutR_noApp _ _ _ _) (v := .int e) ⟨t, rfl⟩ fun h4 t4 x4 _ => ?_)
    have hct := cut_turn (C := C) (d := d + 4) (J := Jz) (figs := figs) (row := row) (rest := rest) (gs := gs) (e := e) hepos (by omega) (by omega)
    -- behind the body
    have back : ∀ ρ' c2 s2, Grow (rec 28).scope ((c'.on s'.heap).wJ Jz) c2 → St c2 ρ' s2 → ∃ c3, Grow (rec 28).scope c' c3 ∧ St c3 ρ' s2 ∧ s2.gens = s'.gens ∧ (∀ b ob, b ∉ c'.ow → s'.heap.get? b = some ob → b ∉ c3.ow ∧ s2.heap.get? b = some ob) := by
      intro ρ' c2 s2 g2 x2
      obtain ⟨c2', g2', rfl⟩ := Grow.wJ (g.ok.on x'.keep) g2
      have ej2 : c2'.J = J := by obtain ⟨⟨m, _, e⟩, _⟩ := g2'; subst e; exact eJ
      have hj2 := x2.j
      have x2' : St c2' ρ' s2 := by
        have := x2.wJ (J := c2'.J) (by rw [ej2, hj2.1, hj2.2, ← eJ]; exact x'.j)
        exact this
      obtain ⟨c3, g3, e3, e3o, up⟩ := g2'.off g.ok x'.keep
      refine ⟨c3, g3, up _ _ x2', hj2.1, fun b ob hbo q => ?_⟩
      have h1 : (c'.on s'.heap).h₀.get? b = some ob := hideAll_get _ q hbo
      have h2 : c2'.h₀ = (c'.on s'.heap).h₀ := by obtain ⟨⟨m, _, e⟩, _⟩ := g2'; subst e; rfl
      refine ⟨fun w => ?_, x2'.keep b ob (by rw [h2]; exact h1)⟩
      have h3 := g2'.ok.off b (e3o ▸ w)
      rw [h2, h1] at h3; cases h3
    have gatK : ∀ {c3 : Cx} {s2 : Shared}, (∀ b ob, b ∉ c'.ow → s'.heap.get? b = some ob → b ∉ c3.ow ∧ s2.heap.get? b = some ob) → (∀ b ∈ [L, it, l, a], b ∉ c3.ow) ∧ GAt L it l us s2.heap ∧ s2.heap.IsGen a s₁.gens.size := by
      intro c3 s2 hk
      have kL : ∀ o, s'.heap.get? L = some o → _ := fun o q => hk L o (hb4 L (by simp)) q
      have ki : ∀ o, s'.heap.get? it = some o → _ := fun o q => hk it o (hb4 it (by simp)) q
      have kl : ∀ o, s'.heap.get? l = some o → _ := fun o q => hk l o (hb4 l (by simp)) q
      have ka : ∀ o, s'.heap.get? a = some o → _ := fun o q => hk a o (hb4 a (by simp)) q
      obtain ⟨⟨mL, oL, esL, epL, hoL, rL⟩, ⟨i, oi, hoi, ri⟩, ⟨o2, ho2, r2⟩⟩ := hgat
      obtain ⟨oa, nm, qn, hoa, ra⟩ := hgen
      refine ⟨fun b hb => ?_, ⟨⟨mL, oL, esL, epL, (kL _ hoL).2, rL⟩, ⟨i, oi, (ki _ hoi).2, ri⟩, ⟨o2, (kl _ ho2).2, r2⟩⟩, ⟨oa, nm, qn, (ka _ hoa).2, ra⟩⟩
      rcases List.mem_cons.mp hb with q | hb
      · rw [q]; exact (kL _ hoL).1
      · rcases List.mem_cons.mp hb with q | hb
        · rw [q]; exact (ki _ hoi).1
        · rcases List.mem_cons.mp hb with q | hb
          · rw [q]; exact (kl _ ho2).1
          · rw [List.mem_singleton.mp hb]; exact (ka _ hoa).1
    have hcg : cutGo (m + 1) (fun j => F (8 - (m + 1) + j)) rest gs = if rest = [] then (rest, gs) else cutGo m (fun j => F (8 - (m + 1) + (j + 1))) (rest.take (rest.length - e)) (rest.drop (rest.length - e) :: gs) := by
      unfold cutGo
      show (match F (8 - (m + 1) + 0) with | none => (rest, gs) | some e => _) = _
      rw [Nat.add_zero, hFe]
      cases m <;> rfl
    rw [hcg] at hP
    by_cases hre : rest = []
    · refine hct.1 hre ((c'.on s'.heap).wJ Jz) A _ _ _ rfl ⟨okz, eown⟩ bz cn x4 fun c2 s2 g2 x2 => ?_
      obtain ⟨c3, g3, x5, hg5, hk5⟩ := back _ _ _ g2 x2
      obtain ⟨hb5, hgat5, _⟩ := gatK hk5
      have ej3 : c.J = c3.J := by obtain ⟨⟨m, _, e⟩, _⟩ := g3; subst e; rw [hJ, ← eJ]
      obtain ⟨c4, g4, x8, _⟩ := x5.outL (s' := s2) ok hown (g.trans g3) hWc (fun b hb => ⟨hb5 b (hW4 b hb), hnoL hgat5 b hb⟩) (by rw [ej3]; exact x5.j) (fun _ _ _ q => q)
      rw [if_pos hre] at hP
      refine fin c4 s2 g4 ?_
      show St c4 (cutR figs row P8) s2
      rw [← hP]; exact x8
    · refine hct.2 hre ((c'.on s'.heap).wJ Jz) A _ _ _ rfl ⟨okz, eown⟩ bz cn x4 fun c2 s2 g2 x2 => ?_
      obtain ⟨c3, g3, x5, hg5, hk5⟩ := back _ _ _ g2 x2
      obtain ⟨hb5, hgat5, hgen5⟩ := gatK hk5
      rw [if_neg hre] at hP
      have hrl : 0 < rest.length := List.length_pos_iff.mpr hre
      refine ⟨m, hmn, .inr ⟨c3, _, _, gst, hm7, ?_, ?_, ?_, g.trans g3, x5, hb5, hgat5, hgen5, by rw [hg5]; exact hgs, fun s'' hk hbb => hgo s'' (fun b hb o q => hk b hb o ?_) hbb⟩⟩
      · rw [List.length_take]; omega
      · rw [List.length_cons]; omega
      · rw [← hP]; congr 1
        funext j; congr 1; omega
      · refine (hk5 b o (hb4 b ?_) q).2
        rcases hb with w | w | w <;> rw [w] <;> simp
  show codeAny (model C.prog C.w) A (.forLoop (.Name "size" ⟨209, 12, 209, 16⟩) (.ref a) (bodyOf cutFor) [] c.env) _ s₂
  have j2 : J s₂.gens s₂.os := hJG.push _ _ _ jj rfl
  have hgs2 : s₂.gens[s₁.gens.size]? = some (.fresh (.func (rec 5).body env)) := by show (s₁.gens.push _)[s₁.gens.size]? = _; simp
  have hl2 : h₂.IsList l us.toArray := let ⟨o, q, w⟩ := il; ⟨o, hk₂ _ _ q, w⟩
  refine codeAny_forLoop_any Inv ?_ 9 (.inl ⟨rfl, rfl⟩)
  intro n s' hI
  rcases hI with ⟨rfl, rfl⟩ | ⟨c', rest, gs, gst, hn7, hrn, hgn, hP, g, x', hb4, hgat, hgen, hgs, hgo⟩
  · -- the first pull
    have bL : C.Base (hideAll h₂ [L]) := bs.keeps fun b o q => by
      have q1 := x₁.keep _ _ (of_hideAll _ q)
      refine hideAll_get _ (hk₂ _ _ q1) fun w => ?_
      rw [List.mem_singleton.mp w, fresh L (Nat.le_refl _)] at q1; cases q1
    have hlim : h₂.NoLimit := (bs.now (x₁.keep.trans hk₂)).lim
    refine gen_pull (C := C) (F := F) (N := 8) (L := L) (it := it) (l := l) (us := us) (m := 7) cn.hh hlim cn.lim hga hgs2 (by decide) ⟨rfl, ?_⟩ (fun e t s₃ gs' hFe hbare hsin hgat hgo => ?_) (fun s₃ h' hFe hsin hkk => ?_)
    · have := gen_start (C := C) (A := A.in1) (F := F) (N := 8) (s := s₂.setGen s₁.gens.size .running) (d := d + 2) cn.in1 eB hlL hc hrow hlen (by decide) (fun j => rfl) hz hnL hmg hl2 bL
      rw [show (s₂.setGen s₁.gens.size .running).heap.objs.size = it from hie] at this
      exact this
    · have hk3 : HLe s₁.heap (s₃.setGen s₁.gens.size gs').heap := fun b o q => gSince_heap hsin b o (fun w => by rw [hWf b w] at q; cases q) (hk₂ b o q)
      have j3 : J (s₃.setGen s₁.gens.size gs').gens (s₃.setGen s₁.gens.size gs').os := hJJ (s := s₂) j2 rfl hbare hsin
      obtain ⟨xW, _, hbW⟩ := x₁.hideL (T := (rec 28).scope) (W := [L, it]) (s₂ := s₃.setGen s₁.gens.size gs') hk3 (by rw [hJ]; exact j3) (fun b hb => ⟨hWf b hb, by
        rcases List.mem_cons.mp hb with q | q
        · obtain ⟨m, o, _, _, q1, _⟩ := hgat.ns; rw [q]; exact ⟨o, q1⟩
        · obtain ⟨i, o, q1, _⟩ := hgat.iter; rw [List.mem_singleton.mp q]; exact ⟨o, q1⟩⟩)
      have hgen3 : (s₃.setGen s₁.gens.size gs').heap.IsGen a s₁.gens.size := by
        obtain ⟨oa, nm, qn, hoa, ra⟩ := hga
        exact ⟨oa, nm, qn, gSince_heap hsin a oa (fun w => by
          rcases List.mem_cons.mp w with w | w
          · exact haL w
          · exact hai (List.mem_singleton.mp w)) hoa, ra⟩
      refine turn 9 7 (c.hidL [L, it]) (s₃.setGen s₁.gens.size gs') figs [] gs' e t _ _ _ (by decide) (by decide) (by omega) (by decide) hFe ?_ (Grow.refl okW) (hbW C bs) xW (fun b hb => ?_) hgat hgen3 ?_ (hgo (by decide))
      · show cutGo 8 (fun j => F (0 + j)) figs [] = P8
        congr 1; funext j; rw [Nat.zero_add]
      · rcases List.mem_cons.mp hb with q | hb
        · rw [q]; exact fun w => (hWc L (by simp)).1 (ok.sub _ w)
        · rcases List.mem_cons.mp hb with q | hb
          · rw [q]; exact fun w => (hWc it (by simp)).1 (ok.sub _ w)
          · rcases List.mem_cons.mp hb with q | hb
            · rw [q]; exact hlc
            · rw [List.mem_singleton.mp hb]; exact hac
      · rw [(gSince_gens hsin).1]; exact gens_set_self (gens_set_self hgs2)
    · have hk3 : HLe s₁.heap h' := fun b o q => hkk b o (gSince_heap hsin b o (fun w => by rw [hWf b w] at q; cases q) (hk₂ b o q))
      have j3 : J (s₃.setGen s₁.gens.size .finished).gens (s₃.setGen s₁.gens.size .finished).os := hJJ (s := s₂) j2 rfl rfl hsin
      refine wpAny_execs_nil (fin c _ (Grow.refl ok) ?_)
      have hP8 : P8 = (figs, []) := by
        show cutGo 8 F figs [] = _
        unfold cutGo
        rw [show F 0 = none from hFe]
      show St c (cutR figs row P8) _
      rw [hP8]
      exact x₁.grow' (s' := { s₃.setGen s₁.gens.size .finished with heap := h' }) hk3 (by rw [hJ]; exact j3)
  · -- a later pull
    obtain ⟨m, rfl⟩ : ∃ m, n = m + 1 := ⟨n - 1, by omega⟩
    have eJ : c'.J = J := by obtain ⟨⟨m, _, e⟩, _⟩ := g; subst e; exact hJ
    have eh : c'.h₀ = c.h₀ := by obtain ⟨⟨m, _, e⟩, _⟩ := g; subst e; rfl
    have hWm : ∀ b ∈ [L, it], b ∈ c'.mu := fun b hb => by obtain ⟨⟨m, _, e⟩, _⟩ := g; subst e; exact List.mem_append_right _ (List.mem_append_left _ hb)
    have bsW : C.Base ((c.hidL [L, it]).vis (c.hidL [L, it]).h₀) := bs.keeps fun b o q => hideAll_get _ (of_hideAll _ q) fun w => by
      rcases List.mem_append.mp w with w | w
      · have := of_hideAll _ q; rw [(hWc b w).2] at this; cases this
      · rw [show c.vis c.h₀ = hideAll c.h₀ c.mu from rfl, hideAll_none _ w] at q; cases q
    have bs' := g.base bsW
    have bW : C.Base (hideAll s'.heap [L, it]) := bs'.keeps fun b o q => hideAll_get _ (x'.keep _ _ (of_hideAll _ q)) fun w => by rw [show c'.vis c'.h₀ = hideAll c'.h₀ c'.mu from rfl, hideAll_none _ (hWm b w)] at q; cases q
    have jj' : J s'.gens s'.os := by rw [← eJ]; exact x'.j
    refine gen_pull (C := C) (F := F) (N := 8) (L := L) (it := it) (l := l) (us := us) (m := m) cn.hh (bs'.now x'.keep).lim cn.lim hgen hgs (by omega) (hgo (s'.setGen s₁.gens.size .running) (fun _ _ _ q => q) bW) (fun e t s₃ gs' hFe hbare hsin hgat' hgo' => ?_) (fun s₃ h' hFe hsin hkk => ?_)
    · have j3 : J (s₃.setGen s₁.gens.size gs').gens (s₃.setGen s₁.gens.size gs').os := hJJ (s := s') jj' rfl hbare hsin
      have hkW := gSince_heap hsin
      obtain ⟨x2, _⟩ := x'.hopL (c' := c') (s' := s₃.setGen s₁.gens.size gs') (W := [L, it]) g.ok (fun b hb => ⟨hWm b hb, hb4 b (hW4 b hb), by rw [eh]; exact (hWc b hb).2, hnoL hgat b hb⟩) rfl rfl (by rw [eJ]; exact j3) rfl (fun _ h => h) hkW (fun b hb => by
        by_cases q : b ∈ [L, it]
        · rcases List.mem_cons.mp q with q | q
          · obtain ⟨m, o, _, _, q1, _⟩ := hgat'.ns; rw [q]; exact ⟨o, q1⟩
          · obtain ⟨i, o, q1, _⟩ := hgat'.iter; rw [List.mem_singleton.mp q]; exact ⟨o, q1⟩
        · obtain ⟨ob, e⟩ := x'.low b hb; exact ⟨ob, hkW b ob q e⟩)
      have hgen3 : (s₃.setGen s₁.gens.size gs').heap.IsGen a s₁.gens.size := by
        obtain ⟨oa, nm, qn, hoa, ra⟩ := hgen
        exact ⟨oa, nm, qn, hkW a oa (fun w => by
          rcases List.mem_cons.mp w with w | w
          · exact haL w
          · exact hai (List.mem_singleton.mp w)) hoa, ra⟩
      exact turn (m + 1) m c' (s₃.setGen s₁.gens.size gs') rest gs gs' e t _ _ _ (Nat.lt_succ_self _) (by omega) (by omega) (by omega) hFe hP g bs' x2 hb4 hgat' hgen3 (by rw [(gSince_gens hsin).1]; exact gens_set_self (gens_set_self hgs)) (hgo' (by omega))
    · have j3 : J (s₃.setGen s₁.gens.size .finished).gens (s₃.setGen s₁.gens.size .finished).os := hJJ (s := s') jj' rfl rfl hsin
      obtain ⟨c4, g4, x8, _⟩ := x'.outL (s' := { s₃.setGen s₁.gens.size .finished with heap := h' }) ok hown g hWc (fun b hb => ⟨hb4 b (hW4 b hb), hnoL hgat b hb⟩) (by rw [hJ]; exact j3) (fun b ob hb q => hkk b ob (gSince_heap hsin b ob hb q))
      refine wpAny_execs_nil (fin c4 _ g4 ?_)
      have hP8 : P8 = (rest, gs) := by
        rw [← hP]
        unfold cutGo
        simp only [Nat.add_zero, hFe]
      show St c4 (cutR figs row P8) _
      rw [hP8]; exact x8
end
end Mine

end
section
set_option Elab.async false
set_option maxRecDepth 100000

namespace Mine
noncomputable def cutOf (figs row : List Nat) : List (List Nat) := let p := cutGo 8 (outs none row) figs []; if p.1 = [] then p.2 else p.1 :: p.2
theorem cutGo_len : ∀ (n : Nat) (F : Nat → Option Nat) (rest : List Nat) (gs : List (List Nat)), (cutGo n F rest gs).1.length ≤ rest.length ∧ (cutGo n F rest gs).2.length ≤ gs.length + n
  | 0, F, rest, gs => ⟨Nat.le_refl _, Nat.le_refl _⟩
  | n + 1, F, rest, gs => by
    unfold cutGo
    split
    · exact ⟨Nat.le_refl _, by show gs.length ≤ _; omega⟩
    · split
      · exact ⟨Nat.le_refl _, by show gs.length ≤ _; omega⟩
      · rename_i e _ _
        have h := cutGo_len n (fun j => F (j + 1)) (rest.take (rest.length - e)) (rest.drop (rest.length - e) :: gs)
        refine ⟨Nat.le_trans h.1 (by rw [List.length_take]; omega), ?_⟩
        have := h.2
        rw [List.length_cons] at this; omega
section
variable {C : Cfg} {d : Nat} {J : Js}
theorem cut_body (hJG : JGen J) {f : Addr} {tc : Tok} (hf : Def C 5 "_grouping_intervals" f) (hc : C.mg "CHAR_MAX" = some (.int 127 tc)) {figs row : List Nat} (hfl : figs.length ≤ 6) (hz : row.head? ≠ some 0) :
    Ex C (d + 4) J (rec 28).scope [("figures", .val (.str figs)), ("row", .val (.list (row.map fun e : Nat => V.int e)))] (rec 28).body (.ret (.list ((cutOf figs row).map V.str))) := by
  walk_at "m:set"
  walk_at "m:set"
  refine ex_cons (st_try (ex_cons (cut_for hJG hf hc hfl hz) ex_nil)) ?_
  have hlen := cutGo_len 8 (outs none row) figs []
  unfold cutR cutOf
  generalize cutGo 8 (outs none row) figs [] = p at *
  obtain ⟨rest, gs⟩ := p
  simp only [List.length_nil, Nat.zero_add] at hlen
  refine ex_ret (st_return ?_)
  refine ev_if (r := rest == []) (by walk_at "m:tst") (fun h => ?_) (fun h => ?_)
  · have h : rest = [] := by simpa using h
    show Ev _ _ _ _ _ _ (.list ((if rest = [] then gs else rest :: gs).map V.str))
    rw [if_pos h]
    walk_at "m:ev"
  · have h : ¬ rest = [] := by simpa using h
    show Ev _ _ _ _ _ _ (.list ((if rest = [] then gs else rest :: gs).map V.str))
    rw [if_neg h]
    exact Ev.cast (ev_bin (by walk_at "m:ev") (by walk_at "m:ev") (bin_addL (by rw [sizeLine_eq]; simp; omega))) rfl
theorem fn_cut (hJG : JGen J) {f g : Addr} {tc : Tok} (hf : Def C 5 "_grouping_intervals" f) (hg : Def C 28 "_law_cut" g) (hc : C.mg "CHAR_MAX" = some (.int 127 tc)) {figs row : List Nat} (hfl : figs.length ≤ 6) (hz : row.head? ≠ some 0) :
    Fn C (d + 5) J g [.str figs, .list (row.map fun e : Nat => V.int e)] (.list ((cutOf figs row).map V.str)) :=
  fn_of ["figures", "row"] hg.r (cut_body hJG hf hc hfl hz) (fun us hu => by
    obtain ⟨u1, u2, rfl⟩ := len2 hu
    intro doc pm an cdv ct; rfl) (by decide +kernel) (by decide +kernel) (by decide +kernel) (by decide +kernel) (by decide +kernel) (by decide +kernel)
end
end Mine

end
section
set_option Elab.async false
set_option maxRecDepth 100000
namespace Mine
/-- a ValueError on its way -/
noncomputable def Fly (base : Heap) (l : List Env) (e : Addr) (fl : Value) (h : Heap) : Prop := base.StaysIn h ∧ base.get? e = none ∧ h.FunFrames base l ∧ ∃ a0, h.TracedAtW base e (.type "ValueError") a0 fl
theorem Fly.drop {base h : Heap} {env : Env} {l : List Env} {e : Addr} {fl : Value} (x : Fly base (env :: l) e fl h) : Fly base l e fl h := ⟨x.1, x.2.1, x.2.2.1.2.2, x.2.2.2⟩
theorem Fly.isErr {base : Heap} {s : Shared} {l : List Env} {e : Addr} {fl : Value} (x : Fly base l e fl s.heap) : s.TypeIs (.ref e) "ValueError" := by
  obtain ⟨_, ⟨o, ho, hc⟩⟩ : ∃ a0, ∃ ob, s.heap.get? e = some ob ∧ ob.cls = .type "ValueError" := let ⟨a0, t⟩ := x.2.2.2; ⟨a0, t.there⟩
  exact ⟨o, ho, hc⟩
section
variable {M : Model} {A : Around} {E : Value → Shared → Prop} {s : Shared} {base : Heap} {env : Env} {outer l : List Env} {L e : Addr} {fl : Value} {Q : Unit → Shared → Prop}
theorem fly_first {t : Addr} (hfr : A.frames = some (env :: outer)) (hf : env.frame = some L) (hk : base.StaysIn s.heap) (hl : s.heap.FunFrames base (env :: outer))
    (he : s.heap.get? e = some { cls := .type "ValueError", data := .fields #[.ref t, .none, .none, .none, .bool false, .none] }) (hen : base.get? e = none)
    (h : ∀ h', Fly base (env :: outer) e (rawInt L) h' → s.heap.UpToSlots h' → Q () { s with heap := h' }) : wpAny M A (noteFrame (.ref e) env) Q E s := by
  unfold noteFrame
  simp only [hf]
  refine wpAny_bind (wpAny_field he rfl (x := .none) rfl ?_)
  rw [if_neg (by decide)]
  exact wpAny_entryW hfr hl hf he hk hen rfl (by simp) (a0 := .ref t) rfl fun h' ⟨k1, k2, k3, k4⟩ => h h' ⟨k1, hen, k2, _, k3⟩ k4
theorem fly_set {fr : Option Addr} (x : Fly base l e fl s.heap)
    (h : ∀ h', Fly base l e (fr.elim Value.none fun f => rawInt f) h' → s.heap.UpToSlots h' → Q () { s with heap := h' }) : wpAny M A (setFlight (.ref e) fr) Q E s := by
  obtain ⟨hkb, hen, hl, a0, oe, vs, T, oT, ts, he, hcls, hd, h1, hnT, hTe, hT, hdT, h3⟩ := x
  have hsz3 : 3 < ts.size := (Array.getElem?_eq_some_iff.mp h3).1
  have other : ∀ b, b ≠ T → (s.heap.update T (Obj.mapFields (·.setIfInBounds 3 (fr.elim Value.none fun f => rawInt f)))).get? b = s.heap.get? b :=
    fun b hb => Heap.get?_update_other _ _ (Ne.symm hb)
  have noRecord : ∀ b o, s.heap.get? b = some o → (∀ vs, o.data ≠ .fields vs) → b ≠ T := fun b o hb hnf q => by
    rw [q, hT] at hb; injection hb with hb; subst hb; exact hnf ts hdT
  unfold setFlight
  refine wpAny_bind (wpAny_field he hd h1 ?_)
  rw [if_pos (show (Value.ref T != Value.none) = true from by simp)]
  refine wpAny_setField hT hdT hsz3 (h _ ⟨fun b o hbo => (other b fun q => by rw [q, hnT] at hbo; cases hbo).trans (hkb b o hbo), hen,
    hl.of_keeps fun b o hb hnf => ⟨o, (other b (noRecord b o hb hnf)).trans hb, rfl⟩, ?_⟩ fun b o hb hnf => ⟨o.slots, (other b (noRecord b o hb hnf)).trans hb⟩)
  exact ⟨a0, oe, vs, T, _, _, (other e (Ne.symm hTe)).trans he, hcls, hd, h1, hnT, hTe, Heap.get?_update_self _ hT (Obj.isFreed_of_fields (Obj.data_mapFields hdT _)), Obj.data_mapFields hdT _, by simp [hsz3]⟩
theorem fly_again (x : Fly base l e (rawInt L) s.heap) (hf : env.frame = some L) (h : Q () s) : wpAny M A (noteFrame (.ref e) env) Q E s :=
  let ⟨_, t⟩ := x.2.2.2; wpAny_noteFrame_againW hf t h
theorem fly_on (hfr : A.frames = some (env :: outer)) (hf : env.frame = some L) (x : Fly base (env :: outer) e .none s.heap)
    (h : ∀ h', Fly base (env :: outer) e (rawInt L) h' → s.heap.UpToSlots h' → Q () { s with heap := h' }) : wpAny M A (noteFrame (.ref e) env) Q E s := by
  obtain ⟨f1, f2, f3, a0, f4⟩ := x
  refine wpAny_noteFrame_onW hfr f3 hf f4 f1 f2 fun h' hN => ?_
  obtain ⟨k1, k2, k3, k4⟩ := hN
  exact h h' ⟨k1, f2, k2, _, k3⟩ k4
theorem fly_back {Q' : Value → Shared → Prop} (x : Fly base l e fl s.heap) (hf : env.frame = some L) (h : ∀ h', Fly base l e (rawInt L) h' → s.heap.UpToSlots h' → Q' (.ref e) { s with heap := h' }) :
    cameBackBy M A env Q' (.ref e) s := by
  have x0 := x
  obtain ⟨hkb, hen, hl, a0, oe, vs, T, oT, ts, he, hcls, hd, h1, hnT, hTe, hT, hdT, h3⟩ := x
  unfold cameBackBy
  refine wpAny_bind (wpAny_field he hd h1 ?_)
  rw [if_neg (show ¬ ((Value.ref T == Value.none) = true) from by simp)]
  show wpAny M A (setFlight (.ref e) env.frame) _ _ s
  rw [hf]
  exact fly_set (fr := some L) x0 h
end
end Mine

end
section
set_option Elab.async false
set_option maxRecDepth 100000
namespace Mine
section
variable {C : Cfg} {A : Around} {env : Env} {L l : Addr} {us : List Value} {s : Shared}
/-- all that is no record stands, but for its slots; but not at L -/
noncomputable def UpBut (L : Addr) (h h' : Heap) : Prop := ∀ b o, b ≠ L → h.get? b = some o → (∀ vs, o.data ≠ .fields vs) → ∃ sl, h'.get? b = some { o with slots := sl }
theorem UpBut.then {L : Addr} {h h' h'' : Heap} (x : UpBut L h h') (y : h'.UpToSlots h'') : UpBut L h h'' := fun b o hb e hn =>
  let ⟨_, e₁⟩ := x b o hb e hn; let ⟨sl, e₂⟩ := y b _ e₁ hn; ⟨sl, e₂⟩
noncomputable def gErr (base : Heap) (outer : List Env) (L : Addr) : GenEnd := fun _ s₀ r s₁ => ∃ e, r = .error (.ref e) ∧ Fly base outer e .none s₁.heap ∧ s₁.gens = s₀.gens ∧ s₁.os = s₀.os ∧ UpBut L s₀.heap s₁.heap
theorem gen_raise {d : Nat} (cn : Cnd A (d + 1)) (e : Bare (rec 5).scope env L) (hlL : l ≠ L) {tc : Tok} (hc : C.mg "CHAR_MAX" = some (.int 127 tc)) (hv : Blt C "ValueError" (.type "ValueError")) {t0 : Tok} (h0 : us[0]? = some (.int 0 t0))
    {m : Str → Option Value} (hn : s.heap.Ns L m) (hm : m "grouping" = some (.ref l)) (hl : s.heap.IsList l us.toArray) (hb : C.Base (hideAll s.heap [L])) {base : Heap} {outer : List Env} (hfr : A.frames = some outer)
    (hst : ∀ b o, base.get? b = some o → s.heap.get? b = some o) (hbL : base.get? L = none) (hfun : s.heap.FunFrames base outer) (hLo : ∀ v ∈ outer, v.frame ≠ some L) {Y : Protocol} {n : Nat} :
    Seg (model C.prog C.w) A (gErr base outer L) Y n s (.func (rec 5).body env) ((model C.prog C.w).den (.func (rec 5).body env)) [] s := by
  have hkind : ∀ y, env.kindOf y = (rec 5).scope.names.lookup y := fun y => by show env.scope.names.lookup y = _; rw [e.scope]
  have hlt : L < s.heap.objs.size := hn.lt
  refine seg_func ?_
  refine seg_execs_cons (seg_plain ?_)
  refine wpAny_Assign_Name (wpAny_Constant_none ?_) (by rfl)
  refine wpAny_storeName_local (by rw [hkind]; decide +kernel) (by rw [e.loc]; exact hn) (fun h₁ hn₁ hs₁ => ?_) (by rw [e.scope]; rfl)
  rw [e.loc] at hn₁ hs₁
  replace hs₁ : Heap.SameBut L s.heap h₁ := hs₁
  replace hn₁ : h₁.Ns L (fun y => if y = "last_interval" then some .none else m y) := hn₁
  have hl₁ : h₁.IsList l us.toArray := let ⟨o, q, w⟩ := hl; ⟨o, (hs₁.2 l hlL).trans q, w⟩
  have hmg : (fun y : Str => if y = "last_interval" then some Value.none else m y) "grouping" = some (.ref l) := by
    show (if ("grouping" : Str) = "last_interval" then _ else m "grouping") = _
    rw [if_neg (by decide)]; exact hm
  have hml : (fun y : Str => if y = "last_interval" then some Value.none else m y) "last_interval" = some .none := if_pos rfl
  generalize (fun y : Str => if y = "last_interval" then some Value.none else m y) = m₁ at hn₁ hmg hml
  refine seg_execs_cons (seg_For ?_ (fun _ => rfl))
  refine wpAny_Name (wpAny_loadName_local (by rw [e.scope]; rfl) (by rw [hkind]; decide +kernel) (by rw [e.loc]; exact hn₁) hmg ?_) (by decide)
  refine wpAny_pyIter_list hl₁ fun p => ?_
  have hsz : h₁.objs.size = s.heap.objs.size := hs₁.1
  generalize hit : h₁.objs.size = it at *
  have hiL : it ≠ L := by rw [hsz]; exact Nat.ne_of_gt hlt
  have hil : l ≠ it := by obtain ⟨o, q, _⟩ := hl; rw [hsz]; exact Nat.ne_of_lt (Heap.lt_size q)
  generalize hh2 : h₁.push { cls := .type "list_iterator", data := .fields #[.ref l, .int 0 0] } = h₂
  have hk2 : HLe h₁ h₂ := fun b o q => by rw [← hh2]; exact Heap.get?_push_of_some _ q
  have hi2 : h₂.IsListIter it l 0 := by rw [← hh2, ← hit]; exact ⟨_, Heap.get?_push_size _ rfl, rfl, rfl⟩
  have cn2 := cn.over2 (body := (rec 5).body) (fb := gBody) (env := env) (target := .Name "interval" ⟨11, 8, 11, 16⟩) (it := .ref it) (k := loopRet env (gK env) (gH env) id id) (g := id false) (l := id []) (p := p)
  have hfr2 : (A.over (gFor env it) [gFr env p]).frames = some (env :: outer) := by
    unfold Around.over
    dsimp only
    rw [hfr]; rfl
  refine seg_forLoop (wpAny_pyNext_list_item hi2 (let ⟨o, q, w⟩ := hl₁; ⟨o, hk2 _ _ q, w⟩) (x := .int 0 t0) (by simpa using h0) fun h₃ hi₃ hs₃ => ?_)
  replace hs₃ : Heap.SameBut it h₂ h₃ := hs₃
  refine wpAny_of_eq (rfl : letOwnedTupleGo (.Name "interval" ⟨11, 8, 11, 16⟩) (.ref it) (.int 0 t0) = pure ()) ?_
  have hn₃ : h₃.Ns L m₁ := (hn₁.keeps hk2).sameBut hs₃ (Ne.symm hiL)
  refine wpAny_assign_Name (wpAny_storeName_local (by rw [hkind]; decide +kernel) (by rw [e.loc]; exact hn₃) (fun h₄ hn₄ hs₄ => ?_) (by rw [e.scope]; rfl))
  rw [e.loc] at hn₄ hs₄
  replace hs₄ : Heap.SameBut L h₃ h₄ := hs₄
  replace hn₄ : h₄.Ns L (fun y => if y = "interval" then some (.int 0 t0) else m₁ y) := hn₄
  have hmi : (fun y : Str => if y = "interval" then some (Value.int 0 t0) else m₁ y) "interval" = some (.int (0 : Nat) t0) := if_pos rfl
  have hml4 : (fun y : Str => if y = "interval" then some (Value.int 0 t0) else m₁ y) "last_interval" = some .none := by
    show (if ("last_interval" : Str) = "interval" then _ else m₁ "last_interval") = _
    rw [if_neg (by decide)]; exact hml
  generalize (fun y : Str => if y = "interval" then some (Value.int 0 t0) else m₁ y) = m₄ at hn₄ hmi hml4
  have hk4 : ∀ b o, b ≠ L → s.heap.get? b = some o → h₄.get? b = some o := fun b o h1 q =>
    (hs₄.2 b h1).trans ((hs₃.2 b (by rw [hsz]; exact Nat.ne_of_lt (Heap.lt_size q))).trans (hk2 _ _ ((hs₁.2 b h1).trans q)))
  have hbk : ∀ h', (∀ b o, b ≠ L → s.heap.get? b = some o → h'.get? b = some o) → C.Base (hideAll h' [L]) := fun h' hk => hb.keeps fun b o q => by
    have hbn : b ∉ [L] := fun w => by rw [hideAll_none _ w] at q; cases q
    exact hideAll_get _ (hk b o (fun w => hbn (List.mem_singleton.mpr w)) (of_hideAll _ q)) hbn
  refine seg_execs_cons (seg_If (wpAny_mono (gen_run (m := m₄) (fun J => gen_t1 hc) cn2 e (hbk _ hk4) hn₄ (gR_get (e := 0) (last := none) hmi hml4 rfl)) (fun b s₅ ⟨hk₅, hg₅, ho₅, hb₅⟩ => ?_) fun _ _ q => q))
  replace hk₅ : HLe h₄ s₅.heap := hk₅
  subst hb₅
  rw [if_neg (by decide)]
  refine seg_execs_nil ?_
  refine seg_execs_cons (seg_If (wpAny_mono (gen_run (m := m₄) (fun J => gen_t2) cn2 e (hbk _ fun b o h1 q => hk₅ b o (hk4 b o h1 q)) (hn₄.keeps hk₅) (gR_get (e := 0) (last := none) hmi hml4 rfl)) (fun b s₆ ⟨hk₆, hg₆, ho₆, hb₆⟩ => ?_) fun _ _ q => q))
  subst hb₆
  rw [if_pos (by decide)]
  refine seg_execs_cons (seg_If (wpAny_mono (gen_run (m := m₄) (fun J => gen_t3 (e := 0) (last := none)) cn2 e (hbk _ fun b o h1 q => hk₆ b o (hk₅ b o (hk4 b o h1 q))) ((hn₄.keeps hk₅).keeps hk₆) (gR_get (e := 0) (last := none) hmi hml4 rfl)) (fun b s₇ ⟨hk₇, hg₇, ho₇, hb₇⟩ => ?_) fun _ _ q => q))
  subst hb₇
  rw [if_pos (by decide)]
  have hk7 : ∀ b o, b ≠ L → s.heap.get? b = some o → s₇.heap.get? b = some o := fun b o h1 q => hk₇ b o (hk₆ b o (hk₅ b o (hk4 b o h1 q)))
  have hn₇ := ((hn₄.keeps hk₅).keeps hk₆).keeps hk₇
  have B7 : C.Base s₇.heap := (hbk _ hk7).keeps fun b o q => of_hideAll _ q
  refine seg_execs_cons (seg_plain ?_)
  refine wpAny_Raise_call PySem.F.excCall_ValueError PySem.F.excRaise_ValueError cn2.hh (by rfl) ?_
  refine Name_function_global (by rw [e.scope]; rfl) (by rw [hkind]; decide +kernel) (loadGlobal_builtin (by rw [e.glob]; exact B7.g) hv.m (by rw [e.blt]; exact B7.b) hv.b ⟨rfl, ?_⟩) (by decide)
  show wpAny _ _ (evalArgs _ true [(false, eval (.Constant (.str "invalid grouping") 0 ⟨16, 33, 16, 51⟩) env)] []) _ _ _
  refine evalArgs_plain (spliced_cons (wpAny_Constant_str (spliced_nil ?_)))
  refine ⟨rfl, by rw [sizeLine_eq]; simp only [List.length_cons, List.length_nil]; omega, fun h₈ x hx => ?_⟩
  have hk8 : ∀ b o, b ≠ L → s.heap.get? b = some o → h₈.get? b = some o := fun b o h1 q => hx.keeps b o (hk7 b o h1 q)
  have hst8 : base.StaysIn h₈ := fun b o q => hk8 b o (fun w => by rw [w, hbL] at q; cases q) (hst b o q)
  have hbx : base.get? x = none := by
    cases q : base.get? x with
    | none => rfl
    | some o =>
      have := hk7 x o (fun w => by rw [w, hbL] at q; cases q) (hst x o q)
      rw [hx.new] at this; cases this
  have funK : ∀ (l : List Env), (∀ v ∈ l, v.frame ≠ some L) → s.heap.FunFrames base l → h₈.FunFrames base l := by
    intro l
    induction l with
    | nil => intro _ _; trivial
    | cons v r ih =>
      rintro hv ⟨h1, ⟨Lv, o, hf, hn', ho, hd⟩, h3⟩
      exact ⟨h1, ⟨Lv, o, hf, hn', hk8 Lv o (fun w => hv v List.mem_cons_self (by rw [hf, w])) ho, hd⟩, ih (fun v' q => hv v' (List.mem_cons_of_mem _ q)) h3⟩
  have hfun8 : h₈.FunFrames base (env :: outer) := by
    refine ⟨by rw [e.scope]; decide +kernel, ?_, funK _ hLo hfun⟩
    obtain ⟨oL, es, ep, hoL, hdL, _⟩ := hn₇
    exact ⟨L, oL, e.frame, hbL, hx.keeps _ _ hoL, fun vs q => by rw [hdL] at q; cases q⟩
  obtain ⟨tt, hxe, _, _⟩ := hx.there
  have up8 : UpBut L s.heap h₈ := fun b o hb q _ => ⟨o.slots, hk8 b o hb q⟩
  show Seg _ A _ _ _ _ (gFor env it) (noteH env (.ref x)) [gFr env p] _
  unfold noteH
  refine seg_wrap (wpAny_bind (fly_first (base := base) hfr2 e.frame hst8 hfun8 hxe hbx fun h₉ hf9 hu9 => wpAny_theTreesLotGoes ?_))
  show Seg _ A _ _ _ _ (gFor env it) (leafOf (.error (.ref x))) [gFr env p] _
  refine seg_leaf (.error (.ref x)) ?_
  show Seg _ A _ _ _ _ _ (((do
    if (← field (.ref x) 1) == Value.none then unsupported "frame.own-activation:exception-without-traceback"
    setFlight (.ref x) env.frame : Sem Unit) >>= fun _ => (.raise (.ref x) : Sem Flow)).wrap (gK env) (gH env) id id) [] _
  refine seg_bind_wrap ?_
  refine fly_back (Q' := fun y s' => Seg (model C.prog C.w) A (gErr base outer L) Y n s (.func (rec 5).body env) (gH env y) [] s') hf9 e.frame fun h₁₀ hf10 hu10 => ?_
  show Seg _ A _ _ _ _ _ (gH env (.ref x)) [] _
  unfold gH leaving
  refine seg_wrap (wpAny_bind (fly_again hf10 e.frame (fly_set (fr := none) hf10 fun h₁₁ hf11 hu11 => ?_)))
  show Seg _ A _ _ _ _ _ (leafOf (.error (.ref x))) [] _
  exact seg_end _ ⟨x, rfl, hf11.drop, hg₇.trans (hg₆.trans hg₅), ho₇.trans (ho₆.trans ho₅), ((up8.then hu9).then hu10).then hu11⟩
end
end Mine

end
section
set_option Elab.async false
set_option maxRecDepth 100000
namespace Mine
theorem sub_val_stop : isSubtype (.type "ValueError") (.type "StopIteration") = pure false := by rw [isSubtype_type]; kernel_rfl
section
variable {C : Cfg} {A : Around} {L : Addr} {s : Shared} {E : Value → Shared → Prop}
theorem gen_pull_err {a : Addr} {g : Nat} {c : Code} {Q : Option Value → Shared → Prop} {base : Heap} {outer : List Env} (hl : s.heap.NoLimit) (hroom : A.depth < recursionLimit) (hg : s.heap.IsGen a g) (hgs : s.gens[g]? = some (.fresh c))
    (hseg : Seg (model C.prog C.w) A.in1 (gErr base outer L) (fun _ _ _ _ _ => False) 1 (s.setGen g .running) c ((model C.prog C.w).den c) [] (s.setGen g .running)) (hab : base.get? a = s.heap.get? a)
    (hE : ∀ (e : Addr) (s₁ : Shared), Fly base outer e .none s₁.heap → s₁.gens = (s.setGen g .running).gens → s₁.os = s.os → UpBut L s.heap s₁.heap → E (.ref e) (s₁.setGen g .finished)) :
    wpAny (model C.prog C.w) A (pyNext (.ref a)) Q E s := by
  unfold pyNext
  refine wpAny_bind (wpAny_attempt (wpAny_callSpecial?_slot (name := Str.ofString "__next__") hg.typeIs slot_gen_next
    (wpAny_call_entry slot_gen_next hg.typeIs entry_gen_next ?_ (args_gen_next _))))
  show wpAny _ A.in1 (Builtin.Generator.genWake (.ref a) (.send .none)) _ _ s
  unfold Builtin.Generator.genWake
  refine wpAny_bind (wpAny_holding (wpAny_genNumber hg (wpAny_bind (wpAny_genState hgs ?_))))
  refine wpAny_bind (wpAny_roomToWake hl hroom ?_)
  show wpAny _ A.in1 (.resume g (.send .none) [] _) _ _ s
  refine wpAny_resumeQ hgs ⟨rfl, hseg⟩ (fun x s₁ hx => ?_) (fun v s₁ gs' _ hv => hv.elim)
  obtain ⟨e, rfl, hf, h1, h2, h3⟩ := hx
  show wpAny _ A.in1 (Builtin.Generator.genLeft (.ref a) (.ref e)) _ _ _
  have hga : (s₁.setGen g .finished).heap.IsGen a g := by
    obtain ⟨o, nm, qn, ho, r⟩ := hg
    exact ⟨o, nm, qn, hf.1 _ _ (hab.trans ho), r⟩
  have hty : (s₁.setGen g .finished).TypeIs (.ref e) "ValueError" := hf.isErr (s := s₁.setGen g .finished)
  unfold Builtin.Generator.genLeft
  obtain ⟨o, nm, qn, ho, hc, hd, hs⟩ := hga
  refine wpAny_bind (m := Builtin.Generator.madeByALambda (.ref a)) ?_
  unfold Builtin.Generator.madeByALambda
  refine wpAny_bind (wpAny_load ho (wpAny_pure ?_))
  rw [hc, hd]
  refine wpAny_bind (wpAny_isInstance (T := "ValueError") (b := false) hty sub_val_stop ?_)
  rw [if_neg (by simp)]
  unfold Builtin.Generator.genEscaped
  refine wpAny_bind (wpAny_isInstance (T := "ValueError") (b := false) hty sub_val_stop ?_)
  dsimp only
  rw [if_pos (show (!false) = true from rfl)]
  refine wpAny_bind (wpAny_throw ?_)
  refine wpAny_bind (wpAny_isInstance (T := "ValueError") (b := false) hty sub_val_stop ?_)
  rw [if_neg Bool.false_ne_true]
  exact wpAny_throw (hE e s₁ hf h1 h2 h3)
end
end Mine

end
section
set_option Elab.async false
set_option maxRecDepth 100000
namespace Mine
theorem fn_enter {C : Cfg} {d : Nat} {J : Js} {f : Addr} {r : FnRec} {as : List V} {mu : List Addr} {A : Around} {s : Shared} {us : List Value} {R : Result → Shared → Prop} (names : List Str) (hr : C.fn f = some r)
    (b : C.Base (hideAll s.heap mu)) (j : J s.gens s.os) (low : ∀ a ∈ mu, ∃ o, s.heap.get? a = some o) (cn : Cnd A (d + 1)) (rv : RVs (hideAll s.heap mu) as us)
    (hb : ∀ us : List Value, us.length = as.length → ∀ doc pm an cdv ct, bindArgs (fnOf r.name r.name r.params r.body r.scope .none .none doc pm an cdv ct) ⟨us, []⟩ = pure (names.zip us))
    (hn : names.Nodup) (hloc : ∀ x ∈ names, r.scope.names.lookup x = some .local) (hfree : ∀ p ∈ r.scope.names, p.2 ≠ .free)
    (body : ∀ (c : Cx) (s₁ : Shared) (E : Value → Shared → Prop), c.J = J → c.Ok r.scope → c.own = true → C.Base (c.vis c.h₀) → Cnd (A.deeper c.env) d → St c (names.zip (as.map Slot.val)) s₁ → c.h₀ = s.heap → (c.mu = c.ow ++ mu ∧ ∀ a ∈ c.ow, s.heap.get? a = none) →
      c.env.frame = some c.env.locals → s₁.gens = s.gens → s₁.os = s.os → HLe s.heap s₁.heap → HLe (hideAll s.heap mu) (c.vis s₁.heap) → wpAny (model C.prog C.w) (A.deeper c.env) (execs r.body c.env) (fun fl s' => R (.ok (.ret (match fl with | .ret v => v | _ => .none))) s') E s₁)
    (hco : r.scope.isCoroutine = false := by rfl) (hgen : r.scope.isGenerator = false := by rfl) (hk : r.scope.kind = .function := by rfl) : codeAny (model C.prog C.w) A (.call (.ref f) ⟨us, []⟩) R s := by
  obtain ⟨o, doc, pm, an, cdv, ct, ho, hd, hcd⟩ := b.fns f r hr
  have ho' := of_hideAll _ ho
  have hlen := rv.len
  have hbase : C.Base s.heap := b.keeps fun _ _ e => of_hideAll _ e
  refine (codeAny_call_cells (fd := fnOf r.name r.name r.params r.body r.scope .none .none doc pm an cdv ct) (body := r.body) (binds := names.zip us) cn.lim ho' hd hbase.lim (hcd.keeps fun _ _ e => of_hideAll _ e) rfl (hb us hlen doc pm an cdv ct) rfl
    (fun x hx => .inl (hloc x.1 (List.of_mem_zip hx).1)) (fun s₁ X => ?_) hco hgen hk)
  generalize hL : s.heap.objs.size = L at X ⊢
  generalize hfd : fnOf r.name r.name r.params r.body r.scope .none .none doc pm an cdv ct = fd at X ⊢
  have hsc : fd.scope = r.scope := by rw [← hfd]
  -- the new frame
  let env := callEnvC fd L f
  have henv : env.scope = r.scope := by rw [← hsc]; rfl
  have hcells : ∀ x, r.scope.names.lookup x = some .cell → ∃ a, env.cells.lookup x = some a := by
    intro x hx
    have := cellsFrom_some r.scope.names (L + 1) [] x (.inl (mem_of_lookup hx))
    rw [← hsc] at this
    exact Option.isSome_iff_exists.mp this
  let ow := env.locals :: r.scope.names.filterMap (fun p => env.cells.lookup p.1)
  let c : Cx := { J := J, h₀ := s.heap, ow := ow, mu := ow ++ mu, env := env, own := true }
  have hfresh : ∀ a ∈ ow, L ≤ a := by
    intro a ha
    rcases List.mem_cons.mp ha with e | ha
    · rw [e]; exact Nat.le_refl L
    · obtain ⟨p, hp, e⟩ := List.mem_filterMap.mp ha
      have := X.above p.1 a (mem_of_lookup e)
      exact Nat.le_of_lt (show L < a from this)
  have hoff : ∀ a ∈ ow, s.heap.get? a = none := by
    intro a ha
    cases q' : s.heap.get? a with
    | none => rfl
    | some o' => have h8 := Heap.lt_size q'; have h9 := hfresh a ha; rw [hL] at h8; exact absurd h8 (Nat.not_lt.mpr h9)
  have ok : c.Ok r.scope := ⟨henv, hk, by show fd.globals = _; rw [← hfd], by show fd.builtins = _; rw [← hfd], List.mem_cons_self, fun a ha => List.mem_append_left _ ha, hoff,
    fun x hx => by
      obtain ⟨a, ea⟩ := hcells x hx
      exact ⟨a, ea, .inl (List.mem_cons_of_mem _ (List.mem_filterMap.mpr ⟨(x, .cell), mem_of_lookup hx, ea⟩))⟩,
    fun _ x y a _ _ e1 e2 => name_of_addr X.apart (mem_of_lookup e1) (mem_of_lookup e2),
    fun x hx => absurd rfl (hfree _ (mem_of_lookup hx))⟩
  have hkeep : HLe s.heap s₁.heap := X.toInCall.keep
  obtain ⟨h₁, tk, es⟩ := X.toInCall.same
  have hgens : s₁.gens = s.gens := by rw [es]
  have hos : s₁.os = s.os := by rw [es]
  have hvis : HLe (hideAll s.heap mu) (c.vis s₁.heap) := fun a o e => hideAll_get _ (hkeep _ _ (of_hideAll _ e)) fun q' => by
    rcases List.mem_append.mp q' with q' | q'
    · have := hoff a q'; rw [of_hideAll _ e] at this; cases this
    · rw [hideAll_none _ q'] at e; cases e
  have hm : bindL env.kindOf (names.zip us) (fun _ => none) = fun y => (names.zip us).reverse.lookup y := by
    rw [bindL_all _ _ fun p hp => by
      show env.scope.names.lookup p.1 = _
      rw [henv]; exact hloc p.1 (List.of_mem_zip hp).1]
    funext y; simp
  have hns : s₁.heap.Ns env.locals (fun y => (names.zip us).reverse.lookup y) := by rw [← hm]; exact X.toInCall.ns
  have x : St c (names.zip (as.map Slot.val)) s₁ := by
    refine ⟨by show J _ _; rw [hgens, hos]; exact j, hkeep, ⟨_, hns⟩, fun y a _ e => ⟨_, X.cell y a e⟩, fun y sl e => ?_, fun y z xs ys a e => ?_, fun a ha => ?_⟩
    · obtain ⟨u, v', e1, e2, e3, e4⟩ := zip_lookup rv hn e
      subst e1
      exact ⟨u, .inl ⟨by show env.scope.names.lookup y = _; rw [henv]; exact hloc y e4, _, hns, e2⟩, RV.mono hvis e3⟩
    · obtain ⟨u, v', e1, _⟩ := zip_lookup rv hn e
      cases e1
    · rcases List.mem_append.mp ha with ha | ha
      · rcases List.mem_cons.mp ha with e | ha
        · obtain ⟨o, _, _, e', _⟩ := hns
          exact ⟨o, e ▸ e'⟩
        · obtain ⟨p, hp, e⟩ := List.mem_filterMap.mp ha
          obtain ⟨o, e, _⟩ := X.cell _ _ e
          exact ⟨o, e⟩
      · obtain ⟨o, e⟩ := low a ha
        exact ⟨o, hkeep _ _ e⟩
  have hb₀ : C.Base (c.vis c.h₀) := b.keeps fun a o e => hideAll_get _ (of_hideAll _ e) fun q' => by
    rcases List.mem_append.mp q' with q' | q'
    · have := hoff a q'; rw [of_hideAll _ e] at this; cases this
    · rw [hideAll_none _ q'] at e; cases e
  exact body c s₁ _ rfl ok rfl hb₀ cn.deeper x rfl ⟨rfl, hoff⟩ rfl hgens hos hkeep hvis
end Mine

end
section
set_option Elab.async false
set_option maxRecDepth 100000

namespace Mine
theorem val_isExc : isSubtype (.type "ValueError") (.type "BaseException") = pure true := by rw [isSubtype_type]; kernel_rfl
theorem val_noTup : isSubtype (.type ((Manifest.find? "ValueError").elim "type" fun x => x.metatype)) (.type "tuple") = pure false := by
  rw [show ((Manifest.find? "ValueError").elim "type" fun x => x.metatype) = "type" by decide +kernel]; rw [isSubtype_type]; kernel_rfl
theorem val_val : isSubtype (.type "ValueError") (.type "ValueError") = pure true := by rw [isSubtype_type]; kernel_rfl
section
variable {C : Cfg} {d : Nat} {J : Js}
theorem cut_err (hJG : JGen J) {f g : Addr} {tc : Tok} (hf : Def C 5 "_grouping_intervals" f) (hg : Def C 28 "_law_cut" g) (hc : C.mg "CHAR_MAX" = some (.int 127 tc)) (hv : Blt C "ValueError" (.type "ValueError")) {figs row : List Nat} {mu : List Addr} {A : Around} {s : Shared} {us : List Value}
    {envL : Env} {Ll : Addr} {oL : Obj} {Q E : Value → Shared → Prop} (b : C.Base (hideAll s.heap mu)) (j : J s.gens s.os) (low : ∀ a ∈ mu, ∃ o, s.heap.get? a = some o) (cn : Cnd A (d + 5)) (rv : RVs (hideAll s.heap mu) [.str figs, .list ((0 :: row).map fun e : Nat => V.int e)] us)
    (hfr : A.frames = some [envL]) (hfL : envL.frame = some Ll) (hkL : envL.scope.kind ≠ .module) (hLm : Ll ∈ mu) (hoL : s.heap.get? Ll = some oL) (hnf : ∀ vs, oL.data ≠ .fields vs)
    (q : ∀ s' : Shared, (∀ b o, b ≠ Ll → s.heap.get? b = some o → s'.heap.get? b = some o) → (∃ sl, s'.heap.get? Ll = some { oL with slots := sl }) → J s'.gens s'.os → Q .none s') :
    wpAny (model C.prog C.w) A (call (.ref g) us) Q E s := by
  refine wpAny_call (fn_enter (J := J) (d := d + 4) ["figures", "row"] hg.r b j low cn rv (fun us hu => by
    obtain ⟨u1, u2, rfl⟩ := len2 hu
    intro doc pm an cdv ct; rfl) (by decide +kernel) (by decide +kernel) (by decide +kernel) (fun c s₁ E' eJ ok hown bs cnd x hh0 hmu hfrm hg1 ho1 hle hvis => ?_) (by decide +kernel) (by decide +kernel) (by decide +kernel))
  have h1 : Ex1 C (d + 4) J (rec 28).scope [("figures", .val (.str figs)), ("row", .val (.list ((0 :: row).map fun e : Nat => V.int e)))] (nth (rec 28).body 0) (.next [("figures", .val (.str figs)), ("row", .val (.list ((0 :: row).map fun e : Nat => V.int e))), ("groups", .val (.list []))]) :=
    st_set (by walk_at "m:ev") (by walk_at "m:put") (by walk_at "m:loc") (by walk_at "m:noapp")
  have h2 : Ex1 C (d + 4) J (rec 28).scope [("figures", .val (.str figs)), ("row", .val (.list ((0 :: row).map fun e : Nat => V.int e))), ("groups", .val (.list []))] (nth (rec 28).body 1) (.next [("figures", .val (.str figs)), ("row", .val (.list ((0 :: row).map fun e : Nat => V.int e))), ("groups", .val (.list [])), ("rest", .val (.str figs))]) :=
    st_set (by walk_at "m:ev") (by walk_at "m:put") (by walk_at "m:loc") (by walk_at "m:noapp")
  have hfrA : (A.deeper c.env).frames = some [c.env, envL] := Around.frames_deeper hfr
  generalize A.deeper c.env = A' at cnd hfrA
  refine wpAny_execs_cons (h1 c A' s₁ _ E' eJ ⟨ok, hown⟩ bs cnd x fun c1 s₂ g1 x₂ => ?_)
  have e1 : c1.env = c.env ∧ c1.J = J ∧ c1.own = true ∧ c1.h₀ = c.h₀ := by obtain ⟨⟨n, _, e⟩, _⟩ := g1; subst e; exact ⟨rfl, eJ, hown, rfl⟩
  rw [← e1.1]
  rw [← e1.1] at hfrA hfrm
  refine wpAny_execs_cons (h2 c1 A' s₂ _ E' e1.2.1 ⟨g1.ok, e1.2.2.1⟩ (g1.base bs) cnd x₂ fun c2 s₃ g2 x₃ => ?_)
  replace x₃ : St c2 (cutR figs (0 :: row) (figs, [])) s₃ := x₃
  have e2 : c2.env = c1.env ∧ c2.J = J ∧ c2.own = true ∧ c2.h₀ = c.h₀ := by obtain ⟨⟨n, _, e⟩, _⟩ := g2; subst e; exact ⟨rfl, e1.2.1, e1.2.2.1, e1.2.2.2⟩
  rw [← e2.1]
  rw [← e2.1] at hfrA hfrm
  have hgr := g1.trans g2
  have ok2 := g2.ok
  have bs2 : C.Base (c2.vis c2.h₀) := g2.base (g1.base bs)
  have hh2 : c2.h₀ = s.heap := e2.2.2.2.trans hh0
  have eJ2 := e2.2.1
  have hlc2 : c2.env.frame = some c2.env.locals := by
    have e3 : c2.env = c.env := e2.1.trans e1.1
    rw [e3]; rw [e3] at hfrm; exact hfrm
  clear  h1 h2 x₂ e1 e2 g1 g2 hgr x
  refine wpAny_execs_cons (wpAny_Try_except (wpAny_execs_cons ?_))
  refine wpAny_For ?_ (fun _ => rfl)
  refine wpAny_Call_Name_kw (wpAny_mono ((ev_glob (d := d + 4) (J := J) (T := (rec 28).scope) (ρ := cutR figs (0 :: row) (figs, [])) (by decide +kernel) hf.g (by decide +kernel)).use eJ2 ok2 bs2 cnd x₃) (fun u s₄ ⟨x₄, p₄, r₄⟩ => ?_) fun _ _ e => e)
  have r₄ : u = .ref f := r₄
  subst r₄
  obtain ⟨of, doc, pm, an, cdv, ct, hof, hdf, _⟩ := ((bs2.now x₄.keep).fns f _ hf.r)
  refine callWith_function (o := of) (fd := fnOf (rec 5).name (rec 5).name (rec 5).params (rec 5).body (rec 5).scope .none .none doc pm an cdv ct) (evalArgs_plain ?_)
  have hargs : EvA C (d + 4) J (rec 28).scope (cutR figs (0 :: row) (figs, [])) ⟨209, 20, 209, 44⟩ [.Name "row" ⟨209, 40, 209, 43⟩] [.list ((0 :: row).map fun e : Nat => V.int e)] :=
    eva_cons (ev_loc (At.there At.here (by decide +kernel)) (by decide +kernel)) eva_nil
  refine wpAny_mono (hargs.use eJ2 ok2 bs2 cnd x₄) (fun us₀ s₅ ⟨x₅, p₅, r₅⟩ => ⟨⟨p₅.le _ _ hof, hdf⟩, ?_⟩) fun _ _ e => e
  obtain ⟨ul, rfl, l, ws, rfl, pl, rs⟩ := rvs1 r₅
  have h0 : ∃ t0, ws[0]? = some (.int 0 t0) := by
    obtain ⟨w, hw, t, rfl⟩ := rs.get 0 (.int (0 : Nat)) (by simp)
    exact ⟨t, hw⟩
  obtain ⟨t0, h0⟩ := h0
  have il := isList_of pl
  obtain ⟨ol, hlo, _⟩ := id il
  have hll : l < s₅.heap.objs.size := Heap.lt_size hlo
  have hb5 : C.Base s₅.heap := bs2.now x₅.keep
  refine gen_make cnd hf.r hb5 fun env a h₆ tk₆ eB hm hga hk₆ hLa haz => ?_
  refine wpAny_pyIter_gen hga ?_
  generalize hLe : s₅.heap.objs.size = L at eB hm hLa hll
  obtain ⟨mg, hnL, hmg⟩ := hm
  have hfresh : ∀ b o, s₅.heap.get? b = some o → b ≠ L ∧ b ≠ a := fun b o e => ⟨fun w => by rw [w, ← hLe] at e; exact Nat.lt_irrefl _ (Heap.lt_size e), fun w => by
    have := Heap.lt_size e; rw [w, hLe] at this; exact Nat.lt_irrefl _ (Nat.lt_trans this hLa)⟩
  -- the frames
  have hLl5 : s₅.heap.get? Ll = some oL := x₅.keep _ _ (by rw [hh2]; exact hoL)
  obtain ⟨mc, oc, esc, epc, hoc, hdc, _⟩ := x₅.ns
  have hLc0 : s.heap.get? c2.env.locals = none := by rw [← hh2]; exact ok2.off _ ok2.loc
  have hall : ∀ b o, s.heap.get? b = some o → h₆.get? b = some o ∧ b ≠ L ∧ b ≠ c2.env.locals := fun b o e => by
    have e5 := x₅.keep b o (by rw [hh2]; exact e)
    exact ⟨hk₆ _ _ e5, (hfresh b o e5).1, fun w => by rw [w, hLc0] at e; cases e⟩
  let W : List Addr := [L, c2.env.locals, Ll]
  have hbase : ∀ b o, (hideAll h₆ W).get? b = some o → h₆.get? b = some o := fun b o e => of_hideAll _ e
  have ja : J s₅.gens s₅.os := by rw [← eJ2]; exact x₅.j
  let s₆ : Shared := { s₅ with gens := s₅.gens.push (.fresh (.func (rec 5).body env)), heap := h₆, toks := tk₆ }
  show codeAny (model C.prog C.w) A' (.forLoop (.Name "size" ⟨209, 12, 209, 16⟩) (.ref a) (bodyOf cutFor) [] c2.env) _ s₆
  have hgs6 : s₆.gens[s₅.gens.size]? = some (.fresh (.func (rec 5).body env)) := by show (s₅.gens.push _)[s₅.gens.size]? = _; simp
  have bL : C.Base (hideAll h₆ [L]) := bs2.keeps fun b o e => by
    have e5 := x₅.keep _ _ (of_hideAll _ e)
    exact hideAll_get _ (hk₆ _ _ e5) fun w => (hfresh b o e5).1 (List.mem_singleton.mp w)
  refine codeAny_forLoop_any (fun _ s' => s' = s₆) ?_ 0 rfl
  rintro n s' rfl
  refine gen_pull_err (C := C) (L := L) (base := hideAll h₆ W) (outer := [c2.env, envL]) (bs2.now (x₅.keep.trans hk₆)).lim cnd.lim hga hgs6 ?_ ?_ (fun e s₇ hf7 hg7 ho7 hu7 => ?_)
  · refine gen_raise (d := d + 2) (s := s₆.setGen s₅.gens.size .running) cnd.in1 eB (Nat.ne_of_lt hll) hc hv h0 hnL hmg (let ⟨o, q, w⟩ := il; ⟨o, hk₆ _ _ q, w⟩) bL hfrA hbase (hideAll_none _ (by simp [W])) ?_ (fun v hv q => ?_)
    · refine ⟨by rw [ok2.scope]; decide +kernel, ⟨c2.env.locals, oc, hlc2, hideAll_none _ (by simp [W]), hk₆ _ _ hoc, fun vs q => by rw [hdc] at q; cases q⟩, hkL, ⟨Ll, oL, hfL, hideAll_none _ (by simp [W]), hk₆ _ _ hLl5, hnf⟩, trivial⟩
    · rcases List.mem_cons.mp hv with w | w
      · rw [w, hlc2] at q
        exact (hfresh _ _ hoc).1 (Option.some.inj q)
      · rw [List.mem_singleton.mp w, hfL] at q
        exact (hfresh _ _ hLl5).1 (Option.some.inj q)
  · obtain ⟨oa, nm, qn, hoa, _⟩ := hga
    show (hideAll h₆ W).get? a = h₆.get? a
    rw [hoa]
    refine hideAll_get _ hoa fun w => ?_
    rcases List.mem_cons.mp w with w | w
    · exact Nat.ne_of_gt hLa w
    · rcases List.mem_cons.mp w with w | w
      · exact (hfresh _ _ hoc).2 w.symm
      · exact (hfresh _ _ hLl5).2 (List.mem_singleton.mp w).symm
  -- the error is on its way
  show wpAny _ A' (noteFrame (.ref e) c2.env) _ _ (s₇.setGen s₅.gens.size .finished)
  refine fly_on (s := s₇.setGen s₅.gens.size .finished) hfrA hlc2 hf7 fun h₈ hf8 hu8 => ?_
  refine fly_back hf8 hlc2 fun h₉ hf9 hu9 => ?_
  refine fly_again hf9 hlc2 (fly_set (fr := none) hf9 fun h₁₀ hf10 hu10 => ?_)
  have hst : ∀ b o, b ≠ Ll → s.heap.get? b = some o → (hideAll h₆ W).get? b = some o := fun b o hb q => by
    obtain ⟨q1, q2, q3⟩ := hall b o q
    refine hideAll_get _ q1 fun w => ?_
    rcases List.mem_cons.mp w with w | w
    · exact q2 w
    · rcases List.mem_cons.mp w with w | w
      · exact q3 w
      · exact hb (List.mem_singleton.mp w)
  refine wpAny_handleBy_builtin (X := "ValueError") (T := "ValueError") (b := true) val_isExc val_noTup val_val ?_
  have hB10 : C.Base h₁₀ := b.keeps fun b' o q' => by
    have hbm : b' ∉ mu := fun w => by rw [hideAll_none _ w] at q'; cases q'
    exact hf10.1 _ _ (hst b' o (fun w => hbm (w ▸ hLm)) (of_hideAll _ q'))
  refine Name_function_global (by rw [ok2.scope]; decide +kernel) (by show c2.env.scope.names.lookup _ = _; rw [ok2.scope]; decide +kernel) (loadGlobal_builtin (by rw [ok2.glob]; exact hB10.g) hv.m (by rw [ok2.blt]; exact hB10.b) hv.b ⟨rfl, Fly.isErr (s := { s₇.setGen s₅.gens.size .finished with heap := h₁₀ }) hf10, ?_⟩) (by decide)
  rw [if_pos rfl]
  refine fly_set (fr := none) hf10 fun h₁₁ hf11 hu11 => ?_
  refine wpAny_execs_cons (wpAny_Return_some (wpAny_Constant_none ?_))
  have hLl6 : h₆.get? Ll = some oL := hk₆ _ _ hLl5
  have hup : ∃ sl, h₁₁.get? Ll = some { oL with slots := sl } := by
    obtain ⟨sl7, e7⟩ := hu7 Ll oL (hfresh _ _ hLl5).1 hLl6 hnf
    obtain ⟨sl8, e8⟩ := hu8 Ll _ e7 hnf
    obtain ⟨sl9, e9⟩ := hu9 Ll _ e8 hnf
    obtain ⟨sl10, e10⟩ := hu10 Ll _ e9 hnf
    obtain ⟨sl11, e11⟩ := hu11 Ll _ e10 hnf
    exact ⟨sl11, e11⟩
  refine q _ (fun b' o hb' q' => hf11.1 _ _ (hst b' o hb' q')) hup ?_
  show J (s₇.gens.setIfInBounds s₅.gens.size .finished) s₇.os
  rw [hg7, ho7]
  exact hJG.set _ _ _ _ (hJG.set _ _ _ _ (hJG.push _ _ _ ja rfl) rfl) rfl
end
end Mine

end
section
set_option Elab.async false
set_option maxRecDepth 100000
namespace Mine
/-- the frame stands alone -/
noncomputable def FrA (A : Around) (env : Env) : Prop := A.frames = some [env] ∧ env.frame = some env.locals
/-- statements of a frame that stands alone -/
noncomputable def ExA (C : Cfg) (d : Nat) (J : Js) (T : Scope) (ρ : Rho) (sts : List Stmt) (o : Out) : Prop :=
  ∀ (c : Cx) (A : Around) (s : Shared) (Q : Flow → Shared → Prop) (E : Value → Shared → Prop), c.J = J → (c.Ok T ∧ c.own = true) → C.Base (c.vis c.h₀) → Cnd A d → FrA A c.env → St c ρ s → Fin T c Q o → wpAny (model C.prog C.w) A (execs sts c.env) Q E s
noncomputable def ExA1 (C : Cfg) (d : Nat) (J : Js) (T : Scope) (ρ : Rho) (st : Stmt) (o : Out) : Prop :=
  ∀ (c : Cx) (A : Around) (s : Shared) (Q : Flow → Shared → Prop) (E : Value → Shared → Prop), c.J = J → (c.Ok T ∧ c.own = true) → C.Base (c.vis c.h₀) → Cnd A d → FrA A c.env → St c ρ s → Fin T c Q o → wpAny (model C.prog C.w) A (exec st c.env) Q E s
section
variable {C : Cfg} {d : Nat} {J : Js} {T : Scope} {ρ : Rho}
theorem Ex.toA {sts : List Stmt} {o : Out} (h : Ex C d J T ρ sts o) : ExA C d J T ρ sts o := fun c A s Q E hJ k b cn _ x f => h c A s Q E hJ k b cn x f
theorem Ex1.toA {st : Stmt} {o : Out} (h : Ex1 C d J T ρ st o) : ExA1 C d J T ρ st o := fun c A s Q E hJ k b cn _ x f => h c A s Q E hJ k b cn x f
theorem exA_cons {st : Stmt} {rest : List Stmt} {ρ₁ : Rho} {o : Out} (h₁ : ExA1 C d J T ρ st (.next ρ₁)) (h₂ : ExA C d J T ρ₁ rest o) : ExA C d J T ρ (st :: rest) o :=
  fun c A s Q E hJ k b cn hF x f => wpAny_execs_cons (h₁ c A s _ E hJ k b cn hF x fun c' s' g x' => by
    have e : c'.env = c.env := by obtain ⟨⟨n, _, e⟩, _⟩ := g; subst e; rfl
    have e' : c'.J = J := by obtain ⟨⟨n, _, e⟩, _⟩ := g; subst e; exact hJ
    have e2 : c'.own = true := by obtain ⟨⟨n, _, e⟩, _⟩ := g; subst e; exact k.2
    rw [← e]
    exact h₂ c' A s' Q E e' ⟨g.ok, e2⟩ (g.base b) cn (by rw [e]; exact hF) x' (f.grow g))
theorem ExA.less1 {ρ' : Rho} {st : Stmt} {o : Out} (h : ExA1 C d J T ρ' st o) (hs : Sub ρ ρ') : ExA1 C d J T ρ st o := fun c A s Q E hJ k b cn hF x f => h c A s Q E hJ k b cn hF (x.less hs) f

inductive WLoopA (C : Cfg) (d : Nat) (J : Js) (T : Scope) (test : Expr) (body : List Stmt) : Rho → Rho → Prop where
  | done {ρ : Rho} : Tst C d J T ρ test false → WLoopA C d J T test body ρ ρ
  | step {ρ ρ' ρ'' : Rho} : Tst C d J T ρ test true → ExA C d J T ρ body (.next ρ') → WLoopA C d J T test body ρ' ρ'' → WLoopA C d J T test body ρ ρ''
theorem WLoopA.run {test : Expr} {body : List Stmt} {ρ ρ' : Rho} (h : WLoopA C d J T test body ρ ρ') :
    ∃ (ρs : Nat → Rho) (k : Nat), ρs 0 = ρ ∧ (∀ i, i < k → Tst C d J T (ρs i) test true ∧ ExA C d J T (ρs i) body (.next (ρs (i + 1)))) ∧ Tst C d J T (ρs k) test false ∧ ρs k = ρ' := by
  induction h with
  | @done ρ t => exact ⟨fun _ => ρ, 0, rfl, fun i hi => absurd hi (Nat.not_lt_zero _), t, rfl⟩
  | @step ρ ρ' ρ'' t hb _ ih =>
    obtain ⟨ρs, k, h0, ht, he, hk⟩ := ih
    refine ⟨fun i => match i with | 0 => ρ | i + 1 => ρs i, k + 1, rfl, fun i hi => ?_, he, hk⟩
    cases i with
    | zero => show Tst C d J T ρ test true ∧ ExA C d J T ρ body (.next (ρs 0)); rw [h0]; exact ⟨t, hb⟩
    | succ i => exact ht i (Nat.lt_of_succ_lt_succ hi)
theorem stA_while {test : Expr} {body : List Stmt} {pos : Pos} {ρ' : Rho} (h : WLoopA C d J T test body ρ ρ') : ExA1 C d J T ρ (.While test body [] pos) (.next ρ') := by
  obtain ⟨ρs, k, h0, turn, te, hk⟩ := h.run
  subst hk
  exact fun c A s Q E hJ kk b cn hF x f => wpAny_While (by
    refine codeAny_whileLoop (fun j s' => ∃ i, i ≤ k ∧ j = k - i ∧ ∃ c', Grow T c c' ∧ St c' (ρs i) s') ?_ k ⟨0, Nat.zero_le _, rfl, c, Grow.refl kk.1, h0 ▸ x⟩
    rintro j s' ⟨i, hi, rfl, c', g, x'⟩
    have e1 : c'.env = c.env := by obtain ⟨⟨n, _, e⟩, _⟩ := g; subst e; rfl
    have e2 : c'.J = J := by obtain ⟨⟨n, _, e⟩, _⟩ := g; subst e; exact hJ
    have e3 : c'.own = true := by obtain ⟨⟨n, _, e⟩, _⟩ := g; subst e; exact kk.2
    rw [← e1]
    by_cases hik : i < k
    · obtain ⟨t, hb⟩ := turn i hik
      refine wpAny_mono (t.use e2 g.ok (g.base b) cn x') (fun r s₁ ⟨x₁, p₁, r₁⟩ => ?_) fun _ _ e => e
      subst r₁
      exact hb c' A s₁ _ _ e2 ⟨g.ok, e3⟩ (g.base b) cn (by rw [e1]; exact hF) x₁ fun c'' s₂ g' x₂ => ⟨k - (i + 1), by omega, i + 1, hik, rfl, c'', g.trans g', x₂⟩
    · have : i = k := by omega
      subst this
      refine wpAny_mono (te.use e2 g.ok (g.base b) cn x') (fun r s₁ ⟨x₁, p₁, r₁⟩ => ?_) fun _ _ e => e
      subst r₁
      exact wpAny_execs_nil (f c' s₁ g x₁))
end
section
variable {C : Cfg} {d : Nat} {J : Js} {T : Scope}
theorem for_coreA {c : Cx} {A : Around} {s₁ s₂ : Shared} {Q : Flow → Shared → Prop} {E : Value → Shared → Prop} {I : Addr} {fp : List Addr} {n : Nat} {P : Nat → Value → Prop} {Stt : Nat → Heap → Prop} {vs : Nat → V} {y : Str} {p : Pos} {body : List Stmt} {o : Out}
    (ρs : Nat → Rho) (k : Nat) (W : Walks C.prog C.w A I fp [I] n P Stt)
    (hF : FrA A c.env) (hJ : c.J = J) (ok : c.Ok T) (hown : c.own = true) (bs : C.Base (c.vis c.h₀)) (cn : Cnd A d) (x : St c (ρs 0) s₁) (hI : I = s₁.heap.objs.size) (hle : HLe s₁.heap s₂.heap) (hg : s₂.gens = s₁.gens) (ho : s₂.os = s₁.os) (hlive : ∃ o, s₂.heap.get? I = some o)
    (hfp : ∀ b ∈ fp, b = I ∨ (b ∉ c.ow ∧ ∃ o, s₁.heap.get? b = some o)) (hst : Stt 0 s₂.heap) (hP : ∀ i v, P i v → RV (c.vis s₁.heap) (vs i) v) (hnl : ∀ i h us, Stt i h → ¬ h.PlainList I us) (hlv : ∀ i h, Stt i h → ∃ o, h.get? I = some o)
    (hy : T.names.lookup y = some .local ∨ T.names.lookup y = some .cell) (hna : ∀ i, i ≤ k → noApp (ρs i) y = true) (hk : k ≤ n)
    (turn : ∀ i, i < k → ExA C d J T (put (ρs i) y (.val (vs i))) body (.next (ρs (i + 1))))
    (ends : Ends C d J T body y (ρs k) (if k < n then some (vs k) else none) o) (f : Fin T c Q o) :
    codeAny (model C.prog C.w) A (.forLoop (.Name y p) (.ref I) body [] c.env) (fun r s' => match r with | .ok f => Q f s' | .error e => cameBackBy (model C.prog C.w) A c.env E e s') s₂ := by
  have hIn : I ∉ c.mu := hI ▸ x.new_vis
  -- the frame in the loop: I is hidden
  let cI := c.hid I
  have okI : cI.Ok T := ok.hid I
  have hv0 : HLe (c.vis s₁.heap) (cI.vis s₂.heap) := fun b ob e => hideAll_get _ (hle _ _ (of_hideAll _ e)) fun q => by
    rcases List.mem_cons.mp q with q | q
    · have := Heap.lt_size (of_hideAll _ e); rw [q, hI] at this; exact Nat.lt_irrefl _ this
    · rw [show c.vis s₁.heap = hideAll s₁.heap c.mu from rfl, hideAll_none _ q] at e; cases e
  have xI : St cI (ρs 0) s₂ := x.re hv0 rfl rfl hle (by show c.J _ _; rw [hg, ho]; exact x.j) (x.keep.trans hle) fun a ha => by
    rcases List.mem_cons.mp ha with e | ha
    · rw [e]; exact hlive
    · obtain ⟨ob, e⟩ := x.low a ha; exact ⟨ob, hle _ _ e⟩
  have bsI : C.Base (cI.vis cI.h₀) := bs.keeps fun b ob e => hideAll_get _ (of_hideAll _ e) fun q => by
    rcases List.mem_cons.mp q with q | q
    · have h1 := hle _ _ (x.keep _ _ (of_hideAll _ e))
      have h2 := Heap.lt_size (x.keep _ _ (of_hideAll _ e)); rw [q, hI] at h2; exact Nat.lt_irrefl _ h2
    · rw [show c.vis c.h₀ = hideAll c.h₀ c.mu from rfl, hideAll_none _ q] at e; cases e
  -- out of the loop again
  have out : ∀ c' ρ s', Grow T cI c' → St c' ρ s' → ∃ c'', Grow T c c'' ∧ St c'' ρ s' := by
    rintro c' ρ s' ⟨⟨m, hm, e⟩, ok'⟩ x'
    subst e
    refine ⟨{ c with ow := m ++ c.ow, mu := m ++ c.mu }, ⟨⟨m, fun a ha q => hm a ha (List.mem_cons_of_mem _ q), rfl⟩, { scope := ok'.scope, kind := ok'.kind, glob := ok'.glob, blt := ok'.blt, loc := ok'.loc, sub := fun a ha => ?_, off := ok'.off, cell := fun y hy => let ⟨a, e, h⟩ := ok'.cell y hy; ⟨a, e, h.elim .inl fun q => by have q1 : c.own = false := q.1; rw [hown] at q1; cases q1⟩, inj := ok'.inj, free := ok.free }⟩, x'.re ?_ rfl rfl (HLe.refl _) x'.j x'.keep fun a ha => x'.low a ?_⟩
    · rcases List.mem_append.mp ha with ha | ha
      · exact List.mem_append_left _ ha
      · exact List.mem_append_right _ (ok.sub a ha)
    · refine hide_more fun b hb => ?_
      rcases List.mem_append.mp hb with hb | hb
      · exact List.mem_append_left _ hb
      · exact List.mem_append_right _ (List.mem_cons_of_mem _ hb)
    · rcases List.mem_append.mp ha with ha | ha
      · exact List.mem_append_left _ ha
      · exact List.mem_append_right _ (List.mem_cons_of_mem _ ha)
  have out0 : ∀ c', Grow T cI c' → ∃ c'', Grow T c c'' ∧ c''.ow = c'.ow ∧ c''.env = c'.env ∧ c''.J = c'.J ∧ c''.h₀ = c'.h₀ ∧ ∀ a ∈ c''.mu, a ∈ c'.ow ∨ a ∈ c.mu := by
    rintro c' ⟨⟨m, hm, e⟩, ok'⟩
    subst e
    refine ⟨{ c with ow := m ++ c.ow, mu := m ++ c.mu }, ⟨⟨m, fun a ha q => hm a ha (List.mem_cons_of_mem _ q), rfl⟩, { scope := ok'.scope, kind := ok'.kind, glob := ok'.glob, blt := ok'.blt, loc := ok'.loc, sub := fun a ha => ?_, off := ok'.off, cell := fun y hy => let ⟨a, e, h⟩ := ok'.cell y hy; ⟨a, e, h.elim .inl fun q => by have q1 : c.own = false := q.1; rw [hown] at q1; cases q1⟩, inj := ok'.inj, free := ok.free }⟩, rfl, rfl, rfl, rfl, fun a ha => ?_⟩
    · rcases List.mem_append.mp ha with ha | ha
      · exact List.mem_append_left _ ha
      · exact List.mem_append_right _ (ok.sub a ha)
    · rcases List.mem_append.mp ha with ha | ha
      · exact .inl (List.mem_append_left _ ha)
      · exact .inr ha
  let Inv : Nat → Shared → Prop := fun i s' => ∃ c', Grow T cI c' ∧ St c' (ρs i) s' ∧ Stt i s'.heap ∧ HLe (cI.vis s₂.heap) (c'.vis s'.heap) ∧ ∀ b ∈ fp, b ∉ c'.ow ∧ ∃ ob, s'.heap.get? b = some ob
  refine codeAny_forLoop (fun j s' => ∃ i, i ≤ k ∧ j = k + 1 - i ∧ Inv i s') ?_ (k + 1) ⟨0, Nat.zero_le _, rfl, cI, Grow.refl okI, xI, hst, HLe.refl _, fun b hb => ?_⟩
  · rintro j s' ⟨i, hik, rfl, c', g, x', st', hv, hb⟩
    have e1 : c'.env = c.env := by obtain ⟨⟨m, _, e⟩, _⟩ := g; subst e; rfl
    have eJ : c'.J = J := by obtain ⟨⟨m, _, e⟩, _⟩ := g; subst e; exact hJ
    have eown : c'.own = true := by obtain ⟨⟨m, _, e⟩, _⟩ := g; subst e; exact hown
    have eh : c'.h₀ = c.h₀ := by obtain ⟨⟨m, _, e⟩, _⟩ := g; subst e; rfl
    have hIm : I ∈ c'.mu := by obtain ⟨⟨m, _, e⟩, _⟩ := g; subst e; exact List.mem_append_right _ List.mem_cons_self
    have hIo : I ∉ c'.ow := (hb I (W.sub I (List.mem_singleton.mpr rfl))).1
    have hIb : c'.h₀.get? I = none := by
      cases q : c'.h₀.get? I with
      | none => rfl
      | some o' => rw [eh] at q; have h2 := Heap.lt_size (x.keep _ _ q); rw [hI] at h2; exact absurd h2 (Nat.lt_irrefl _)
    -- a turn, up to its body
    have step : ∀ (QQ : Flow → Shared → Prop) (EE : Value → Shared → Prop) (v : Value) (h' : Heap) (tk : Nat) (oo : Out), i < n → P i v → Stt (i + 1) h' → (∀ b ob, b ∉ [I] → s'.heap.get? b = some ob → h'.get? b = some ob) →
        ExA C d J T (put (ρs i) y (.val (vs i))) body oo → Fin T (c'.on h') QQ oo →
        wpAny (model C.prog C.w) A (assign (.Name y p) c.env v) (fun _ s₂ => wpAny (model C.prog C.w) A (execs body c.env) QQ EE s₂) EE { s' with heap := h', toks := tk } := by
      intro QQ EE v h' tk oo hin hPv st'' keep hb' ff
      have keep' : ∀ b ob, b ≠ I → s'.heap.get? b = some ob → h'.get? b = some ob := fun b ob hb e => keep b ob (fun q => hb (List.mem_singleton.mp q)) e
      have hI' : ∃ ob, h'.get? I = some ob := hlv (i + 1) h' st''
      obtain ⟨x2, hv2⟩ := x'.hop (c' := c') (tk := tk) g.ok hIm hIo hIb (fun us => hnl i _ us st') rfl rfl rfl rfl (fun _ h => h) keep' fun a ha => by
        by_cases q : a = I
        · rw [q]; exact hI'
        · obtain ⟨ob, e⟩ := x'.low a ha; exact ⟨ob, keep' a ob q e⟩
      have x3 : St (c'.on h') (ρs i) { s' with heap := h', toks := tk } := x2.on
      have okR : (c'.on h').Ok T := g.ok.on x2.keep
      have bR : C.Base ((c'.on h').vis (c'.on h').h₀) := (g.base bsI).keeps (vis_keeps (c := c') (on_le g.ok x2.keep))
      refine wpAny_assign_Name ?_
      rw [← e1]
      have rv : RV ((c'.on h').vis h') (vs i) v := RV.mono ((hv0.trans hv).trans hv2) (hP i v hPv)
      refine st_storeV (s := { s' with heap := h', toks := tk }) okR x3 (fun _ => eown) hy (hna i hik) rv fun h3 t3 x4 _ => ?_
      exact hb' (c'.on h') A _ QQ EE eJ ⟨okR, eown⟩ bR cn (by show FrA A c'.env; rw [e1]; exact hF) x4 ff
    have hoI : ∀ a ∈ c.mu, a ∈ c'.ow → a ∈ c.ow := by obtain ⟨⟨m, hm, e⟩, _⟩ := g; subst e; exact fun a ha q => (List.mem_append.mp q).resolve_left fun q => hm a q (List.mem_cons_of_mem _ ha)
    have hmI : ∀ a ∈ c.mu, a ∈ c'.mu := by obtain ⟨⟨m, _, e⟩, _⟩ := g; subst e; exact fun a ha => List.mem_append_right _ (List.mem_cons_of_mem _ ha)
    by_cases hin : i < n
    · refine W.item i s' _ _ hin st' fun v h' tk hPv st'' keep => ?_
      have keep' : ∀ b ob, b ≠ I → s'.heap.get? b = some ob → h'.get? b = some ob := fun b ob hb e => keep b ob (fun q => hb (List.mem_singleton.mp q)) e
      have hk0 : HLe c'.h₀ h' := fun b ob e => keep' b ob (fun q => by rw [q, hIb] at e; cases e) (x'.keep b ob e)
      by_cases hlt : i < k
      · refine step _ _ v h' tk _ hin hPv st'' keep (turn i hlt) fun c2 s2 g2 x2 => ?_
        refine ⟨k + 1 - (i + 1), by omega, i + 1, hlt, rfl, ?_⟩
        have hfpk : ∀ b ∈ fp, ∀ ob, h'.get? b = some ob → s2.heap.get? b = some ob := by
          intro b hb' ob e
          have h1 : (c'.on h').h₀.get? b = some ob := hideAll_get _ e (hb b hb').1
          have h2 : c2.h₀ = (c'.on h').h₀ := by obtain ⟨⟨m, _, e⟩, _⟩ := g2; subst e; rfl
          exact x2.keep b ob (by rw [h2]; exact h1)
        obtain ⟨c3, g3, e3, e3o, up⟩ := g2.off g.ok hk0
        have hlive' : ∀ b ∈ fp, ∃ ob, h'.get? b = some ob := fun b hb' => by
          by_cases q : b = I
          · rw [q]; exact hlv _ _ st''
          · obtain ⟨ob, e⟩ := (hb b hb').2; exact ⟨ob, keep' b ob q e⟩
        have hseen : ∀ b ob, b ∉ c'.ow → h'.get? b = some ob → b ∉ c3.ow ∧ s2.heap.get? b = some ob := by
          intro b ob hbo e
          have h1 : (c'.on h').h₀.get? b = some ob := hideAll_get _ e hbo
          have h2 : c2.h₀ = (c'.on h').h₀ := by obtain ⟨⟨m, _, e⟩, _⟩ := g2; subst e; rfl
          refine ⟨fun q => ?_, x2.keep b ob (by rw [h2]; exact h1)⟩
          have h3 := g2.ok.off b (e3o ▸ q)
          rw [h2, h1] at h3; cases h3
        refine ⟨c3, g.trans g3, up _ _ x2, W.frame (i + 1) h' s2.heap st'' hfpk, ?_, fun b hb' => ?_⟩
        · have hv1 : HLe (c'.vis s'.heap) (c'.vis h') := hide_le fun b ob hbm e => keep' b ob (fun q => hbm (q ▸ hIm)) e
          refine (hv.trans hv1).trans fun b ob e => ?_
          have hbm : b ∉ c'.mu := fun q => by rw [show c'.vis h' = hideAll h' c'.mu from rfl, hideAll_none _ q] at e; cases e
          obtain ⟨h1, h2⟩ := hseen b ob (fun q => hbm (g.ok.sub b q)) (of_hideAll _ e)
          refine hideAll_get _ h2 fun q => ?_
          rw [e3] at q
          obtain ⟨⟨m, _, e5⟩, _⟩ := g2
          subst e5
          rcases List.mem_append.mp q with q | q
          · exact h1 (by rw [e3o]; exact List.mem_append_left _ q)
          · exact hbm q
        · obtain ⟨ob, e⟩ := hlive' b hb'
          obtain ⟨h1, h2⟩ := hseen b ob (hb b hb').1 e
          exact ⟨h1, ob, h2⟩
      · have hik' : i = k := by omega
        subst hik'
        rw [if_pos hin] at ends
        cases ends with
        | done e => cases e
        | ret e hbody =>
          cases e
          refine step _ _ v h' tk _ hin hPv st'' keep hbody.toA fun mu' s2 u hm hk2 j r => ?_
          exact f mu' s2 u (fun a ha => (hm a (hmI a ha)).imp (hoI a ha) id) (fun b ob e => hk2 b ob (on_le g.ok hk0 b ob (by rw [eh]; exact e))) (by rw [hJ]; rw [← eJ]; exact j) r
        | brk e hbody =>
          cases e
          refine step _ _ v h' tk _ hin hPv st'' keep hbody.toA fun c2 s2 g2 x2 => ?_
          obtain ⟨c3, g3, _, _, up⟩ := g2.off g.ok hk0
          obtain ⟨c4, g4, x4⟩ := out _ _ _ (g.trans g3) (up _ _ x2)
          exact f c4 s2 g4 x4
    · have hin' : i = n := by omega
      have hkn : k = n := by omega
      subst hin'
      subst hkn
      rw [if_neg (Nat.lt_irrefl _)] at ends
      refine W.done s' _ _ st' fun h' tk keep => wpAny_execs_nil ?_
      have keep' : ∀ b ob, b ≠ I → s'.heap.get? b = some ob → h'.get? b = some ob := fun b ob hb e => keep b ob (fun q => hb (List.mem_singleton.mp q)) e
      cases ends with
      | done _ =>
        obtain ⟨c4, g4, eo, ee, ej, eh4, em⟩ := out0 _ g
        have hm4 : ∀ a ∈ c4.mu, a ≠ I := fun a ha q => by
          subst q
          rcases em a ha with h1 | h1
          · exact hIo h1
          · exact hIn h1
        obtain ⟨x4, _⟩ := x'.hop (c' := c4) (tk := tk) g.ok hIm hIo hIb (fun us => hnl _ _ us st') eo ee ej eh4 (fun a ha => by
          rcases em a ha with h1 | h1
          · exact g.ok.sub a h1
          · exact hmI a h1) keep' fun a ha => by
            have hma : a ∈ c'.mu := by
              rcases em a ha with h1 | h1
              · exact g.ok.sub a h1
              · exact hmI a h1
            obtain ⟨ob, e⟩ := x'.low a hma; exact ⟨ob, keep' a ob (hm4 a ha) e⟩
        exact f c4 _ g4 x4
      | ret e _ => cases e
      | brk e _ => cases e
  · rcases hfp b hb with e | ⟨h1, o', e⟩
    · subst e; exact ⟨fun q => hIn (ok.sub _ q), hlive⟩
    · exact ⟨h1, o', hle _ _ e⟩
end
section
variable {C : Cfg} {d : Nat} {J : Js} {T : Scope} {ρ : Rho}
theorem stA_for {y : Str} {p pos : Pos} {e : Expr} {body : List Stmt} {n : Nat} {vs : Nat → V} (ρs : Nat → Rho) (h : Src C d J T (ρs 0) e n vs) (h0 : Sub ρ (ρs 0))
    (hy : T.names.lookup y = some .local ∨ T.names.lookup y = some .cell) (hna : ∀ i, i ≤ n → noApp (ρs i) y = true)
    (turn : ∀ i, i < n → ExA C d J T (put (ρs i) y (.val (vs i))) body (.next (ρs (i + 1)))) (hs : ∀ env x, foldedSetIterable e env x = pure x := by intro _ _; with_unfolding_all rfl) : ExA1 C d J T ρ (.For (.Name y p) e body [] pos) (.next (ρs n)) :=
  fun c A s Q E hJ ok bs cn hF x f => wpAny_For (h c A s _ E hJ ok.1 bs cn (x.less h0) fun u s₁ p₁ it => it _ _ fun fp P Stt s₂ W hle hg ho hl hfp hst hP hnl hlv =>
    for_coreA (fp := fp) (vs := vs) ρs n W hF hJ ok.1 ok.2 bs cn ((x.less h0).step p₁) rfl hle hg ho hl hfp hst hP hnl hlv hy hna (Nat.le_refl _) turn (.done (by simp)) f) (hs _)

/-- the frame's own names stand, but for the slots -/
theorem St.slots {c : Cx} {s s' : Shared} (x : St c ρ s) (ok : c.Ok T) {oL : Obj} (hk : ∀ b o, b ≠ c.env.locals → s.heap.get? b = some o → s'.heap.get? b = some o) (hL : s.heap.get? c.env.locals = some oL) (hL' : ∃ sl, s'.heap.get? c.env.locals = some { oL with slots := sl }) (hj : c.J s'.gens s'.os) : St c ρ s' := by
  have hns : ∀ m, s.heap.Ns c.env.locals m → s'.heap.Ns c.env.locals m := fun m n => by
    obtain ⟨o, es, ep, ho, hd, r⟩ := n
    rw [hL] at ho; cases ho
    obtain ⟨sl, e⟩ := hL'
    exact ⟨_, es, ep, e, hd, r⟩
  have hlm : c.env.locals ∈ c.mu := ok.sub _ ok.loc
  have hv : HLe (c.vis s.heap) (c.vis s'.heap) := hide_le fun b o hb e => hk b o (fun q => hb (q ▸ hlm)) e
  have hcl : ∀ w a v, (T.names.lookup w = some .cell ∨ T.names.lookup w = some .free) → c.env.cells.lookup w = some a → s.heap.IsCell a v → s'.heap.IsCell a v := fun w a v h1 h2 ⟨o, ho, hd⟩ => ⟨o, hk a o (cell_addr (M := Unit) ok x h1 h2) ho, hd⟩
  have nm : ∀ w u, Nm c s.heap w u → Nm c s'.heap w u := fun w u n => by
    rcases n with ⟨e, m, n, q⟩ | ⟨e, a, n, q⟩
    · exact .inl ⟨e, m, hns m n, q⟩
    · exact .inr ⟨e, a, n, hcl w a _ (by rw [← ok.scope]; exact e) n q⟩
  have pl : ∀ {b us}, s.heap.PlainList b us → s'.heap.PlainList b us := fun {b us} ⟨n, q⟩ => ⟨n, hk b _ (fun w => by
    obtain ⟨m, nn⟩ := x.ns
    exact Ns.noList nn us ⟨n, w ▸ q⟩) q⟩
  refine ⟨hj, fun b o e => hk b o (fun q => by have := ok.off _ ok.loc; rw [← q, e] at this; cases this) (x.keep b o e), let ⟨m, n⟩ := x.ns; ⟨m, hns m n⟩, fun z a e e' => let ⟨v, p⟩ := x.cells z a e e'; ⟨v, hcl z a v (.inl (by rw [← ok.scope]; exact e)) e' p⟩, fun z sl e => ?_, fun z w xs ys b e e' n n' => ?_, fun b hb => ?_⟩
  · obtain ⟨u, n, p⟩ := x.vars z sl e
    refine ⟨u, nm _ _ n, ?_⟩
    cases sl with
    | val v => exact RV.mono hv p
    | «mut» xs => obtain ⟨b, us, e, hb, q, r⟩ := p; exact ⟨b, us, e, hb, pl q, RVs.mono hv r⟩
    | rd xs => obtain ⟨b, us, e, hb, q, r⟩ := p; exact ⟨b, us, e, hb, pl q, RVs.mono hv r⟩
    | app w => obtain ⟨a, b, n', e, q⟩ := p; exact ⟨a, b, nm _ _ n', e, q.keeps hv⟩
  · obtain ⟨u, p, _⟩ := x.vars z _ e
    obtain ⟨u', p', _⟩ := x.vars w _ e'
    have q := (nm _ _ p).fun n; subst q
    have q := (nm _ _ p').fun n'; subst q
    exact x.mutd z w xs ys b e e' p p'
  · by_cases q : b = c.env.locals
    · obtain ⟨sl, e⟩ := hL'; exact ⟨_, q ▸ e⟩
    · obtain ⟨o, e⟩ := x.low b hb; exact ⟨o, hk b o q e⟩
end
end Mine

end
section
set_option Elab.async false
set_option maxRecDepth 100000

namespace Mine
theorem range_mapG {α β : Type} (dflt : α) (f : α → β) (l : List α) : ((List.range l.length).filter (fun _ => true)).map (fun i => f (l.getD i dflt)) = l.map f := by
  rw [List.filter_eq_self.mpr (by simp)]
  apply List.ext_getElem (by simp)
  intro i h1 h2
  have h3 : i < l.length := by simpa using h2
  simp [List.getD, h3]
theorem pick_map {α β : Type} (lo hi st : Option Int) (f : α → β) (xs : List α) : pick lo hi st (xs.map f) = (pick lo hi st xs).map f := by
  unfold pick
  rw [List.length_map, List.map_filterMap]
  congr 1
  funext i
  rw [List.getElem?_map]
theorem getD_int (l : List Int) (i : Nat) (h : i < l.length) : (l.map V.int).getD i .none = .int (l.getD i 0) := by simp [List.getD, h]
/-- a figure of the script's -/
noncomputable def digit (x : Int) : Nat := 48 + ((x.fmod 50).fdiv 5).toNat
noncomputable def figs0 (sc : List Int) : List Nat := (sc.take 6).map digit
noncomputable def figsOf (sc : List Int) : List Nat := figs0 sc ++ [50, 55, 51, 49, 48, 53].drop (figs0 sc).length
noncomputable def ent (x : Int) : Nat := [1, 2, 3, 0, 127].getD (x.fmod 5).toNat 0
noncomputable def tailOf : Nat → List Nat
  | 0 => [2, 0]
  | 1 => [1, 3]
  | _ => [3, 1, 127, 2]
noncomputable def rowOf (sc : List Int) (t : Nat) : List Nat := (pick (some (t : Int)) none (some 3) (sc.take 9)).map ent ++ tailOf t
theorem digit_at (x : Int) : [48, 49, 50, 51, 52, 53, 54, 55, 56, 57][((x.fmod 50).fdiv 5).toNat]? = some (digit x) ∧ 0 ≤ (x.fmod 50).fdiv 5 := by
  have h1 : 0 ≤ x.fmod 50 := Int.fmod_nonneg_of_pos x (by decide)
  have h2 : x.fmod 50 < 50 := Int.fmod_lt_of_pos x (by decide)
  have h3 : (x.fmod 50).fdiv 5 = (x.fmod 50) / 5 := Int.fdiv_eq_ediv_of_nonneg _ (by decide)
  have h4 : 0 ≤ (x.fmod 50) / 5 ∧ (x.fmod 50) / 5 < 10 := by omega
  rw [h3]
  refine ⟨?_, h4.1⟩
  unfold digit
  rw [h3]
  generalize hk : ((x.fmod 50) / 5).toNat = k
  have : k < 10 := by omega
  clear hk
  match k, this with
  | 0, _ => rfl
  | 1, _ => rfl
  | 2, _ => rfl
  | 3, _ => rfl
  | 4, _ => rfl
  | 5, _ => rfl
  | 6, _ => rfl
  | 7, _ => rfl
  | 8, _ => rfl
  | 9, _ => rfl
  | n + 10, h => omega
theorem ent_at (x : Int) : [1, 2, 3, 0, 127][(x.fmod 5).toNat]? = some (ent x) ∧ 0 ≤ x.fmod 5 ∧ x.fmod 5 < 5 := by
  have h1 : 0 ≤ x.fmod 5 := Int.fmod_nonneg_of_pos x (by decide)
  have h2 : x.fmod 5 < 5 := Int.fmod_lt_of_pos x (by decide)
  refine ⟨?_, h1, h2⟩
  unfold ent
  generalize hk : (x.fmod 5).toNat = k
  have : k < 5 := by omega
  rw [List.getD, List.getElem?_eq_getElem (by simpa using this)]; rfl
theorem figs0_len (sc : List Int) : (figs0 sc).length ≤ 6 := by unfold figs0; rw [List.length_map, List.length_take]; omega
theorem figsOf_len (sc : List Int) : (figsOf sc).length = 6 := by
  have := figs0_len sc
  unfold figsOf
  rw [List.length_append, List.length_drop]; simp; omega
theorem joinNil (ls : List (List Nat)) : (Txt.join (S []) (ls.map S)).cps.toList = ls.flatten := by
  unfold Txt.join
  rw [StrLaws.glued_eq_join]
  induction ls with
  | nil => rfl
  | cons a r ih =>
    cases r with
    | nil => show (S a).cps.toList = _; simp [S]
    | cons b r =>
      show (S a ++ S [] ++ Str.join (S []) ((b :: r).map S)).cps.toList = _
      rw [Str.cps_append, Str.cps_append]
      simp only [Array.toList_append, List.flatten_cons]
      rw [ih]; simp [S]
theorem joinNil_ok {ls : List (List Nat)} (hn : ls.length ≤ 30) (hl : ∀ l ∈ ls, l.length ≤ 30) : JoinOk (S []) (ls.map S) = true := by
  have hs : ((ls.map S).map (·.length)).sum ≤ 30 * ls.length := by
    clear hn
    induction ls with
    | nil => simp
    | cons l r ih =>
      have h1 := hl l List.mem_cons_self
      have h2 := ih fun x hx => hl x (List.mem_cons_of_mem _ hx)
      simp only [List.map_cons, List.sum_cons, List.length_cons, S_len]
      omega
  unfold JoinOk
  rw [Bool.not_eq_true', StrLaws.joinTotal]
  unfold Builtin.Str.tooLong
  rw [sizeLine_eq, S_len, List.length_map]
  simp only [List.length_nil, gt_iff_lt, decide_eq_false_iff_not]
  omega
section
variable {C : Cfg} {d : Nat} {J : Js}
theorem law_figs (B : Blts C) {sc : List Int} (hsc : sc.length ≤ 63) : Ex1 C d J (rec 33).scope [("script", .val (.list (sc.map V.int)))] (nth (rec 33).body 0) (.next [("script", .val (.list (sc.map V.int))), ("figures", .val (.str (figs0 sc)))]) := by
  have hx : pick none (some 6) none (sc.map V.int) = (sc.take 6).map V.int := by
    rw [pick_cut, show (6 : Int) = ((6 : Nat) : Int) from rfl, cut_to, List.map_take]
  have hl6 : (sc.take 6).length ≤ 6 := by rw [List.length_take]; omega
  refine st_set (v := .str (figs0 sc)) ?_ (by walk_at "m:put") (by walk_at "m:loc") (by walk_at "m:noapp")
  have e1 := range_mapG 0 (fun x => V.str [digit x]) (sc.take 6)
  have e2 : (List.map (fun x => V.str [digit x]) (sc.take 6)) = (((sc.take 6).map fun x => [digit x]).map V.str) := by rw [List.map_map]; rfl
  refine Ev.cast (v := VS (Txt.join (S []) (((sc.take 6).map fun x => [digit x]).map S))) ?_ ?_
  · with_reducible refine' run_meth ?k1 ?k2 PySem.F.slot_str_join PySem.F.type_str_join ?k3
    case k1 => walk_at "m:ev"
    case k2 =>
      with_reducible refine' eva_cons ?g1 ?g2
      case g1 =>
        refine Ev.cast (w := .list (((sc.take 6).map fun x => [digit x]).map V.str)) (ev_compF [] (fun _ => true) (fun i => .str [digit ((sc.take 6).getD i 0)]) (by decide +kernel) (src_list (xs := (sc.take 6).map V.int) (Ev.cast (by walk_at "m:ev") (by rw [hx]))) (by rw [List.length_map, sizeLine_eq]; omega) (by walk_at "m:compr") (by walk_at "m:noapp") (fun i hi => tss_nil) (fun i hi _ => ?_)) ?_
        · have hi' : i < (sc.take 6).length := by simpa using hi
          rw [Put.eq (by walk_at "m:put")]
          rw [getD_int _ _ hi']
          generalize (sc.take 6).getD i 0 = x
          obtain ⟨h1, h2⟩ := digit_at x
          with_reducible refine' ev_itemS _ ?q1 ?q2 ?q3 h1 ?q5
          case q1 => walk_at "m:ev"
          case q2 =>
            refine ev_bin (ev_bin (by walk_at "m:ev") (by walk_at "m:ev") (bin_mod (by decide))) (by walk_at "m:ev") (bin_div (by decide) (by decide))
          case q3 => exact ⟨h2, rfl⟩
          case q5 => rw [sizeLine_eq]; simp
        · rw [List.length_map, e1, e2]
      case g2 => with_reducible exact eva_nil
    case k3 =>
      exact op_join (m := []) (joinNil_ok (by rw [List.length_map]; omega) (fun l hl => by obtain ⟨x, _, rfl⟩ := List.mem_map.mp hl; simp))
  · unfold VS
    rw [joinNil]
    unfold figs0
    congr 1
    induction sc.take 6 with
    | nil => rfl
    | cons a r ih => simp [ih]
end
end Mine

end
section
set_option Elab.async false
set_option maxRecDepth 100000

namespace Mine
noncomputable def vI (l : List Nat) : V := .list (l.map fun e : Nat => V.int e)
noncomputable def tailsV : V := .list [.list [.int 2, .int 0], .list [.int 1, .int 3], .list [.int 3, .int 1, .int 127, .int 2]]
/-- the names of law, behind the figures -/
noncomputable def lawR (sv : V) (figs : List Nat) (ns : List Nat) (ps : List (List Nat)) (ms : List (List (Option (List Nat)))) : Rho :=
  [("script", .val sv), ("figures", .val (.str figs)), ("tails", .val tailsV), ("numbers", .mut (ns.map fun n : Nat => V.int n)), ("paths", .mut (ps.map V.str)), ("masks", .mut (ms.map fun p => V.list (p.map pv)))]
noncomputable def thirds (sc : List Int) (t : Nat) : List Int := pick (some (t : Int)) none (some 3) (sc.take 9)
theorem thirds_n : ∀ n : Nat, n < 10 → ∀ t : Nat, t < 3 → (sliceRange (sliceBounds (some (t : Int)) none (some 3) n).1 (sliceBounds (some (t : Int)) none (some 3) n).2.1 (sliceBounds (some (t : Int)) none (some 3) n).2.2).length ≤ 3 := by decide +kernel
theorem thirds_len (sc : List Int) (t : Nat) (ht : t < 3) : (thirds sc t).length ≤ 3 := by
  unfold thirds pick
  refine Nat.le_trans (List.length_filterMap_le _ _) ?_
  exact thirds_n _ (by rw [List.length_take]; omega) t ht
theorem rowOf_eq (sc : List Int) (t : Nat) : rowOf sc t = (thirds sc t).map ent ++ tailOf t := rfl
theorem tail_len : ∀ t, (tailOf t).length ≤ 4
  | 0 => by decide
  | 1 => by decide
  | _ + 2 => by show [3, 1, 127, 2].length ≤ 4; decide
theorem tail_at : ∀ t, t < 3 → [V.list [.int 2, .int 0], .list [.int 1, .int 3], .list [.int 3, .int 1, .int 127, .int 2]][t]? = some (.list ((tailOf t).map fun e : Nat => V.int e))
  | 0, _ => rfl
  | 1, _ => rfl
  | 2, _ => rfl
  | _ + 3, h => by omega
section
variable {C : Cfg} {d : Nat} {J : Js}
theorem law_row {sc : List Int} {figs : List Nat} {ns : List Nat} {ps : List (List Nat)} {ms : List (List (Option (List Nat)))} (hsc : sc.length ≤ 63) (t : Nat) (ht : t < 3) :
    Ex1 C d J (rec 33).scope (lawR (.list (sc.map V.int)) figs ns ps ms ++ ([("turn", .val (.int t))] : Rho)) (nth (bodyOf (nth (rec 33).body 6)) 0) (.next (lawR (.list (sc.map V.int)) figs ns ps ms ++ ([("turn", .val (.int t)), ("row", .val (vI (rowOf sc t)))] : Rho))) := by
  have hx : pick (some (t : Int)) none (some 3) (pick none (some 9) none (sc.map V.int)) = (thirds sc t).map V.int := by
    rw [pick_cut, show (9 : Int) = ((9 : Nat) : Int) from rfl, cut_to, ← List.map_take, pick_map]; rfl
  have hl := thirds_len sc t ht
  have hte := tail_len t
  have hti := tail_at t ht
  have e1 := range_mapG 0 (fun x : Int => V.int (ent x)) (thirds sc t)
  have hl9 : (pick none (some 9) none (sc.map V.int)).length ≤ sizeLine := by
    rw [pick_cut, show (9 : Int) = ((9 : Nat) : Int) from rfl, cut_to, List.length_take, sizeLine_eq]; omega
  have hl63 : (sc.map V.int).length ≤ sizeLine := by rw [List.length_map, sizeLine_eq]; omega
  rw [rowOf_eq]
  generalize thirds sc t = L at *
  generalize sc.map V.int = sv at *
  unfold lawR tailsV vI
  simp only [List.cons_append, List.nil_append]
  refine st_set (v := .list ((L.map ent ++ tailOf t).map fun e : Nat => V.int e)) ?_ (by walk_at "m:put") (by walk_at "m:loc") (by walk_at "m:noapp")
  rw [List.map_append]
  refine ev_bin (a := .list ((L.map ent).map fun e : Nat => V.int e)) (b := .list ((tailOf t).map fun e : Nat => V.int e)) ?_ ?_ (bin_addL (by rw [sizeLine_eq]; simp; omega))
  · refine Ev.cast (ev_compF [] (fun _ => true) (fun i => .int (ent (L.getD i 0))) (by decide +kernel) (src_list (xs := L.map V.int) (Ev.cast (ev_sliceL (ev_sliceL (by walk_at "m:ev") (by walk_at "m:evp") (by walk_at "m:evp") (by walk_at "m:evp") (by decide) hl63) (by walk_at "m:evp") (by walk_at "m:evp") (by walk_at "m:evp") (by decide) hl9) (by rw [hx]))) (by rw [List.length_map, sizeLine_eq]; omega) (by walk_at "m:compr") (by walk_at "m:noapp") (fun i hi => tss_nil) (fun i hi _ => ?_)) ?_
    · have hi' : i < L.length := by simpa using hi
      rw [Put.eq (by walk_at "m:put"), getD_int _ _ hi']
      generalize L.getD i 0 = x
      obtain ⟨h1, h2, h3⟩ := ent_at x
      have h4 : [V.int 1, V.int 2, V.int 3, V.int 0, V.int 127][(x.fmod 5).toNat]? = some (.int (ent x)) := by
        have := congrArg (Option.map fun e : Nat => V.int e) h1
        rw [← List.getElem?_map] at this
        exact this
      exact ev_itemL _ (by walk_at "m:ev") (ev_bin (by walk_at "m:ev") (by walk_at "m:ev") (bin_mod (by decide))) (.inl ⟨h2, rfl⟩) h4 (by rw [sizeLine_eq]; simp)
    · rw [List.length_map, e1, List.map_map]; rfl
  · exact ev_itemL t (by walk_at "m:ev") (by walk_at "m:ev") (.inl ⟨by omega, by omega⟩) hti (by rw [sizeLine_eq]; simp)
end
end Mine

end
section
set_option Elab.async false
set_option maxRecDepth 100000

namespace Mine
/-- the names of law in a turn -/
noncomputable def turnR (sv : V) (figs : List Nat) (ns : List Nat) (ps : List (List Nat)) (ms : List (List (Option (List Nat)))) (t : Nat) (row : List Nat) : Rho :=
  [("script", .val sv), ("figures", .val (.str figs)), ("tails", .val tailsV), ("numbers", .mut (ns.map fun n : Nat => V.int n)), ("paths", .mut (ps.map V.str)), ("masks", .mut (ms.map fun p => V.list (p.map pv))), ("turn", .val (.int t)), ("row", .val (vI row))]
noncomputable def whileS : Stmt := nth (bodyOf (nth (rec 33).body 6)) 1
section
variable {C : Cfg} {d : Nat} {J : Js} {sv : V} {figs : List Nat} {ns : List Nat} {ps : List (List Nat)} {ms : List (List (Option (List Nat)))} {t : Nat}
theorem law_cutA (hJG : JGen J) {f g : Addr} {tc : Tok} (hf : Def C 5 "_grouping_intervals" f) (hg : Def C 28 "_law_cut" g) (hc : C.mg "CHAR_MAX" = some (.int 127 tc)) (B : Blts C) {r : List Nat} :
    ExA1 C (d + 5) J (rec 33).scope (turnR sv figs ns ps ms t (0 :: r)) (nth (bodyOf whileS) 0) (.next (turnR sv figs ns ps ms t (0 :: r))) := by
  intro c A s Q E hJ okk bs cn hF x fin
  have ok := okk.1
  have hgg := hg.g
  refine wpAny_If ?_
  refine wpAny_isTrue_Compare1 ?_ (by with_unfolding_all rfl)
  refine wpAny_Call_Name_kw (wpAny_mono ((show Ev C (d + 5) J (rec 33).scope (turnR sv figs ns ps ms t (0 :: r)) (.Name "_law_cut" ⟨278, 15, 278, 23⟩) (.const (.ref g)) by walk_at "m:ev").use hJ ok bs cn x) (fun u s₁ ⟨x₁, p₁, r₁⟩ => ?_) fun _ _ e => e)
  have r₁ : u = .ref g := r₁
  subst r₁
  obtain ⟨of, doc, pm, an, cdv, ct, hof, hdf, _⟩ := ((bs.now x₁.keep).fns g _ hg.r)
  refine callWith_function (o := of) (fd := fnOf (rec 28).name (rec 28).name (rec 28).params (rec 28).body (rec 28).scope .none .none doc pm an cdv ct) (evalArgs_plain ?_)
  have hargs : EvA C (d + 5) J (rec 33).scope (turnR sv figs ns ps ms t (0 :: r)) ⟨278, 15, 278, 37⟩ [.Name "figures" ⟨278, 24, 278, 31⟩, .Name "row" ⟨278, 33, 278, 36⟩] [.str figs, vI (0 :: r)] := by
    unfold turnR; walk_at "m:eva"
  refine wpAny_mono (hargs.use hJ ok bs cn x₁) (fun us s₂ ⟨x₂, p₂, r₂⟩ => ⟨⟨p₂.le _ _ hof, hdf⟩, ?_⟩) fun _ _ e => e
  obtain ⟨m, hns⟩ := x₂.ns
  obtain ⟨oL, es, ep, hoL, hdL, _⟩ := hns
  refine cut_err (J := J) (d := d) (mu := c.mu) (figs := figs) (row := r) hJG hf hg hc B.verr (bs.keeps (vis_keeps x₂.keep)) (by rw [← hJ]; exact x₂.j) x₂.low cn r₂ hF.1 hF.2 (by rw [ok.scope]; decide +kernel) (ok.sub _ ok.loc) hoL (fun vs q => by rw [hdL] at q; cases q) (fun s₃ hk hL hj => ?_)
  have x₃ : St c (turnR sv figs ns ps ms t (0 :: r)) s₃ := x₂.slots ok hk hoL hL (by rw [hJ]; exact hj)
  refine wpAny_Constant_none ?_
  with_reducible refine isNot_none ?_
  refine wpAny_truthy_bool ?_
  exact wpAny_execs_nil (fin c s₃ (Grow.refl ok) x₃)
theorem law_while (hJG : JGen J) {f g : Addr} {tc : Tok} (hf : Def C 5 "_grouping_intervals" f) (hg : Def C 28 "_law_cut" g) (hc : C.mg "CHAR_MAX" = some (.int 127 tc)) (B : Blts C) : ∀ row : List Nat, row.length ≤ 40 → (∃ e ∈ row, e ≠ 0) →
    WLoopA C (d + 5) J (rec 33).scope (testOf whileS) (bodyOf whileS) (turnR sv figs ns ps ms t row) (turnR sv figs ns ps ms t (row.dropWhile (· == 0)))
  | [], _, h => by obtain ⟨_, h, _⟩ := h; cases h
  | e :: r, hl, h => by
    have hx : ((e :: r).map fun e : Nat => V.int e)[0]? = some (.int e) := rfl
    have hl2 : ((e :: r).map fun e : Nat => V.int e).length ≤ 40 := by rw [List.length_map]; exact hl
    have ht : Tst C (d + 5) J (rec 33).scope (turnR sv figs ns ps ms t (e :: r)) (testOf whileS) (e == 0) := by
      unfold turnR vI
      generalize ((e :: r).map fun e : Nat => V.int e) = rv at *
      refine Tst.cast (tst_cmp (by walk_at "m:ev") (by walk_at "m:ev") cmp_eqI) ?_
      rw [Bool.eq_iff_iff]; simp
    by_cases h0 : e = 0
    · subst h0
      have hr : ∃ e ∈ r, e ≠ 0 := by
        obtain ⟨y, hy, hn⟩ := h
        rcases List.mem_cons.mp hy with q | q
        · exact absurd q hn
        · exact ⟨y, q, hn⟩
      have ih := law_while hJG hf hg hc B r (by rw [List.length_cons] at hl; omega) hr
      refine .step ht (exA_cons (law_cutA hJG hf hg hc B) (Ex.toA ?_)) ih
      unfold turnR vI
      refine ex_cons (st_set (v := .list (r.map fun e : Nat => V.int e)) ?_ (by walk_at "m:put") (by walk_at "m:loc") (by walk_at "m:noapp")) ex_nil
      refine Ev.cast (by walk_at "m:ev") ?_
      rw [pick_cut, show (1 : Int) = ((1 : Nat) : Int) from rfl, cut_from 1 _ (by simp)]
      rfl
    · have e1 : (e :: r).dropWhile (· == 0) = e :: r := by
        rw [List.dropWhile_cons_of_neg (by simpa using h0)]
      rw [e1]
      exact .done (by rw [show (e == 0) = false by simpa using h0] at ht; exact ht)
end
end Mine

end
section
set_option Elab.async false
set_option maxRecDepth 100000

namespace Mine
/-- the defs that law reaches -/
structure Defs (C : Cfg) (f3 f5 f9 f11 f20 f24 f25 f26 f28 f29 f30 f31 f32 : Addr) (tc : Tok) : Prop where
  h3 : Def C 3 "_strcoll" f3
  h5 : Def C 5 "_grouping_intervals" f5
  h9 : Def C 9 "escape" f9
  h11 : Def C 11 "_translate" f11
  h20 : Def C 20 "fspath" f20
  h24 : Def C 24 "_get_sep" f24
  h25 : Def C 25 "join" f25
  h26 : Def C 26 "commonpath" f26
  h28 : Def C 28 "_law_cut" f28
  h29 : Def C 29 "_law_bits" f29
  h30 : Def C 30 "_law_spelled" f30
  h31 : Def C 31 "_law_shared" f31
  h32 : Def C 32 "_law_takes" f32
  hc : C.mg "CHAR_MAX" = some (.int 127 tc)
  B : Blts C
  M : SpMap C
theorem spellTo_mem {l : List Nat} {b : Nat} {m : List Nat} {n : Nat} (hn : n ≤ l.length) {P : Nat → Prop} (h47 : P 47) (hm : ∀ c ∈ m, P c) (hl : ∀ c ∈ l, P c) : ∀ c ∈ spellTo l b m n, P c := by
  induction n with
  | zero => intro c hc; unfold spellTo at hc; rw [List.mem_singleton.mp hc]; exact h47
  | succ n ih =>
    intro c hc
    unfold spellTo at hc
    rcases List.mem_append.mp hc with hc | hc
    · rcases List.mem_append.mp hc with hc | hc
      · exact ih (by omega) c hc
      · rw [List.mem_singleton.mp hc]
        exact hl _ (by have : n < l.length := by omega
                       simp [List.getD, this])
    · split at hc
      · split at hc
        · rw [List.mem_singleton.mp hc]; exact h47
        · exact hm c hc
      · cases hc
theorem cutGo_lens : ∀ (n : Nat) (F : Nat → Option Nat) (rest : List Nat) (gs : List (List Nat)), (∀ j e, F j = some e → 0 < e) → (∀ g ∈ gs, g.length ≤ 6) → rest.length ≤ 6 →
    (cutGo n F rest gs).1.length + (cutGo n F rest gs).2.length ≤ rest.length + gs.length ∧ (cutGo n F rest gs).1.length ≤ 6 ∧ ∀ g ∈ (cutGo n F rest gs).2, g.length ≤ 6
  | 0, F, rest, gs, _, hg, hr => ⟨Nat.le_refl _, hr, hg⟩
  | n + 1, F, rest, gs, hF, hg, hr => by
    unfold cutGo
    split
    · exact ⟨Nat.le_refl _, hr, hg⟩
    · split
      · exact ⟨Nat.le_refl _, hr, hg⟩
      · rename_i e he hne
        have hrl : 0 < rest.length := List.length_pos_iff.mpr hne
        have hep := hF 0 e he
        have h := cutGo_lens n (fun j => F (j + 1)) (rest.take (rest.length - e)) (rest.drop (rest.length - e) :: gs) (fun j e h => hF (j + 1) e h) (fun g h => by
          rcases List.mem_cons.mp h with q | q
          · rw [q, List.length_drop]; omega
          · exact hg g q) (by rw [List.length_take]; omega)
        refine ⟨Nat.le_trans h.1 ?_, h.2⟩
        rw [List.length_take, List.length_cons]; omega
theorem cutOf_lens {figs row : List Nat} (hf : figs.length ≤ 6) : (cutOf figs row).length ≤ 7 ∧ ∀ g ∈ cutOf figs row, g.length ≤ 6 := by
  have h := cutGo_lens 8 (outs none row) figs [] (fun j e q => outs_pos row none j e (fun _ w => by cases w) q) (fun g h => by cases h) hf
  unfold cutOf
  generalize cutGo 8 (outs none row) figs [] = p at *
  obtain ⟨r, gs⟩ := p
  simp only [List.length_nil, Nat.add_zero] at h
  simp only
  split
  · exact ⟨by omega, h.2.2⟩
  · refine ⟨by rw [List.length_cons]; omega, fun g hg => ?_⟩
    rcases List.mem_cons.mp hg with q | q
    · rw [q]; exact h.2.1
    · exact h.2.2 g q
theorem dropW_head (row : List Nat) : (row.dropWhile (· == 0)).head? ≠ some 0 := by
  induction row with
  | nil => intro q; cases q
  | cons e r ih =>
    by_cases h : e = 0
    · subst h; rw [List.dropWhile_cons_of_pos (by rfl)]; exact ih
    · rw [List.dropWhile_cons_of_neg (by simpa using h)]
      intro q; exact h (by simpa using q)
theorem dropW_mem {row : List Nat} {e : Nat} (h : e ∈ row.dropWhile (· == 0)) : e ∈ row := (List.dropWhile_sublist _).mem h
noncomputable def restS : List Stmt := (bodyOf (nth (rec 33).body 6)).drop 2
section
variable {C : Cfg} {d : Nat} {J : Js} {sv : V} {figs : List Nat} {ns : List Nat} {ps : List (List Nat)} {ms : List (List (Option (List Nat)))} {t : Nat}
theorem law_rest (hJG : JGen J) {f3 f5 f9 f11 f20 f24 f25 f26 f28 f29 f30 f31 f32 : Addr} {tc : Tok} (D : Defs C f3 f5 f9 f11 f20 f24 f25 f26 f28 f29 f30 f31 f32 tc) (hfl : figs.length = 6) (hfd : ∀ c ∈ figs, 48 ≤ c ∧ c ≤ 57) {row : List Nat} (hrl : row.length ≤ 40) (hre : ∀ e ∈ row, e ≤ 127) (hrh : row.head? ≠ some 0)
    (hns : ns.length ≤ 10) (hps : ps.length ≤ 10) (hms : ms.length ≤ 10) (hpath : (cutOf figs row).foldl joinStep [47] = spellTo figs (bitsFrom 6 row 0 0 0) [] 6) :
    Ex C (d + 6) J (rec 33).scope (turnR sv figs ns ps ms t row) restS (.next (lawR sv figs (ns ++ [bitsFrom 6 row 0 0 0]) (ps ++ [spellTo figs (bitsFrom 6 row 0 0 0) [] 6]) (ms ++ [(spellTo figs (bitsFrom 6 row 0 0 0) [42] 6).foldl maskStep []]))) := by
  have g28 := D.h28.g
  have r28 := D.h28.r
  have g29 := D.h29.g
  have r29 := D.h29.r
  have g30 := D.h30.g
  have r30 := D.h30.r
  have g25 := D.h25.g
  have r25 := D.h25.r
  have g11 := D.h11.g
  have r11 := D.h11.r
  have blen := D.B.len
  obtain ⟨hcl, hcg⟩ := cutOf_lens (figs := figs) (row := row) (by omega)
  have k28 : Fn C (d + 6) J f28 [.str figs, vI row] (.list ((cutOf figs row).map V.str)) := (fn_cut (d := d + 1) hJG D.h5 D.h28 D.hc (by omega) hrh)
  have k29 : Fn C (d + 6) J f29 [vI row, .int 6] (.int (bitsFrom 6 row 0 0 0)) := (fn_bits (d := d + 5) (n := 6) D.h29 (by omega) hrl hre hrh D.B.range D.B.sum)
  have k25 : Fn C (d + 6) J f25 (.str [47] :: (cutOf figs row).map V.str) (.str ((cutOf figs row).foldl joinStep [47])) := fn_join (d := d + 4) D.h20 D.h24 D.h25 D.B (fun g hg => by have := hcg g hg; omega) (by omega)
  rw [hpath] at k25
  have hN : ∀ m : List Nat, m.length ≤ 1 → Fn C (d + 6) J f30 [.str figs, .int (bitsFrom 6 row 0 0 0), .str m] (.str (spellTo figs (bitsFrom 6 row 0 0 0) m 6)) := fun m hm => by
    have := fn_spelled (d := d + 5) (J := J) (b := bitsFrom 6 row 0 0 0) D.h30 (l := figs) (m := m) (by omega) hm D.B.len D.B.range
    rw [hfl] at this; exact this
  generalize hNe : bitsFrom 6 row 0 0 0 = N at *
  have k11 : Fn C (d + 6) J f11 [.str (spellTo figs N [42] 6), .none, .str [46]] (.list (((spellTo figs N [42] 6).foldl maskStep []).map pv)) :=
    fn_tr (d := d + 4) D.h9 D.h11 D.B D.M (Nat.le_trans (spellTo_len figs N [42] (by simp) 6) (by omega)) (spellTo_mem (by omega) (.inr ⟨by omega, by omega⟩) (fun c hc => .inl (List.mem_singleton.mp hc)) (fun c hc => .inr ⟨by have := (hfd c hc).1; omega, (hfd c hc).2⟩))
  have k30e := hN [] (by simp)
  have k30s := hN [42] (by simp)
  have hcl2 : ((cutOf figs row).map V.str).length ≤ 7 := by rw [List.length_map]; exact hcl
  generalize hgv : (cutOf figs row).map V.str = gv at *
  unfold turnR lawR
  refine ex_cons (st_set (v := .list gv) ?_ (by walk_at "m:put") (by walk_at "m:loc") (by walk_at "m:noapp")) ?_
  · with_reducible refine' ev_call ?k1 ?k2 ?k3 k28
    case k1 => walk_at "m:glob"
    case k2 => assumption
    case k3 => walk_at "m:eva"
  refine ex_cons (st_if (r := false) (Tst.cast (by walk_at "m:tst") (by rfl)) (fun e => absurd e (by decide)) fun _ => ex_nil) ?_
  refine ex_cons (st_set (v := .int N) ?_ (by walk_at "m:put") (by walk_at "m:loc") (by walk_at "m:noapp")) ?_
  · with_reducible refine' ev_call ?k1 ?k2 ?k3 k29
    case k1 => walk_at "m:glob"
    case k2 => assumption
    case k3 =>
      with_reducible refine' eva_cons ?q1 ?q2
      case q1 => walk_at "m:ev"
      case q2 =>
        with_reducible refine' eva_cons ?w1 ?w2
        case w1 => exact Ev.cast (by walk_at "m:ev") (by rw [hfl]; rfl)
        case w2 => walk_at "m:eva"
  refine ex_cons (st_set (v := .str (spellTo figs N [] 6)) ?_ (by walk_at "m:put") (by walk_at "m:loc") (by walk_at "m:noapp")) ?_
  · exact ev_callStar (by walk_at "m:glob") r25 (by walk_at "m:ev") (by walk_at "m:ev") (by rw [sizeLine_eq]; omega) k25
  refine ex_cons (st_if (r := false) (Tst.cast (tst_cmp (b := .str (spellTo figs N [] 6)) (by walk_at "m:ev") ?_ cmp_neS) (by simp)) (fun e => absurd e (by decide)) fun _ => ex_nil) ?_
  · with_reducible refine' ev_call ?k1 ?k2 ?k3 k30e
    case k1 => walk_at "m:glob"
    case k2 => assumption
    case k3 => walk_at "m:eva"
  refine ex_cons (st_append (by walk_at "m:at") (by walk_at "m:ev") (by walk_at "m:put") (by rw [List.length_map, sizeLine_eq]; omega) (by decide +kernel) (hi := ?_)) ?_
  · intro env he
    unfold interactive
    rw [he]; rfl
  refine ex_cons (st_append (by walk_at "m:at") (by walk_at "m:ev") (by walk_at "m:put") (by rw [List.length_map, sizeLine_eq]; omega) (by decide +kernel) (hi := ?_)) ?_
  · intro env he
    unfold interactive
    rw [he]; rfl
  refine ex_cons (st_append (by walk_at "m:at") (v := .list (((spellTo figs N [42] 6).foldl maskStep []).map pv)) ?_ (by walk_at "m:put") (by rw [List.length_map, sizeLine_eq]; omega) (by decide +kernel) (hi := ?_)) ?_
  · with_reducible refine' ev_call ?k1 ?k2 ?k3 k11
    case k1 => walk_at "m:glob"
    case k2 => assumption
    case k3 =>
      with_reducible refine' eva_cons ?q1 ?q2
      case q1 =>
        with_reducible refine' ev_call ?z1 ?z2 ?z3 k30s
        case z1 => walk_at "m:glob"
        case z2 => assumption
        case z3 => walk_at "m:eva"
      case q2 => walk_at "m:eva"
  · intro env he
    unfold interactive
    rw [he]; rfl
  rw [List.map_append, List.map_append, List.map_append]
  walk_at "m:end"
end
end Mine

end
section
set_option Elab.async false
set_option maxRecDepth 100000

namespace Mine
noncomputable def rowT (sc : List Int) (t : Nat) : List Nat := (rowOf sc t).dropWhile (· == 0)
noncomputable def numT (sc : List Int) (t : Nat) : Nat := bitsFrom 6 (rowT sc t) 0 0 0
noncomputable def pathN (figs : List Nat) (n : Nat) : List Nat := spellTo figs n [] 6
noncomputable def maskN (figs : List Nat) (n : Nat) : List (Option (List Nat)) := (spellTo figs n [42] 6).foldl maskStep []
noncomputable def lawN (sv : V) (figs : List Nat) (N : Nat → Nat) (k : Nat) : Rho := lawR sv figs ((List.range k).map N) ((List.range k).map fun t => pathN figs (N t)) ((List.range k).map fun t => maskN figs (N t))
theorem ent_le (x : Int) : ent x ≤ 127 := by
  obtain ⟨h1, h2, h3⟩ := ent_at x
  have : ent x ∈ [1, 2, 3, 0, 127] := List.mem_of_getElem? h1
  simp at this
  omega
theorem tail_le : ∀ t, ∀ e ∈ tailOf t, e ≤ 127
  | 0 => by decide
  | 1 => by decide
  | _ + 2 => by show ∀ e ∈ [3, 1, 127, 2], e ≤ 127; decide
theorem tail_nz : ∀ t, ∃ e ∈ tailOf t, e ≠ 0
  | 0 => by decide
  | 1 => by decide
  | _ + 2 => by show ∃ e ∈ [3, 1, 127, 2], e ≠ 0; decide
theorem rowOf_facts (sc : List Int) (t : Nat) (ht : t < 3) : (rowOf sc t).length ≤ 7 ∧ (∀ e ∈ rowOf sc t, e ≤ 127) ∧ ∃ e ∈ rowOf sc t, e ≠ 0 := by
  rw [rowOf_eq]
  refine ⟨?_, fun e he => ?_, ?_⟩
  · have := thirds_len sc t ht
    have := tail_len t
    rw [List.length_append, List.length_map]; omega
  · rcases List.mem_append.mp he with h | h
    · obtain ⟨x, _, rfl⟩ := List.mem_map.mp h; exact ent_le x
    · exact tail_le t e h
  · obtain ⟨e, he, hn⟩ := tail_nz t
    exact ⟨e, List.mem_append_right _ he, hn⟩
theorem figsOf_digit (sc : List Int) : ∀ c ∈ figsOf sc, 48 ≤ c ∧ c ≤ 57 := by
  intro c hc
  unfold figsOf at hc
  rcases List.mem_append.mp hc with h | h
  · unfold figs0 at h
    obtain ⟨x, _, rfl⟩ := List.mem_map.mp h
    have := List.mem_of_getElem? (digit_at x).1
    simp at this
    omega
  · have := List.mem_of_mem_drop h
    simp at this
    omega
section
variable {C : Cfg} {d : Nat} {J : Js}
theorem law_first (hJG : JGen J) {f3 f5 f9 f11 f20 f24 f25 f26 f28 f29 f30 f31 f32 : Addr} {tc : Tok} (D : Defs C f3 f5 f9 f11 f20 f24 f25 f26 f28 f29 f30 f31 f32 tc) {sc : List Int} (hsc : sc.length ≤ 63) {figs : List Nat} (hfl : figs.length = 6) (hfd : ∀ c ∈ figs, 48 ≤ c ∧ c ≤ 57)
    (hpath : ∀ t, t < 3 → (cutOf figs (rowT sc t)).foldl joinStep [47] = pathN figs (numT sc t)) :
    ExA1 C (d + 6) J (rec 33).scope (lawN (.list (sc.map V.int)) figs (numT sc) 0) (nth (rec 33).body 6) (.next (lawN (.list (sc.map V.int)) figs (numT sc) 3)) := by
  have brange := D.B.range
  refine stA_for (fun i => lawN (.list (sc.map V.int)) figs (numT sc) i) (src_range (a := 0) (b := 3) (n := 3) (by unfold lawN lawR; walk_at "m:call") (.inl (by decide)) (small_ok (by decide) (by decide) (by decide) (by decide))) (by unfold lawN lawR; walk_at "m:sub") (by walk_at "m:loc") (fun i _ => rfl) (fun t ht => ?_)
  obtain ⟨h1, h2, h3⟩ := rowOf_facts sc t ht
  have h4 : (rowT sc t).length ≤ 7 := Nat.le_trans (List.dropWhile_sublist _).length_le h1
  have hr := law_row (C := C) (d := d + 6) (J := J) (sc := sc) (figs := figs) (ns := (List.range t).map (numT sc)) (ps := (List.range t).map fun t => pathN figs (numT sc t)) (ms := (List.range t).map fun t => maskN figs (numT sc t)) hsc t ht
  have hw := law_while (C := C) (d := d + 1) (J := J) (sv := .list (sc.map V.int)) (figs := figs) (ns := (List.range t).map (numT sc)) (ps := (List.range t).map fun t => pathN figs (numT sc t)) (ms := (List.range t).map fun t => maskN figs (numT sc t)) (t := t) hJG D.h5 D.h28 D.hc D.B (rowOf sc t) (by omega) h3
  have hl := law_rest (C := C) (d := d) (J := J) (sv := .list (sc.map V.int)) (figs := figs) (ns := (List.range t).map (numT sc)) (ps := (List.range t).map fun t => pathN figs (numT sc t)) (ms := (List.range t).map fun t => maskN figs (numT sc t)) (t := t) hJG D hfl hfd (row := rowT sc t) (by omega) (fun e he => h2 e (dropW_mem he)) (dropW_head _)
    (by rw [List.length_map, List.length_range]; omega) (by rw [List.length_map, List.length_range]; omega) (by rw [List.length_map, List.length_range]; omega) (hpath t ht)
  rw [show (0 : Int) + (t : Int) = t by omega]
  have hput : put (lawN (.list (sc.map V.int)) figs (numT sc) t) "turn" (.val (.int t)) = lawR (.list (sc.map V.int)) figs ((List.range t).map (numT sc)) ((List.range t).map fun t => pathN figs (numT sc t)) ((List.range t).map fun t => maskN figs (numT sc t)) ++ ([("turn", .val (.int t))] : Rho) := by
    unfold lawN lawR
    simp only [List.cons_append, List.nil_append]
    exact Put.eq (by walk_at "m:put")
  rw [hput]
  refine exA_cons hr.toA (exA_cons (stA_while hw) (Ex.toA ?_))
  have he : lawN (.list (sc.map V.int)) figs (numT sc) (t + 1) = lawR (.list (sc.map V.int)) figs ((List.range t).map (numT sc) ++ [numT sc t]) (((List.range t).map fun t => pathN figs (numT sc t)) ++ [pathN figs (numT sc t)]) (((List.range t).map fun t => maskN figs (numT sc t)) ++ [maskN figs (numT sc t)]) := by
    unfold lawN
    rw [List.range_succ, List.map_append, List.map_append, List.map_append]; rfl
  rw [he]
  exact hl
end
end Mine

end
section
set_option Elab.async false
set_option maxRecDepth 100000

namespace Mine
/-- what is asked of three numbers, in plain words -/
structure Asks (figs : List Nat) (N : Nat → Nat) : Prop where
  lt : ∀ t, t < 3 → N t < 64
  coll : ∀ i j, i < 3 → j < 3 → b2i (decide (pathN figs (N j) < pathN figs (N i))) - b2i (decide (pathN figs (N i) < pathN figs (N j))) = b2i (decide (N i < N j)) - b2i (decide (N j < N i))
  takes : ∀ i j, i < 3 → j < 3 → takesOf ((maskN figs (N j)).foldl pieceStep [[]]) (pathN figs (N i)) = decide (N i &&& N j = N j)
  comm : ∀ (a : Nat) (r : List Nat), a < 3 → (∀ x ∈ r, x < 3) → r.length ≤ 2 → lcpOk (minOf (comps (pathN figs (N a))) (r.map fun t => comps (pathN figs (N t)))) (maxOf (comps (pathN figs (N a))) (r.map fun t => comps (pathN figs (N t)))) ∧
    [47] ++ joinOf (lcp (minOf (comps (pathN figs (N a))) (r.map fun t => comps (pathN figs (N t)))) (maxOf (comps (pathN figs (N a))) (r.map fun t => comps (pathN figs (N t))))) = sharedOf figs ((a :: r).map N)
theorem maskStep_facts (p : List Nat) : ∀ xs : List (Option (List Nat)), (∀ a, some a ∈ xs → a.length ≤ 1) → (p.foldl maskStep xs).length ≤ xs.length + p.length ∧ ∀ a, some a ∈ p.foldl maskStep xs → a.length ≤ 1 := by
  induction p with
  | nil => intro xs h; exact ⟨by simp, h⟩
  | cons c r ih =>
    intro xs h
    rw [List.foldl_cons]
    have h1 : (maskStep xs c).length ≤ xs.length + 1 ∧ ∀ a, some a ∈ maskStep xs c → a.length ≤ 1 := by
      unfold maskStep
      split
      · split
        · exact ⟨by omega, h⟩
        · refine ⟨by simp, fun a ha => ?_⟩
          rcases List.mem_append.mp ha with q | q
          · exact h a q
          · simp at q
      · refine ⟨by simp, fun a ha => ?_⟩
        rcases List.mem_append.mp ha with q | q
        · exact h a q
        · simp at q; subst q; simp
    obtain ⟨h2, h3⟩ := ih _ h1.2
    exact ⟨by rw [List.length_cons]; omega, h3⟩
theorem pathN_len (figs : List Nat) (n : Nat) : (pathN figs n).length ≤ 13 := spellTo_len figs n [] (by simp) 6
theorem maskN_facts (figs : List Nat) (n : Nat) : (maskN figs n).length ≤ 13 ∧ ∀ a, some a ∈ maskN figs n → a.length ≤ 1 := by
  have h := maskStep_facts (spellTo figs n [42] 6) [] (fun a h => by cases h)
  have h2 := spellTo_len figs n [42] (by simp) 6
  refine ⟨?_, h.2⟩
  have := h.1
  simp only [List.length_nil] at this
  unfold maskN; omega
section
variable {C : Cfg} {d : Nat} {J : Js} {T : Scope} {ρ : Rho}
theorem ev_mut {y : Str} {p pos : Pos} {i : Expr} {xs : List V} {k : Nat} {v : V} (hy : At ρ y (.mut xs)) (h₂ : Ev C d J T ρ i (.int k)) (hx : xs[k]? = some v) (hn : xs.length ≤ 10) (hd : ((y == ("__debug__" : Str)) || (y == ("__classdict__" : Str))) = false)
    (hs : ∀ o y, subscripted i false o y = operate [o, y] (getItem o y) := by intro _ _; with_unfolding_all rfl) : Ev C d J T ρ (.Subscript (.Name y p) i pos) v :=
  ev_itemM k (.inl hy.eq) h₂ (.inl ⟨by omega, by omega⟩) hx (by rw [sizeLine_eq]; omega) hd hs
theorem ev_rdl {y : Str} {p pos : Pos} {i : Expr} {xs : List V} {k : Nat} {v : V} (hy : At ρ y (.rd xs)) (h₂ : Ev C d J T ρ i (.int k)) (hx : xs[k]? = some v) (hn : xs.length ≤ 10) (hd : ((y == ("__debug__" : Str)) || (y == ("__classdict__" : Str))) = false)
    (hs : ∀ o y, subscripted i false o y = operate [o, y] (getItem o y) := by intro _ _; with_unfolding_all rfl) : Ev C d J T ρ (.Subscript (.Name y p) i pos) v :=
  ev_itemM k (.inr hy.eq) h₂ (.inl ⟨by omega, by omega⟩) hx (by rw [sizeLine_eq]; omega) hd hs
end
section
variable {C : Cfg} {d : Nat} {J : Js} {sv : V} {figs : List Nat} {N : Nat → Nat}
theorem at3 {α : Type} (f : Nat → α) (i : Nat) (h : i < 3) : ((List.range 3).map f)[i]? = some (f i) := by
  rw [List.getElem?_map, List.getElem?_range h]; rfl
noncomputable def pairS : List Stmt := bodyOf (nth (bodyOf (nth (rec 33).body 7)) 0)
noncomputable def pairR (sv : V) (figs : List Nat) (nv pv' mv : List V) (i j : Nat) : Rho :=
  [("script", .val sv), ("figures", .val (.str figs)), ("tails", .val tailsV), ("numbers", .mut nv), ("paths", .mut pv'), ("masks", .mut mv), ("one", .val (.int i)), ("other", .val (.int j))]
theorem law_pair {f3 f5 f9 f11 f20 f24 f25 f26 f28 f29 f30 f31 f32 : Addr} {tc : Tok} (D : Defs C f3 f5 f9 f11 f20 f24 f25 f26 f28 f29 f30 f31 f32 tc) (Q : Asks figs N) {nv pv' mv : List V} (hnl : nv.length ≤ 10) (hpl : pv'.length ≤ 10) (hml : mv.length ≤ 10) {i j : Nat} (hi : i < 3) (hj : j < 3)
    (hni : nv[i]? = some (.int (N i))) (hnj : nv[j]? = some (.int (N j))) (hpi : pv'[i]? = some (.str (pathN figs (N i)))) (hpj : pv'[j]? = some (.str (pathN figs (N j)))) (hmj : mv[j]? = some (.list ((maskN figs (N j)).map pv))) :
    Ex C (d + 6) J (rec 33).scope (pairR sv figs nv pv' mv i j) pairS (.next [("script", .val sv), ("figures", .val (.str figs)), ("tails", .val tailsV), ("numbers", .mut nv), ("paths", .mut pv'), ("masks", .mut mv), ("one", .val (.int i))]) := by
  have g3 := D.h3.g
  have r3 := D.h3.r
  have g32 := D.h32.g
  have r32 := D.h32.r
  have hcoll := Q.coll i j hi hj
  have htake := Q.takes i j hi hj
  obtain ⟨hm1, hm2⟩ := maskN_facts figs (N j)
  have hp1 := pathN_len figs (N i)
  have k3 : Fn C (d + 6) J f3 [.str (pathN figs (N i)), .str (pathN figs (N j))] (.int (b2i (decide (pathN figs (N j) < pathN figs (N i))) - b2i (decide (pathN figs (N i) < pathN figs (N j))))) := fn_strcoll (d := d + 5) D.h3
  have k32 : Fn C (d + 6) J f32 [.list ((maskN figs (N j)).map pv), .str (pathN figs (N i))] (.bool (takesOf ((maskN figs (N j)).foldl pieceStep [[]]) (pathN figs (N i)))) := fn_takes (d := d + 5) D.h32 (by omega) (fun a ha => by have := hm2 a ha; omega) (by omega) D.B.len
  rw [hcoll] at k3
  rw [htake] at k32
  generalize pathN figs (N i) = pi at *
  generalize pathN figs (N j) = pj at *
  generalize (maskN figs (N j)).map pv = mj at *
  clear hcoll htake hm1 hm2 Q
  unfold pairR
  refine ex_cons (st_set (v := .int (b2i (decide (N i < N j)) - b2i (decide (N j < N i)))) (Ev.cast (ev_bin (ev_cmp (ev_mut (by walk_at "m:at") (by walk_at "m:ev") hni hnl (by decide +kernel)) (ev_mut (by walk_at "m:at") (by walk_at "m:ev") hnj hnl (by decide +kernel)) cmp_ltI) (ev_cmp (ev_mut (by walk_at "m:at") (by walk_at "m:ev") hni hnl (by decide +kernel)) (ev_mut (by walk_at "m:at") (by walk_at "m:ev") hnj hnl (by decide +kernel)) cmp_gtI) bin_subB) ?_) (by walk_at "m:put") (by walk_at "m:loc") (by walk_at "m:noapp")) ?_
  · congr 1
    rw [show decide ((N i : Int) < (N j : Int)) = decide (N i < N j) from decide_eq_decide.mpr (by omega), show decide ((N j : Int) < (N i : Int)) = decide (N j < N i) from decide_eq_decide.mpr (by omega)]
  refine ex_cons (st_if (r := false) (Tst.cast (tst_cmp (a := .int (b2i (decide (N i < N j)) - b2i (decide (N j < N i)))) ?_ (by walk_at "m:ev") cmp_neI) (by simp)) (fun e => absurd e (by decide)) fun _ => ex_nil) ?_
  · with_reducible refine' ev_call ?k1 ?k2 ?k3 k3
    case k1 => walk_at "m:glob"
    case k2 => assumption
    case k3 => exact eva_cons (ev_mut (by walk_at "m:at") (by walk_at "m:ev") hpi hpl (by decide +kernel)) (eva_cons (ev_mut (by walk_at "m:at") (by walk_at "m:ev") hpj hpl (by decide +kernel)) eva_nil)
  refine ex_cons (st_set (v := .bool (decide (N i &&& N j = N j))) (Ev.cast (ev_cmp (ev_bin (ev_mut (by walk_at "m:at") (by walk_at "m:ev") hni hnl (by decide +kernel)) (ev_mut (by walk_at "m:at") (by walk_at "m:ev") hnj hnl (by decide +kernel)) bin_and) (ev_mut (by walk_at "m:at") (by walk_at "m:ev") hnj hnl (by decide +kernel)) cmp_eqI) ?_) (by walk_at "m:put") (by walk_at "m:loc") (by walk_at "m:noapp")) ?_
  · rw [bitAnd_nat]
    congr 1
    rw [Bool.eq_iff_iff]
    simp only [beq_iff_eq, decide_eq_true_eq]
    omega
  refine ex_cons (st_if (r := false) (Tst.cast (tst_cmp (a := .bool (decide (N i &&& N j = N j))) ?_ (by walk_at "m:ev") cmp_neB) (by simp)) (fun e => absurd e (by decide)) fun _ => ex_nil) ?_
  · with_reducible refine' ev_call ?k1 ?k2 ?k3 k32
    case k1 => walk_at "m:glob"
    case k2 => assumption
    case k3 => exact eva_cons (ev_mut (by walk_at "m:at") (by walk_at "m:ev") hmj hml (by decide +kernel)) (eva_cons (ev_mut (by walk_at "m:at") (by walk_at "m:ev") hpi hpl (by decide +kernel)) eva_nil)
  walk_at "m:end"
end
end Mine

end
section
set_option Elab.async false
set_option maxRecDepth 100000

namespace Mine
section
variable {C : Cfg} {d : Nat} {J : Js} {sv : V} {figs : List Nat} {N : Nat → Nat}
theorem law_second {f3 f5 f9 f11 f20 f24 f25 f26 f28 f29 f30 f31 f32 : Addr} {tc : Tok} (D : Defs C f3 f5 f9 f11 f20 f24 f25 f26 f28 f29 f30 f31 f32 tc) (Q : Asks figs N) :
    Ex1 C (d + 6) J (rec 33).scope (lawN sv figs N 3) (nth (rec 33).body 7) (.next (lawN sv figs N 3)) := by
  have brange := D.B.range
  have hn : ∀ i, i < 3 → (((List.range 3).map N).map fun n : Nat => V.int n)[i]? = some (.int (N i)) := fun i hi => by rw [List.getElem?_map, at3 N i hi]; rfl
  have hp : ∀ i, i < 3 → (((List.range 3).map fun t => pathN figs (N t)).map V.str)[i]? = some (.str (pathN figs (N i))) := fun i hi => by rw [List.getElem?_map, at3 _ i hi]; rfl
  have hm : ∀ i, i < 3 → (((List.range 3).map fun t => maskN figs (N t)).map fun p => V.list (p.map pv))[i]? = some (.list ((maskN figs (N i)).map pv)) := fun i hi => by rw [List.getElem?_map, at3 _ i hi]; rfl
  have hnl : (((List.range 3).map N).map fun n : Nat => V.int n).length ≤ 10 := by rw [List.length_map, List.length_map, List.length_range]; omega
  have hpl : (((List.range 3).map fun t => pathN figs (N t)).map V.str).length ≤ 10 := by rw [List.length_map, List.length_map, List.length_range]; omega
  have hml : (((List.range 3).map fun t => maskN figs (N t)).map fun p => V.list (p.map pv)).length ≤ 10 := by rw [List.length_map, List.length_map, List.length_range]; omega
  unfold lawN lawR
  generalize (((List.range 3).map N).map fun n : Nat => V.int n) = nv at *
  generalize (((List.range 3).map fun t => pathN figs (N t)).map V.str) = pv' at *
  generalize (((List.range 3).map fun t => maskN figs (N t)).map fun p => V.list (p.map pv)) = mv at *
  refine st_forA (fun _ => [("script", .val sv), ("figures", .val (.str figs)), ("tails", .val tailsV), ("numbers", .mut nv), ("paths", .mut pv'), ("masks", .mut mv)]) (src_range (a := 0) (b := 3) (n := 3) (by walk_at "m:call") (.inl (by decide)) (small_ok (by decide) (by decide) (by decide) (by decide))) (by walk_at "m:sub") (by walk_at "m:loc") (fun i _ => by walk_at "m:noapp") (fun i hi => ?_) (by intro _ _; with_unfolding_all rfl)
  rw [show (0 : Int) + (i : Int) = i by omega, Put.eq (by walk_at "m:put")]
  refine ex_cons (st_forA (fun _ => [("script", .val sv), ("figures", .val (.str figs)), ("tails", .val tailsV), ("numbers", .mut nv), ("paths", .mut pv'), ("masks", .mut mv), ("one", .val (.int i))]) (src_range (a := 0) (b := 3) (n := 3) (by walk_at "m:call") (.inl (by decide)) (small_ok (by decide) (by decide) (by decide) (by decide))) (by walk_at "m:sub") (by walk_at "m:loc") (fun i _ => by walk_at "m:noapp") (fun j hj => ?_) (by intro _ _; with_unfolding_all rfl)) (by walk_at "m:end")
  rw [show (0 : Int) + (j : Int) = j by omega, Put.eq (by walk_at "m:put")]
  exact law_pair D Q hnl hpl hml hi hj (hn i hi) (hn j hj) (hp i hi) (hp j hj) (hm j hj)
end
end Mine

end
section
set_option Elab.async false
set_option maxRecDepth 100000

namespace Mine
theorem starts_cons (c : Nat) (q : List Nat) : Txt.startswith (S (c :: q)) (S [c]) = true := by
  unfold Txt.startswith
  rw [S_len, S_len, Bool.and_eq_true]
  refine ⟨by simp, ?_⟩
  unfold subAt
  rw [S_len]
  simp [S]
theorem spellTo_cons (l : List Nat) (b : Nat) (m : List Nat) : ∀ n, ∃ q, spellTo l b m n = 47 :: q
  | 0 => ⟨[], rfl⟩
  | n + 1 => by
    obtain ⟨q, e⟩ := spellTo_cons l b m n
    unfold spellTo
    rw [e]
    exact ⟨_, rfl⟩
section
variable {C : Cfg} {d : Nat} {J : Js} {sv : V} {figs : List Nat} {N : Nat → Nat}
noncomputable def choiceS : List Stmt := bodyOf (nth (rec 33).body 8)
noncomputable def choices : List V := [.list [.int 0, .int 1], .list [.int 0, .int 2], .list [.int 1, .int 2], .list [.int 0, .int 1, .int 2]]
theorem src_choices {ρ : Rho} {T : Scope} {e : Expr} {d : Nat} (h : Ev C d J T ρ e (.list choices)) : Src C d J T ρ e choices.length (fun i => choices.getD i .none) := src_list h
theorem st_forC {ρ : Rho} {T : Scope} {d : Nat} {y : Str} {p pos : Pos} {e : Expr} {body : List Stmt} {n : Nat} {vs : Nat → V} (h : Src C d J T ρ e n vs) (hy : T.names.lookup y = some .local ∨ T.names.lookup y = some .cell) (hna : NoApp ρ y)
    (turn : ∀ i, i < n → Ex C d J T (put ρ y (.val (vs i))) body (.next ρ)) (hs : ∀ env x, foldedSetIterable e env x = pure x) (h0 : Sub ρ ρ) : Ex1 C d J T ρ (.For (.Name y p) e body [] pos) (.next ρ) := st_forA (fun _ => ρ) h h0 hy (fun _ _ => hna) turn hs
theorem choices_len : choices.length = 4 := by rfl
noncomputable def choicesE : Expr := .List [.List [.Constant (.int 0) 0 ⟨299, 20, 299, 21⟩, .Constant (.int 1) 0 ⟨299, 23, 299, 24⟩] ⟨299, 19, 299, 25⟩, .List [.Constant (.int 0) 0 ⟨299, 28, 299, 29⟩, .Constant (.int 2) 0 ⟨299, 31, 299, 32⟩] ⟨299, 27, 299, 33⟩, .List [.Constant (.int 1) 0 ⟨299, 36, 299, 37⟩, .Constant (.int 2) 0 ⟨299, 39, 299, 40⟩] ⟨299, 35, 299, 41⟩, .List [.Constant (.int 0) 0 ⟨299, 44, 299, 45⟩, .Constant (.int 1) 0 ⟨299, 47, 299, 48⟩, .Constant (.int 2) 0 ⟨299, 50, 299, 51⟩] ⟨299, 43, 299, 52⟩] ⟨299, 18, 299, 53⟩
theorem ev_choices {ρ : Rho} : Ev C d J (rec 33).scope ρ choicesE (.list choices) := by
  unfold choicesE choices
  walk_at "m:ev"
theorem third_eq : nth (rec 33).body 8 = .For (.Name "choice" ⟨299, 8, 299, 14⟩) choicesE choiceS [] ⟨299, 4, 302, 24⟩ := by rfl
theorem choices_fold (env : Env) (x : Value) : foldedSetIterable choicesE env x = pure x := by rfl
theorem Fn.cast {f : Addr} {as as' : List V} {v v' : V} (h : Fn C d J f as v) (e1 : as = as') (e2 : v = v') : Fn C d J f as' v' := by subst e1; subst e2; exact h
set_option maxHeartbeats 2000000 in
theorem law_choice {f3 f5 f9 f11 f20 f24 f25 f26 f28 f29 f30 f31 f32 : Addr} {tc : Tok} (D : Defs C f3 f5 f9 f11 f20 f24 f25 f26 f28 f29 f30 f31 f32 tc) (Q : Asks figs N) (hfl : figs.length = 6) {nv pv' mv : List V} (hnl : nv.length ≤ 10) (hpl : pv'.length ≤ 10)
    (hn : ∀ i, i < 3 → nv[i]? = some (.int (N i))) (hp : ∀ i, i < 3 → pv'[i]? = some (.str (pathN figs (N i)))) (a : Nat) (r : List Nat) (ha : a < 3) (hr : ∀ x ∈ r, x < 3) (hrl : r.length ≤ 2) :
    Ex C (d + 6) J (rec 33).scope [("script", .val sv), ("figures", .val (.str figs)), ("tails", .val tailsV), ("numbers", .mut nv), ("paths", .mut pv'), ("masks", .mut mv), ("choice", .val (vI (a :: r)))] choiceS
      (.next [("script", .val sv), ("figures", .val (.str figs)), ("tails", .val tailsV), ("numbers", .mut nv), ("paths", .mut pv'), ("masks", .mut mv)]) := by
  have g26 := D.h26.g
  have r26 := D.h26.r
  have g31 := D.h31.g
  have r31 := D.h31.r
  obtain ⟨q1, q2⟩ := Q.comm a r ha hr hrl
  have hall : ∀ x ∈ a :: r, x < 3 := fun x hx => by
    rcases List.mem_cons.mp hx with e | e
    · rw [e]; exact ha
    · exact hr x e
  have eC : (r.map fun t => pathN figs (N t)).map comps = r.map fun t => comps (pathN figs (N t)) := by rw [List.map_map]; rfl
  have k26 : Fn C (d + 6) J f26 [.list ((a :: r).map fun t => V.str (pathN figs (N t)))] (.str (sharedOf figs ((a :: r).map N))) := by
    have h := fn_comm (d := d) (J := J) (C := C) (p₀ := pathN figs (N a)) (pr := r.map fun t => pathN figs (N t)) D.h20 D.h26 D.B (by rw [List.length_map]; omega) (fun p hp => by
      have : ∃ t, p = pathN figs (N t) := by
        rcases List.mem_cons.mp hp with e | e
        · exact ⟨a, e⟩
        · obtain ⟨t, _, e⟩ := List.mem_map.mp e; exact ⟨t, e.symm⟩
      obtain ⟨t, rfl⟩ := this
      refine ⟨by have := pathN_len figs (N t); omega, ?_⟩
      obtain ⟨q, e⟩ := spellTo_cons figs (N t) [] 6
      unfold pathN; rw [e]; exact starts_cons 47 q) (by rw [eC]; exact q1)
    refine Fn.cast h ?_ ?_
    · rw [List.map_cons, List.map_map]; rfl
    · rw [eC, q2]
  have k31 : Fn C (d + 6) J f31 [.str figs, .list (((a :: r).map N).map fun x : Nat => V.int x)] (.str (sharedOf figs ((a :: r).map N))) :=
    fn_shared (d := d + 4) (n0 := N a) D.h30 D.h31 (by omega) rfl (fun x hx => by obtain ⟨t, ht, rfl⟩ := List.mem_map.mp hx; exact Q.lt t (hall t ht)) (by rw [List.length_map, List.length_cons]; omega) D.B.len D.B.range
  clear q1 q2
  generalize sharedOf figs ((a :: r).map N) = R at *
  have hcl : (a :: r).length ≤ 3 := by rw [List.length_cons]; omega
  clear ha hr hrl
  generalize a :: r = ch at *
  have eP := range_mapG 0 (fun t => V.str (pathN figs (N t))) ch
  have eN := range_mapG 0 (fun t => V.int (N t)) ch
  rw [List.map_map, show ((fun x : Nat => V.int x) ∘ N) = fun t => V.int (N t) from rfl] at k31
  have hget : ∀ i, i < ch.length → (ch.map fun e : Nat => V.int e).getD i .none = .int (ch.getD i 0) ∧ ch.getD i 0 < 3 := fun i hi => ⟨by simp [List.getD, hi], by
    have : ch.getD i 0 ∈ ch := by simp [List.getD, hi]
    exact hall _ this⟩
  unfold vI
  refine ex_cons (st_set (v := .str R) ?_ (by walk_at "m:put") (by walk_at "m:loc") (by walk_at "m:noapp")) ?_
  · with_reducible refine' ev_call ?k1 ?k2 ?k3 k26
    case k1 => walk_at "m:glob"
    case k2 => assumption
    case k3 =>
      with_reducible refine' eva_cons ?w1 ?w2
      case w1 =>
        refine Ev.cast (ev_compF [("paths", .rd pv')] (fun _ => true) (fun i => .str (pathN figs (N (ch.getD i 0)))) (by decide +kernel) (src_list (xs := ch.map fun e : Nat => V.int e) (by walk_at "m:ev")) (by rw [List.length_map, sizeLine_eq]; omega) (by walk_at "m:compr") (by walk_at "m:noapp") (fun i hi => tss_nil) (fun i hi _ => ?_)) ?_
        · have hi' : i < ch.length := by simpa using hi
          obtain ⟨h1, h2⟩ := hget i hi'
          rw [Put.eq (by walk_at "m:put"), h1]
          exact ev_rdl (by walk_at "m:at") (by walk_at "m:ev") (hp _ h2) hpl (by decide +kernel)
        · rw [List.length_map, eP]
      case w2 => walk_at "m:eva"
  refine ex_cons (st_if (r := false) (Tst.cast (tst_cmp (b := .str R) (by walk_at "m:ev") ?_ cmp_neS) (by simp)) (fun e => absurd e (by decide)) fun _ => ex_nil) ?_
  · with_reducible refine' ev_call ?k1 ?k2 ?k3 k31
    case k1 => walk_at "m:glob"
    case k2 => assumption
    case k3 =>
      with_reducible refine' eva_cons ?w0 ?w3
      case w0 => walk_at "m:ev"
      case w3 =>
        with_reducible refine' eva_cons ?w1 ?w2
        case w1 =>
          refine Ev.cast (ev_compF [("numbers", .rd nv)] (fun _ => true) (fun i => .int (N (ch.getD i 0))) (by decide +kernel) (src_list (xs := ch.map fun e : Nat => V.int e) (by walk_at "m:ev")) (by rw [List.length_map, sizeLine_eq]; omega) (by walk_at "m:compr") (by walk_at "m:noapp") (fun i hi => tss_nil) (fun i hi _ => ?_)) ?_
          · have hi' : i < ch.length := by simpa using hi
            obtain ⟨h1, h2⟩ := hget i hi'
            rw [Put.eq (by walk_at "m:put"), h1]
            exact ev_rdl (by walk_at "m:at") (by walk_at "m:ev") (hn _ h2) hnl (by decide +kernel)
          · rw [List.length_map, eN]
        case w2 => walk_at "m:eva"
  walk_at "m:end"
set_option maxHeartbeats 2000000 in
theorem law_third {f3 f5 f9 f11 f20 f24 f25 f26 f28 f29 f30 f31 f32 : Addr} {tc : Tok} (D : Defs C f3 f5 f9 f11 f20 f24 f25 f26 f28 f29 f30 f31 f32 tc) (Q : Asks figs N) (hfl : figs.length = 6) :
    Ex1 C (d + 6) J (rec 33).scope (lawN sv figs N 3) (nth (rec 33).body 8) (.next (lawN sv figs N 3)) := by
  have hn : ∀ i, i < 3 → (((List.range 3).map N).map fun n : Nat => V.int n)[i]? = some (.int (N i)) := fun i hi => by rw [List.getElem?_map, at3 N i hi]; rfl
  have hp : ∀ i, i < 3 → (((List.range 3).map fun t => pathN figs (N t)).map V.str)[i]? = some (.str (pathN figs (N i))) := fun i hi => by rw [List.getElem?_map, at3 _ i hi]; rfl
  have hnl : (((List.range 3).map N).map fun n : Nat => V.int n).length ≤ 10 := by rw [List.length_map, List.length_map, List.length_range]; omega
  have hpl : (((List.range 3).map fun t => pathN figs (N t)).map V.str).length ≤ 10 := by rw [List.length_map, List.length_map, List.length_range]; omega
  unfold lawN lawR
  generalize (((List.range 3).map N).map fun n : Nat => V.int n) = nv at *
  generalize (((List.range 3).map fun t => pathN figs (N t)).map V.str) = pv' at *
  generalize (((List.range 3).map fun t => maskN figs (N t)).map fun p => V.list (p.map pv)) = mv at *
  rw [third_eq]
  with_reducible refine st_forC (src_choices ev_choices) ?_ ?_ (fun i hi => ?_) choices_fold ?_
  · walk_at "m:loc"
  · walk_at "m:noapp"
  rotate_left
  · walk_at "m:sub"
  rw [Put.eq (by walk_at "m:put")]
  have hc := law_choice (C := C) (d := d) (J := J) (sv := sv) (mv := mv) D Q hfl hnl hpl hn hp
  have hi4 : i = 0 ∨ i = 1 ∨ i = 2 ∨ i = 3 := by rw [choices_len] at hi; omega
  rcases hi4 with rfl | rfl | rfl | rfl
  · exact hc 0 [1] (by decide) (by decide) (by decide)
  · exact hc 0 [2] (by decide) (by decide) (by decide)
  · exact hc 1 [2] (by decide) (by decide) (by decide)
  · exact hc 0 [1, 2] (by decide) (by decide) (by decide)
end
end Mine

end
section
set_option Elab.async false
set_option maxRecDepth 100000

namespace Mine
section
variable {C : Cfg} {d : Nat} {J : Js}
theorem law_figs2 (B : Blts C) {sv : V} {sc : List Int} : Ex1 C d J (rec 33).scope [("script", .val sv), ("figures", .val (.str (figs0 sc)))] (nth (rec 33).body 1) (.next [("script", .val sv), ("figures", .val (.str (figsOf sc)))]) := by
  have blen := B.len
  have hl := figs0_len sc
  unfold figsOf
  generalize figs0 sc = f0 at *
  refine st_set (v := .str (f0 ++ [50, 55, 51, 49, 48, 53].drop f0.length)) (Ev.cast (ev_bin (by walk_at "m:ev") (ev_sliceS (by walk_at "m:ev") (by walk_at "m:evp") (by walk_at "m:evp") (by rw [sizeLine_eq]; simp)) (bin_addS ?_)) ?_) (by walk_at "m:put") (by walk_at "m:loc") (by walk_at "m:noapp")
  · rw [cut_from _ _ (by simpa using hl), sizeLine_eq, List.length_drop]; simp; omega
  · rw [cut_from _ _ (by simpa using hl)]
noncomputable def preR (sv : V) (figs : List Nat) : Rho := [("script", .val sv), ("figures", .val (.str figs)), ("tails", .val tailsV)]
noncomputable def tailsE : Expr := .List [.List [.Constant (.int 2) 0 ⟨271, 14, 271, 15⟩, .Constant (.int 0) 0 ⟨271, 17, 271, 18⟩] ⟨271, 13, 271, 19⟩, .List [.Constant (.int 1) 0 ⟨271, 22, 271, 23⟩, .Constant (.int 3) 0 ⟨271, 25, 271, 26⟩] ⟨271, 21, 271, 27⟩,
  .List [.Constant (.int 3) 0 ⟨271, 30, 271, 31⟩, .Constant (.int 1) 0 ⟨271, 33, 271, 34⟩, .Constant (.int 127) 0 ⟨271, 36, 271, 39⟩, .Constant (.int 2) 0 ⟨271, 41, 271, 42⟩] ⟨271, 29, 271, 43⟩] ⟨271, 12, 271, 44⟩
theorem tails_eq : nth (rec 33).body 2 = .Assign [.Name "tails" ⟨271, 4, 271, 9⟩] tailsE ⟨271, 4, 271, 44⟩ := by rfl
theorem ev_tails {T : Scope} {ρ : Rho} : Ev C d J T ρ tailsE tailsV := by
  unfold tailsE tailsV
  walk_at "m:ev"
theorem tails_swap (env : Env) : swapsWith tailsE (some (.Name "tails" ⟨271, 4, 271, 9⟩)) 271 env = pure false := by unfold tailsE; with_unfolding_all rfl
theorem law_tails {sv : V} {figs : List Nat} : Ex1 C d J (rec 33).scope [("script", .val sv), ("figures", .val (.str figs))] (nth (rec 33).body 2) (.next (preR sv figs)) := by
  rw [tails_eq]
  unfold preR
  with_reducible refine' st_set ev_tails ?h2 ?h3 ?h4 tails_swap
  case h2 => walk_at "m:put"
  case h3 => walk_at "m:loc"
  case h4 => walk_at "m:noapp"
theorem list10 : ∀ (l : List Stmt), l.length = 10 → l = [nth l 0, nth l 1, nth l 2, nth l 3, nth l 4, nth l 5, nth l 6, nth l 7, nth l 8, nth l 9]
  | [_, _, _, _, _, _, _, _, _, _], _ => rfl
theorem body_eq : (rec 33).body = [nth (rec 33).body 0, nth (rec 33).body 1, nth (rec 33).body 2, nth (rec 33).body 3, nth (rec 33).body 4, nth (rec 33).body 5, nth (rec 33).body 6, nth (rec 33).body 7, nth (rec 33).body 8, nth (rec 33).body 9] := list10 _ (by decide +kernel)
theorem ret_eq : nth (rec 33).body 9 = .Return (some (.Constant (.bool true) 0 ⟨303, 11, 303, 15⟩)) ⟨303, 4, 303, 15⟩ := by rfl
theorem lists_eq : nth (rec 33).body 3 = .Assign [.Name "numbers" ⟨272, 4, 272, 11⟩] (.List [] ⟨272, 14, 272, 16⟩) ⟨272, 4, 272, 16⟩ ∧ nth (rec 33).body 4 = .Assign [.Name "paths" ⟨273, 4, 273, 9⟩] (.List [] ⟨273, 12, 273, 14⟩) ⟨273, 4, 273, 14⟩ ∧ nth (rec 33).body 5 = .Assign [.Name "masks" ⟨274, 4, 274, 9⟩] (.List [] ⟨274, 12, 274, 14⟩) ⟨274, 4, 274, 14⟩ := ⟨by rfl, by rfl, by rfl⟩
theorem law_l3 {sv : V} {figs : List Nat} : Ex1 C d J (rec 33).scope (preR sv figs) (nth (rec 33).body 3) (.next (preR sv figs ++ [(("numbers" : Str), .mut [])])) := by
  rw [lists_eq.1]
  unfold preR
  simp only [List.cons_append, List.nil_append]
  with_reducible refine' st_fresh ?p1 ?p2 ?p3
  case p1 => walk_at "m:put"
  case p2 => walk_at "m:loc"
  case p3 => walk_at "m:noapp"
theorem law_l4 {sv : V} {figs : List Nat} : Ex1 C d J (rec 33).scope (preR sv figs ++ [(("numbers" : Str), .mut [])]) (nth (rec 33).body 4) (.next (preR sv figs ++ [(("numbers" : Str), .mut []), (("paths" : Str), .mut [])])) := by
  rw [lists_eq.2.1]
  unfold preR
  simp only [List.cons_append, List.nil_append]
  with_reducible refine' st_fresh ?p1 ?p2 ?p3
  case p1 => walk_at "m:put"
  case p2 => walk_at "m:loc"
  case p3 => walk_at "m:noapp"
theorem law_l5 {sv : V} {figs : List Nat} {N : Nat → Nat} : Ex1 C d J (rec 33).scope (preR sv figs ++ [(("numbers" : Str), .mut []), (("paths" : Str), .mut [])]) (nth (rec 33).body 5) (.next (lawN sv figs N 0)) := by
  rw [lists_eq.2.2]
  have e : lawN sv figs N 0 = preR sv figs ++ [(("numbers" : Str), .mut []), (("paths" : Str), .mut []), (("masks" : Str), .mut [])] := rfl
  rw [e]
  unfold preR
  simp only [List.cons_append, List.nil_append]
  with_reducible refine' st_fresh ?p1 ?p2 ?p3
  case p1 => walk_at "m:put"
  case p2 => walk_at "m:loc"
  case p3 => walk_at "m:noapp"
theorem law_l9 {ρ : Rho} : Ex1 C d J (rec 33).scope ρ (nth (rec 33).body 9) (.ret (.bool true)) := by
  rw [ret_eq]
  exact st_return ev_bool
theorem exA_ret {T : Scope} {ρ : Rho} {st : Stmt} {rest : List Stmt} {v : V} (h₁ : Ex1 C d J T ρ st (.ret v)) : ExA C d J T ρ (st :: rest) (.ret v) := (ex_ret h₁).toA
theorem law_glue {T : Scope} {ρ0 ρ1 ρ2 ρ3 ρ4 ρ5 ρ6 ρ7 ρ8 ρ9 : Rho} {b0 b1 b2 b3 b4 b5 b6 b7 b8 b9 : Stmt} {v : V} (h0 : Ex1 C d J T ρ0 b0 (.next ρ1)) (h1 : Ex1 C d J T ρ1 b1 (.next ρ2)) (h2 : Ex1 C d J T ρ2 b2 (.next ρ3)) (h3 : Ex1 C d J T ρ3 b3 (.next ρ4)) (h4 : Ex1 C d J T ρ4 b4 (.next ρ5)) (h5 : Ex1 C d J T ρ5 b5 (.next ρ6))
    (h6 : ExA1 C d J T ρ6 b6 (.next ρ7)) (h7 : Ex1 C d J T ρ7 b7 (.next ρ8)) (h8 : Ex1 C d J T ρ8 b8 (.next ρ9)) (h9 : Ex1 C d J T ρ9 b9 (.ret v)) : ExA C d J T ρ0 [b0, b1, b2, b3, b4, b5, b6, b7, b8, b9] (.ret v) :=
  exA_cons h0.toA (exA_cons h1.toA (exA_cons h2.toA (exA_cons h3.toA (exA_cons h4.toA (exA_cons h5.toA (exA_cons h6 (exA_cons h7.toA (exA_cons h8.toA (exA_ret h9)))))))))
theorem law_body (hJG : JGen J) {f3 f5 f9 f11 f20 f24 f25 f26 f28 f29 f30 f31 f32 : Addr} {tc : Tok} (D : Defs C f3 f5 f9 f11 f20 f24 f25 f26 f28 f29 f30 f31 f32 tc) {sc : List Int} (hsc : sc.length ≤ 63) (Q : Asks (figsOf sc) (numT sc))
    (hpath : ∀ t, t < 3 → (cutOf (figsOf sc) (rowT sc t)).foldl joinStep [47] = pathN (figsOf sc) (numT sc t)) :
    ExA C (d + 6) J (rec 33).scope [("script", .val (.list (sc.map V.int)))] (rec 33).body (.ret (.bool true)) := by
  have hfl := figsOf_len sc
  have hfd := figsOf_digit sc
  have s0 := (law_figs (C := C) (d := d + 6) (J := J) D.B hsc)
  have s1 := (law_figs2 (C := C) (d := d + 6) (J := J) (sv := .list (sc.map V.int)) (sc := sc) D.B)
  have s2 := @law_tails C (d + 6) J (.list (sc.map V.int)) (figsOf sc)
  have s6 := law_first (C := C) (d := d) (J := J) hJG D hsc hfl hfd hpath
  have s7 := law_second (C := C) (d := d) (J := J) (sv := .list (sc.map V.int)) D Q
  have s8 := @law_third C d J (.list (sc.map V.int)) (figsOf sc) (numT sc) _ _ _ _ _ _ _ _ _ _ _ _ _ _ D Q hfl
  rw [body_eq]
  with_reducible exact law_glue s0 s1 s2 law_l3 law_l4 law_l5 s6 s7 s8 law_l9
end
end Mine

end
end
section
open PySem PySem.W PySem.Spec PySem.Calls PyProof.Rows
open PySem.Builtin PySem.Builtin.Str
set_option Elab.async false
set_option maxRecDepth 100000
namespace Mine
/-- the groups of the figures: cut where a bit is set -/
noncomputable def grp : List Nat → (Nat → Bool) → List (List Nat)
  | [], _ => []
  | a :: r, b => match r with
    | [] => [[a]]
    | _ :: _ => if b r.length then [a] :: grp r b else match grp r b with
      | [] => [[a]]
      | g :: gs => (a :: g) :: gs
/-- the figures spelled -/
noncomputable def sp : List Nat → (Nat → Bool) → List Nat → List Nat
  | [], _, _ => []
  | a :: r, b, m => a :: (match r with
    | [] => []
    | _ :: _ => (if b r.length then [47] else m) ++ sp r b m)
noncomputable def glue : List (List Nat) → List Nat
  | [] => []
  | [g] => g
  | g :: h :: r => g ++ 47 :: glue (h :: r)
theorem grp_one (a : Nat) (b : Nat → Bool) : grp [a] b = [[a]] := rfl
theorem grp_two (a c : Nat) (r : List Nat) (b : Nat → Bool) : grp (a :: c :: r) b = if b (r.length + 1) then [a] :: grp (c :: r) b else match grp (c :: r) b with | [] => [[a]] | g :: gs => (a :: g) :: gs := rfl
theorem sp_one (a : Nat) (b : Nat → Bool) (m : List Nat) : sp [a] b m = [a] := rfl
theorem sp_two (a c : Nat) (r : List Nat) (b : Nat → Bool) (m : List Nat) : sp (a :: c :: r) b m = a :: ((if b (r.length + 1) then [47] else m) ++ sp (c :: r) b m) := rfl
theorem grp_cons : ∀ (a : Nat) (r : List Nat) (b : Nat → Bool), ∃ g gs, grp (a :: r) b = (a :: g) :: gs
  | a, [], b => ⟨[], [], rfl⟩
  | a, c :: r, b => by
    rw [grp_two]
    obtain ⟨g, gs, e⟩ := grp_cons c r b
    split
    · exact ⟨[], _, rfl⟩
    · rw [e]; exact ⟨c :: g, gs, rfl⟩
theorem sp_cons (a : Nat) (r : List Nat) (b : Nat → Bool) (m : List Nat) : ∃ q, sp (a :: r) b m = a :: q := ⟨_, rfl⟩
theorem glue_sp : ∀ (l : List Nat) (b : Nat → Bool), glue (grp l b) = sp l b []
  | [], _ => rfl
  | [a], _ => rfl
  | a :: c :: r, b => by
    have ih := glue_sp (c :: r) b
    rw [grp_two, sp_two]
    obtain ⟨g, gs, e⟩ := grp_cons c r b
    rw [e] at ih ⊢
    split
    · show [a] ++ 47 :: glue ((c :: g) :: gs) = _
      rw [ih]; rfl
    · cases gs with
      | nil =>
        show a :: c :: g = _
        have : c :: g = sp (c :: r) b [] := ih
        rw [this]; rfl
      | cons h gs =>
        show (a :: c :: g) ++ 47 :: glue (h :: gs) = _
        have : (c :: g) ++ 47 :: glue (h :: gs) = sp (c :: r) b [] := ih
        rw [← this]; rfl
/-- the def's own spelling -/
theorem spell_go (l : List Nat) (b : Nat) (m : List Nat) : ∀ i, i ≤ l.length → spellTo l b m i ++ sp (l.drop i) b.testBit m = 47 :: sp l b.testBit m
  | 0, _ => rfl
  | i + 1, h => by
    have ih := spell_go l b m i (by omega)
    have hi : i < l.length := by omega
    rw [List.drop_eq_getElem_cons hi] at ih
    rw [← ih]
    rw [show spellTo l b m (i + 1) = spellTo l b m i ++ [l.getD i 0] ++ (if 0 < l.length - 1 - i then (if b.testBit (l.length - 1 - i) then [47] else m) else []) from rfl]
    rw [List.append_assoc, List.append_assoc]
    congr 1
    have e1 : l.getD i 0 = l[i] := by simp [List.getD, hi]
    rw [e1]
    cases hd : l.drop (i + 1) with
    | nil =>
      have : l.length ≤ i + 1 := List.drop_eq_nil_iff.mp hd
      rw [if_neg (by omega)]; rfl
    | cons c r =>
      have hl : (l.drop (i + 1)).length = r.length + 1 := by rw [hd]; rfl
      rw [List.length_drop] at hl
      rw [if_pos (by omega), sp_two, show l.length - 1 - i = r.length + 1 by omega]
      rfl
theorem spell_sp (l : List Nat) (b : Nat) (m : List Nat) : spellTo l b m l.length = 47 :: sp l b.testBit m := by
  have := spell_go l b m l.length (Nat.le_refl _)
  rw [List.drop_length] at this
  simpa [sp] using this
theorem pathN_sp {figs : List Nat} (h : figs.length = 6) (n : Nat) : pathN figs n = 47 :: sp figs n.testBit [] := by
  unfold pathN
  have := spell_sp figs n []
  rw [h] at this; exact this
/-- a group: some figures -/
theorem grp_mem : ∀ (l : List Nat) (b : Nat → Bool), ∀ g ∈ grp l b, g ≠ [] ∧ ∀ c ∈ g, c ∈ l
  | [], _, g, h => by cases h
  | [a], _, g, h => by rw [List.mem_singleton.mp h]; exact ⟨by simp, fun c hc => hc⟩
  | a :: c :: r, b, g, h => by
    have ih := grp_mem (c :: r) b
    rw [grp_two] at h
    obtain ⟨g0, gs, e⟩ := grp_cons c r b
    split at h
    · rcases List.mem_cons.mp h with q | q
      · rw [q]; exact ⟨by simp, fun x hx => by rw [List.mem_singleton.mp hx]; exact List.mem_cons_self⟩
      · exact ⟨(ih g q).1, fun x hx => List.mem_cons_of_mem _ ((ih g q).2 x hx)⟩
    · rw [e] at h ih
      have h' : g ∈ (a :: c :: g0) :: gs := h
      rcases List.mem_cons.mp h' with q | q
      · rw [q]
        refine ⟨by simp, fun x hx => ?_⟩
        rcases List.mem_cons.mp hx with w | w
        · rw [w]; exact List.mem_cons_self
        · exact List.mem_cons_of_mem _ ((ih (c :: g0) List.mem_cons_self).2 x w)
      · exact ⟨(ih g (List.mem_cons_of_mem _ q)).1, fun x hx => List.mem_cons_of_mem _ ((ih g (List.mem_cons_of_mem _ q)).2 x hx)⟩
theorem ends_of (p : List Nat) (h : p ≠ []) : Txt.endswith (S p) (S [47]) = (p.getLast? == some 47) := by
  obtain ⟨q, c, rfl⟩ : ∃ q c, p = q ++ [c] := ⟨p.dropLast, p.getLast h, (List.dropLast_concat_getLast h).symm⟩
  unfold Txt.endswith subAt
  rw [S_len, S_len]
  simp only [List.length_append, List.length_singleton, List.getLast?_append, List.getLast?_singleton]
  simp [S]
theorem starts_of (a : Nat) (p : List Nat) : Txt.startswith (S (a :: p)) (S [47]) = (a == 47) := by
  unfold Txt.startswith subAt
  rw [S_len, S_len]
  simp [S]
theorem joinStep_first {g : List Nat} (hg : g ≠ []) (h47 : ∀ c ∈ g, c ≠ 47) : joinStep [47] g = 47 :: g := by
  cases g with
  | nil => exact absurd rfl hg
  | cons a g =>
    unfold joinStep
    rw [starts_of, if_neg (by simp; exact h47 a List.mem_cons_self), ends_of [47] (by simp), if_pos (by rfl)]
    rfl
theorem joinStep_more {p g : List Nat} (hg : g ≠ []) (h47 : ∀ c ∈ g, c ≠ 47) (hp : p ≠ []) (hl : p.getLast? ≠ some 47) : joinStep p g = p ++ 47 :: g := by
  cases g with
  | nil => exact absurd rfl hg
  | cons a g =>
    unfold joinStep
    rw [starts_of, if_neg (by simp; exact ⟨h47 a List.mem_cons_self, by simpa using hp⟩), ends_of p hp, if_neg (by simpa using hl)]
    rfl
theorem join_glue_go : ∀ (gs : List (List Nat)) (p : List Nat), p ≠ [] → p.getLast? ≠ some 47 → (∀ g ∈ gs, g ≠ [] ∧ ∀ c ∈ g, c ≠ 47) → gs.foldl joinStep p = match gs with | [] => p | _ :: _ => p ++ 47 :: glue gs
  | [], p, _, _, _ => rfl
  | g :: gs, p, hp, hl, h => by
    obtain ⟨h1, h2⟩ := h g List.mem_cons_self
    rw [List.foldl_cons, joinStep_more h1 h2 hp hl]
    have hlast : (p ++ 47 :: g).getLast? ≠ some 47 := by
      obtain ⟨q, c, e⟩ : ∃ q c, g = q ++ [c] := ⟨g.dropLast, g.getLast h1, (List.dropLast_concat_getLast h1).symm⟩
      rw [e, show p ++ 47 :: (q ++ [c]) = (p ++ 47 :: q) ++ [c] by simp, List.getLast?_concat]
      intro q'
      exact h2 c (by rw [e]; simp) (Option.some.inj q')
    rw [join_glue_go gs _ (by simp) hlast fun g' hg' => h g' (List.mem_cons_of_mem _ hg')]
    cases gs with
    | nil => rfl
    | cons g' gs => simp [glue]
theorem join_glue {gs : List (List Nat)} (hne : gs ≠ []) (h : ∀ g ∈ gs, g ≠ [] ∧ ∀ c ∈ g, c ≠ 47) : gs.foldl joinStep [47] = 47 :: glue gs := by
  cases gs with
  | nil => exact absurd rfl hne
  | cons g gs =>
    obtain ⟨h1, h2⟩ := h g List.mem_cons_self
    rw [List.foldl_cons, joinStep_first h1 h2]
    have hlast : (47 :: g).getLast? ≠ some 47 := by
      obtain ⟨q, c, e⟩ : ∃ q c, g = q ++ [c] := ⟨g.dropLast, g.getLast h1, (List.dropLast_concat_getLast h1).symm⟩
      rw [e, show 47 :: (q ++ [c]) = (47 :: q) ++ [c] by simp, List.getLast?_concat]
      intro q'
      exact h2 c (by rw [e]; simp) (Option.some.inj q')
    rw [join_glue_go gs _ (by simp) hlast fun g' hg' => h g' (List.mem_cons_of_mem _ hg')]
    cases gs with
    | nil => rfl
    | cons g' gs => simp [glue]
end Mine

end
section
open PySem PySem.W PySem.Spec PySem.Calls PyProof.Rows
open PySem.Builtin PySem.Builtin.Str
set_option Elab.async false
set_option maxRecDepth 100000
namespace Mine
theorem cutGo_map (f : Nat → Nat) : ∀ (n : Nat) (F : Nat → Option Nat) (rest : List Nat) (gs : List (List Nat)), cutGo n F (rest.map f) (gs.map (List.map f)) = ((cutGo n F rest gs).1.map f, (cutGo n F rest gs).2.map (List.map f))
  | 0, F, rest, gs => rfl
  | n + 1, F, rest, gs => by
    unfold cutGo
    cases F 0 with
    | none => rfl
    | some e =>
      simp only
      by_cases h : rest = []
      · rw [if_pos h, if_pos (by rw [h]; rfl)]
      · rw [if_neg h, if_neg (by simpa using h)]
        have := cutGo_map f n (fun j => F (j + 1)) (rest.take (rest.length - e)) (rest.drop (rest.length - e) :: gs)
        rw [List.map_cons, List.map_take, List.map_drop] at this
        rw [List.length_map]; exact this
theorem cutOf_map (f : Nat → Nat) (l row : List Nat) : cutOf (l.map f) row = (cutOf l row).map (List.map f) := by
  unfold cutOf
  have h := cutGo_map f 8 (outs none row) l []
  rw [List.map_nil] at h
  rw [h]
  generalize cutGo 8 (outs none row) l [] = p
  obtain ⟨r, gs⟩ := p
  simp only
  by_cases h : r = []
  · rw [if_pos h, if_pos (by rw [h]; rfl)]
  · rw [if_neg h, if_neg (by simpa using h), List.map_cons]
theorem grp_map (f : Nat → Nat) : ∀ (l : List Nat) (b : Nat → Bool), grp (l.map f) b = (grp l b).map (List.map f)
  | [], _ => rfl
  | [a], _ => rfl
  | a :: c :: r, b => by
    have ih := grp_map f (c :: r) b
    rw [List.map_cons] at ih ⊢
    rw [List.map_cons, grp_two, grp_two, List.length_map]
    obtain ⟨g, gs, e⟩ := grp_cons c r b
    rw [e] at ih ⊢
    rw [ih]
    split <;> rfl
theorem six {figs : List Nat} (h : figs.length = 6) : figs = [0, 1, 2, 3, 4, 5].map (fun i => figs.getD i 0) := by
  match figs, h with
  | [_, _, _, _, _, _], _ => rfl
noncomputable def E5 : List Nat := [1, 2, 3, 0, 127]
noncomputable def rowGood (row : List Nat) : Bool :=
  let r := row.dropWhile (· == 0)
  let n := bitsFrom 6 r 0 0 0
  decide (cutOf [0, 1, 2, 3, 4, 5] r = grp [0, 1, 2, 3, 4, 5] n.testBit) && decide (n < 64) && n % 2 == 0
theorem rows_good : ∀ t : Nat, t < 3 → rowGood (tailOf t) = true ∧ ∀ a ∈ E5, rowGood ([a] ++ tailOf t) = true ∧ ∀ b ∈ E5, rowGood ([a, b] ++ tailOf t) = true ∧ ∀ c ∈ E5, rowGood ([a, b, c] ++ tailOf t) = true := by decide +kernel
theorem ent_mem (x : Int) : ent x ∈ E5 := List.mem_of_getElem? (ent_at x).1
theorem rowOf_good (sc : List Int) (t : Nat) (ht : t < 3) : rowGood (rowOf sc t) = true := by
  rw [rowOf_eq]
  have hl := thirds_len sc t ht
  obtain ⟨h0, h1⟩ := rows_good t ht
  match thirds sc t, hl with
  | [], _ => exact h0
  | [x], _ => exact (h1 _ (ent_mem x)).1
  | [x, y], _ => exact ((h1 _ (ent_mem x)).2 _ (ent_mem y)).1
  | [x, y, z], _ => exact ((h1 _ (ent_mem x)).2 _ (ent_mem y)).2 _ (ent_mem z)
  | _ :: _ :: _ :: _ :: _, h => simp at h
theorem numT_good (sc : List Int) (t : Nat) (ht : t < 3) : cutOf [0, 1, 2, 3, 4, 5] (rowT sc t) = grp [0, 1, 2, 3, 4, 5] (numT sc t).testBit ∧ numT sc t < 64 ∧ numT sc t % 2 = 0 := by
  have h := rowOf_good sc t ht
  unfold rowGood at h
  simp only [Bool.and_eq_true, decide_eq_true_eq, beq_iff_eq] at h
  exact ⟨h.1.1, h.1.2, h.2⟩
theorem cut_grp {figs : List Nat} (hf : figs.length = 6) (sc : List Int) (t : Nat) (ht : t < 3) : cutOf figs (rowT sc t) = grp figs (numT sc t).testBit := by
  rw [six hf, cutOf_map, grp_map, (numT_good sc t ht).1]
theorem grp_ne {l : List Nat} (h : l ≠ []) (b : Nat → Bool) : grp l b ≠ [] := by
  cases l with
  | nil => exact absurd rfl h
  | cons a r =>
    obtain ⟨g, gs, e⟩ := grp_cons a r b
    rw [e]; simp
theorem path_law {figs : List Nat} (hf : figs.length = 6) (hd : ∀ c ∈ figs, 48 ≤ c ∧ c ≤ 57) (sc : List Int) (t : Nat) (ht : t < 3) : (cutOf figs (rowT sc t)).foldl joinStep [47] = pathN figs (numT sc t) := by
  have hne : figs ≠ [] := fun q => by rw [q] at hf; cases hf
  rw [cut_grp hf sc t ht, pathN_sp hf, join_glue (grp_ne hne _) (fun g hg => ⟨(grp_mem _ _ g hg).1, fun c hc => by
    have := (hd c ((grp_mem _ _ g hg).2 c hc)).1; omega⟩), glue_sp]
end Mine

end
section
open PySem PySem.W PySem.Spec PySem.Calls PyProof.Rows
open PySem.Builtin PySem.Builtin.Str
set_option Elab.async false
set_option maxRecDepth 100000
namespace Mine
theorem split_top {k m : Nat} (h : m < 2 ^ (k + 1)) : (m.testBit k = false ∧ m = m % 2 ^ k) ∨ (m.testBit k = true ∧ m = 2 ^ k + m % 2 ^ k) := by
  have h1 := Nat.div_add_mod m (2 ^ k)
  have hq : m / 2 ^ k < 2 := Nat.div_lt_of_lt_mul (by rw [Nat.pow_succ] at h; exact h)
  have ht : m.testBit k = decide (m / 2 ^ k % 2 = 1) := Nat.testBit_eq_decide_div_mod_eq
  rw [ht]
  generalize m / 2 ^ k = q at *
  have : q = 0 ∨ q = 1 := by omega
  rcases this with rfl | rfl
  · left; exact ⟨rfl, by rw [Nat.mul_zero, Nat.zero_add] at h1; exact h1.symm⟩
  · right; exact ⟨rfl, by rw [Nat.mul_one] at h1; exact h1.symm⟩
theorem sp_congr {b b' : Nat → Bool} {m : List Nat} : ∀ l : List Nat, (∀ g, 0 < g → g < l.length → b g = b' g) → sp l b m = sp l b' m
  | [], _ => rfl
  | [a], _ => rfl
  | a :: c :: r, h => by
    rw [sp_two, sp_two, h (r.length + 1) (by omega) (by simp), sp_congr (c :: r) fun g h1 h2 => h g h1 (by simp at h2 ⊢; omega)]
theorem grp_congr {b b' : Nat → Bool} : ∀ l : List Nat, (∀ g, 0 < g → g < l.length → b g = b' g) → grp l b = grp l b'
  | [], _ => rfl
  | [a], _ => rfl
  | a :: c :: r, h => by
    rw [grp_two, grp_two, h (r.length + 1) (by omega) (by simp), grp_congr (c :: r) fun g h1 h2 => h g h1 (by simp at h2 ⊢; omega)]
theorem low_bits (n k : Nat) : ∀ g, 0 < g → g < k → n.testBit g = (n % 2 ^ k).testBit g := fun g _ h => by
  rw [Nat.testBit_mod_two_pow, decide_eq_true h, Bool.true_and]
theorem even_low (n k : Nat) (hk : 0 < k) (h : n % 2 = 0) : n % 2 ^ k % 2 = 0 := by
  rw [Nat.mod_mod_of_dvd _ ⟨2 ^ (k - 1), by rw [← Nat.pow_succ']; congr 1; omega⟩]; exact h
/-- a rule for two numbers, top bit by top bit -/
theorem sp_lt : ∀ l : List Nat, (∀ c ∈ l, 48 ≤ c) → ∀ m n : Nat, m < 2 ^ l.length → n < 2 ^ l.length → m % 2 = 0 → n % 2 = 0 → (sp l m.testBit [] < sp l n.testBit [] ↔ n < m)
  | [], _, m, n, hm, hn, _, _ => by
    have : m = 0 ∧ n = 0 := by simp at hm hn; exact ⟨hm, hn⟩
    obtain ⟨rfl, rfl⟩ := this
    simp [sp]
  | [a], _, m, n, hm, hn, em, en => by
    have : m = 0 ∧ n = 0 := by simp at hm hn; omega
    obtain ⟨rfl, rfl⟩ := this
    simp
  | a :: c :: r, hc, m, n, hm, hn, em, en => by
    have hlen : (c :: r).length = r.length + 1 := rfl
    have ih := sp_lt (c :: r) (fun x hx => hc x (List.mem_cons_of_mem _ hx)) (m % 2 ^ (r.length + 1)) (n % 2 ^ (r.length + 1)) (by rw [hlen]; exact Nat.mod_lt _ (Nat.two_pow_pos _)) (by rw [hlen]; exact Nat.mod_lt _ (Nat.two_pow_pos _)) (even_low _ _ (by omega) em) (even_low _ _ (by omega) en)
    rw [← sp_congr (c :: r) (low_bits m (r.length + 1)), ← sp_congr (c :: r) (low_bits n (r.length + 1))] at ih
    have hc48 : 47 < c := hc c (List.mem_cons_of_mem _ List.mem_cons_self)
    have hm1 : m % 2 ^ (r.length + 1) < 2 ^ (r.length + 1) := Nat.mod_lt _ (Nat.two_pow_pos _)
    have hn1 : n % 2 ^ (r.length + 1) < 2 ^ (r.length + 1) := Nat.mod_lt _ (Nat.two_pow_pos _)
    rw [sp_two, sp_two, List.cons_lt_cons_iff]
    have hs : ∀ q, sp (c :: r) q [] = c :: (sp (c :: r) q []).tail := fun q => rfl
    rcases split_top (k := r.length + 1) hm with ⟨b1, e1⟩ | ⟨b1, e1⟩ <;> rcases split_top (k := r.length + 1) hn with ⟨b2, e2⟩ | ⟨b2, e2⟩ <;> rw [b1, b2]
    · simp only [Nat.lt_irrefl, false_or, true_and, Bool.false_eq_true, if_false, List.nil_append]
      rw [ih, ← e1, ← e2]
    · simp only [Nat.lt_irrefl, false_or, true_and, Bool.false_eq_true, if_false, if_true, List.nil_append, List.singleton_append]
      rw [hs m.testBit, List.cons_lt_cons_iff]
      constructor
      · intro h; omega
      · intro h; omega
    · simp only [Nat.lt_irrefl, false_or, true_and, Bool.false_eq_true, if_false, if_true, List.nil_append, List.singleton_append]
      rw [hs n.testBit, List.cons_lt_cons_iff]
      constructor
      · intro h; omega
      · intro h; exact .inl hc48
    · simp only [Nat.lt_irrefl, false_or, true_and, if_true, List.singleton_append, List.cons_lt_cons_iff]
      rw [ih]
      omega
theorem coll_law {figs : List Nat} (hf : figs.length = 6) (hd : ∀ c ∈ figs, 48 ≤ c) {m n : Nat} (hm : m < 64) (hn : n < 64) (em : m % 2 = 0) (en : n % 2 = 0) : pathN figs m < pathN figs n ↔ n < m := by
  rw [pathN_sp hf, pathN_sp hf, List.cons_lt_cons_iff]
  simp only [Nat.lt_irrefl, false_or, true_and]
  exact sp_lt figs hd m n (by rw [hf]; exact hm) (by rw [hf]; exact hn) em en
end Mine

end
section
open PySem PySem.W PySem.Spec PySem.Calls PyProof.Rows
open PySem.Builtin PySem.Builtin.Str
set_option Elab.async false
set_option maxRecDepth 100000
namespace Mine
noncomputable def seg : List Nat → (Nat → Bool) → List (List Nat)
  | [], _ => []
  | a :: r, b => match r with
    | [] => [[a]]
    | _ :: _ => if b r.length then (match seg r b with
      | [] => [[a]]
      | g :: gs => (a :: 47 :: g) :: gs) else [a] :: seg r b
theorem seg_one (a : Nat) (b : Nat → Bool) : seg [a] b = [[a]] := rfl
theorem seg_two (a c : Nat) (r : List Nat) (b : Nat → Bool) : seg (a :: c :: r) b = if b (r.length + 1) then (match seg (c :: r) b with | [] => [[a]] | g :: gs => (a :: 47 :: g) :: gs) else [a] :: seg (c :: r) b := rfl
theorem seg_cons : ∀ (a : Nat) (r : List Nat) (b : Nat → Bool), ∃ g gs, seg (a :: r) b = (a :: g) :: gs
  | a, [], b => ⟨[], [], rfl⟩
  | a, c :: r, b => by
    rw [seg_two]
    obtain ⟨g, gs, e⟩ := seg_cons c r b
    split
    · rw [e]; exact ⟨47 :: c :: g, gs, rfl⟩
    · exact ⟨[], _, rfl⟩
noncomputable def part (c : Nat) : Option (List Nat) := if c = 42 then none else some [c]
theorem mask_sp : ∀ (l : List Nat) (b : Nat → Bool) (xs : List (Option (List Nat))), (∀ c ∈ l, c ≠ 42) → (sp l b [42]).foldl maskStep xs = xs ++ (sp l b [42]).map part
  | [], _, xs, _ => by simp [sp]
  | [a], _, xs, h => by
    have ha : a ≠ 42 := h a List.mem_cons_self
    simp [sp_one, maskStep, part, ha]
  | a :: c :: r, b, xs, h => by
    have ha : a ≠ 42 := h a List.mem_cons_self
    have ih := fun ys => mask_sp (c :: r) b ys fun x hx => h x (List.mem_cons_of_mem _ hx)
    rw [sp_two]
    split
    · rw [List.singleton_append, List.foldl_cons, List.foldl_cons, ih]
      simp [maskStep, part, ha]
    · rw [List.singleton_append, List.foldl_cons, List.foldl_cons, ih]
      simp [maskStep, part, ha]
theorem piece_sp : ∀ (l : List Nat) (b : Nat → Bool) (qs : List (List Nat)) (q : List Nat), (∀ c ∈ l, c ≠ 42) → ((sp l b [42]).map part).foldl pieceStep (qs ++ [q]) = qs ++ (match seg l b with | [] => [q] | g :: gs => (q ++ g) :: gs)
  | [], _, qs, q, _ => by simp [sp, seg]
  | [a], _, qs, q, h => by
    have ha : a ≠ 42 := h a List.mem_cons_self
    simp [sp_one, seg_one, pieceStep, part, ha]
  | a :: c :: r, b, qs, q, h => by
    have ha : a ≠ 42 := h a List.mem_cons_self
    have ih := fun qs q => piece_sp (c :: r) b qs q fun x hx => h x (List.mem_cons_of_mem _ hx)
    obtain ⟨g, gs, e⟩ := seg_cons c r b
    have hs : pieceStep (qs ++ [q]) (part a) = qs ++ [q ++ [a]] := by simp [pieceStep, part, ha]
    rw [sp_two, seg_two]
    split
    · have h2 : pieceStep (qs ++ [q ++ [a]]) (part 47) = qs ++ [q ++ [a] ++ [47]] := by simp [pieceStep, part]
      rw [List.singleton_append, List.map_cons, List.map_cons, List.foldl_cons, List.foldl_cons, hs, h2, ih, e]
      simp
    · have h2 : pieceStep (qs ++ [q ++ [a]]) (part 42) = (qs ++ [q ++ [a]]) ++ [[]] := by simp [pieceStep, part]
      rw [List.singleton_append, List.map_cons, List.map_cons, List.foldl_cons, List.foldl_cons, hs, h2, ih, e]
      simp
/-- the text is the pieces in their order, something between -/
noncomputable def MS : List (List Nat) → List Nat → Prop
  | [], t => t = []
  | p :: r, t => ∃ x y, t = p ++ (x ++ y) ∧ (r = [] → x = []) ∧ MS r y
noncomputable def MF (ps : List (List Nat)) (y : List Nat) : Prop := ∃ x z, y = x ++ z ∧ MS ps z
theorem MF.more {ps : List (List Nat)} {y : List Nat} (w : List Nat) : MF ps y → MF ps (w ++ y)
  | ⟨x, z, e, h⟩ => ⟨w ++ x, z, by rw [e, List.append_assoc], h⟩
theorem MS_last (p t : List Nat) : MS [p] t ↔ t = p := by
  constructor
  · rintro ⟨x, y, e, h1, h2⟩
    have : x = [] := h1 rfl
    subst this
    have : y = [] := h2
    subst this
    simpa using e
  · rintro rfl
    exact ⟨[], [], by simp, fun _ => rfl, rfl⟩
theorem MS_more (p q : List Nat) (r : List (List Nat)) (t : List Nat) : MS (p :: q :: r) t ↔ ∃ u, t = p ++ u ∧ MF (q :: r) u := by
  constructor
  · rintro ⟨x, y, e, _, h2⟩
    exact ⟨x ++ y, e, x, y, rfl, h2⟩
  · rintro ⟨u, e, x, y, rfl, h2⟩
    exact ⟨x, y, e, fun h => (by cases h), h2⟩
theorem sub_iff (t p : List Nat) (k : Nat) : (k + (S p).length ≤ (S t).length ∧ subAt (S t) (S p) k = true) ↔ ∃ u, t.drop k = p ++ u ∧ k ≤ t.length := by
  rw [StrLaws.subAt_eq, S_cps, S_cps, S_len, S_len, beq_iff_eq]
  constructor
  · rintro ⟨h1, h2⟩
    refine ⟨(t.drop k).drop p.length, ?_, by omega⟩
    conv => lhs; rw [← List.take_append_drop p.length (t.drop k), h2]
  · rintro ⟨u, e, h⟩
    have := congrArg List.length e
    rw [List.length_drop, List.length_append] at this
    refine ⟨by omega, ?_⟩
    rw [e, List.take_left']; rfl
theorem find_spec (t p : List Nat) (n : Nat) (hn : n ≤ t.length) :
    (Txt.find3 (S t) (S p) n < 0 ∧ ∀ k u, n ≤ k → k ≤ t.length → t.drop k ≠ p ++ u) ∨
    ∃ k u : List Nat, Txt.find3 (S t) (S p) n = (n + k.length : Nat) ∧ t.drop n = k ++ (p ++ u) ∧ ∀ x y, t.drop n = x ++ (p ++ y) → k.length ≤ x.length := by
  have hi : fromIndex (S t).length (n : Int) = n := by
    unfold fromIndex
    rw [if_neg (by omega), Int.max_eq_right (by omega), Int.toNat_natCast]
  unfold Txt.find3
  rw [hi]
  rcases StrLaws.occ_head_from (S t) (S p) n 1 (Nat.le_refl 1) with ⟨h0, hn'⟩ | ⟨k, r, h0, hlo, hk, hn'⟩
  · rw [h0]
    refine .inl ⟨by show (-1 : Int) < 0; decide, fun k u h1 h2 e => ?_⟩
    exact hn' k h1 ((sub_iff t p k).mpr ⟨u, e, h2⟩)
  · rw [h0]
    obtain ⟨u, e, hl⟩ := (sub_iff t p k).mp hk
    refine .inr ⟨(t.drop n).take (k - n), u, ?_, ?_, fun x y exy => ?_⟩
    · show ((k : Nat) : Int) = _
      rw [List.length_take, List.length_drop, Nat.min_eq_left (by omega)]
      congr 1; omega
    · rw [← e]
      conv => lhs; rw [← List.take_append_drop (k - n) (t.drop n), List.drop_drop, show n + (k - n) = k by omega]
    · rw [List.length_take, List.length_drop, Nat.min_eq_left (by omega)]
      refine Classical.byContradiction fun hc => ?_
      have hx := congrArg List.length exy
      rw [List.length_drop, List.length_append] at hx
      refine hn' (n + x.length) (by omega) (by omega) ((sub_iff t p (n + x.length)).mpr ⟨y, ?_, by omega⟩)
      rw [← List.drop_drop, exy, List.drop_left']; rfl
theorem greedy (t last : List Nat) : ∀ (mid : List (List Nat)) (n : Nat), n ≤ t.length →
    ((∃ pl, takesGo t n mid = some pl ∧ pl + last.length ≤ t.length ∧ t.drop (t.length - last.length) = last) ↔ MF (mid ++ [last]) (t.drop n))
  | [], n, hn => by
    constructor
    · rintro ⟨pl, e, h1, h2⟩
      have : n = pl := by simpa [takesGo] using e
      subst this
      refine ⟨(t.drop n).take (t.length - last.length - n), last, ?_, (MS_last _ _).mpr rfl⟩
      conv => lhs; rw [← List.take_append_drop (t.length - last.length - n) (t.drop n), List.drop_drop, show n + (t.length - last.length - n) = t.length - last.length by omega, h2]
    · rintro ⟨x, z, e, h⟩
      have := (MS_last _ _).mp h
      subst this
      have hl := congrArg List.length e
      rw [List.length_drop, List.length_append] at hl
      refine ⟨n, rfl, by omega, ?_⟩
      rw [show t.length - z.length = n + x.length by omega, ← List.drop_drop, e, List.drop_left']; rfl
  | p :: mid, n, hn => by
    obtain ⟨q, r, eq⟩ : ∃ q r, mid ++ [last] = q :: r := by cases mid <;> exact ⟨_, _, rfl⟩
    rw [List.cons_append, eq]
    rcases find_spec t p n hn with ⟨hf, hno⟩ | ⟨k, u, hf, ek, hmin⟩
    · constructor
      · rintro ⟨pl, e, _⟩
        unfold takesGo at e
        rw [if_pos hf] at e
        cases e
      · rintro ⟨x, z, e, h⟩
        obtain ⟨u, e2, _⟩ := (MS_more _ _ _ _).mp h
        have hl := congrArg List.length e
        rw [List.length_drop, List.length_append] at hl
        refine absurd ?_ (hno (n + x.length) u (by omega) (by omega))
        rw [← List.drop_drop, e, List.drop_left', e2]; rfl
    · have hl := congrArg List.length ek
      rw [List.length_drop, List.length_append, List.length_append] at hl
      have hgo : takesGo t n (p :: mid) = takesGo t (n + k.length + p.length) mid := by
        conv => lhs; unfold takesGo
        rw [hf, if_neg (by omega), Int.toNat_natCast]
      have hdrop : t.drop (n + k.length + p.length) = u := by
        rw [Nat.add_assoc, ← List.drop_drop, ek, ← List.append_assoc, List.drop_left']
        rw [List.length_append]
      rw [hgo, greedy t last mid (n + k.length + p.length) (by omega), eq, hdrop]
      constructor
      · intro h
        exact ⟨k, p ++ u, ek, (MS_more _ _ _ _).mpr ⟨u, rfl, h⟩⟩
      · rintro ⟨x, z, e, h⟩
        obtain ⟨v, e2, h2⟩ := (MS_more _ _ _ _).mp h
        subst e2
        have hm := hmin x v e
        have : u = u.take (x.length - k.length) ++ v := by
          have h3 : v = u.drop (x.length - k.length) := by
            have e3 := congrArg (List.drop (x.length + p.length)) (e.symm.trans ek)
            rw [← List.append_assoc, ← List.append_assoc, List.drop_left' (by rw [List.length_append]), show x.length + p.length = (k ++ p).length + (x.length - k.length) by rw [List.length_append]; omega, ← List.drop_drop, List.drop_left' rfl] at e3
            exact e3
          rw [h3, List.take_append_drop]
        rw [this]
        exact h2.more _
theorem takes_iff (p : List Nat) (r : List (List Nat)) (t : List Nat) : takesOf (p :: r) t = true ↔ MS (p :: r) t := by
  cases r with
  | nil =>
    rw [MS_last]
    unfold takesOf
    simp
  | cons q r =>
    obtain ⟨mid, last, e⟩ : ∃ mid last, q :: r = mid ++ [last] := ⟨(q :: r).dropLast, (q :: r).getLast (by simp), (List.dropLast_concat_getLast (by simp)).symm⟩
    rw [MS_more, e]
    unfold takesOf
    have e1 : (p :: (mid ++ [last])).length ≠ 1 := by simp
    have e2 : (p :: (mid ++ [last])).dropLast.drop 1 = mid := by
      rw [← List.cons_append, List.dropLast_concat]; rfl
    have e3 : (p :: (mid ++ [last])).getLastD [] = last := by
      rw [← List.cons_append, List.getLastD_concat]
    rw [if_neg e1, e2, e3]
    show (if t.take p.length ≠ p then false else _) = true ↔ _
    by_cases hp : t.take p.length = p
    · rw [if_neg (by simpa using hp)]
      have hl := congrArg List.length hp
      rw [List.length_take] at hl
      have ht : t = p ++ t.drop p.length := by conv => lhs; rw [← List.take_append_drop p.length t, hp]
      have hg := greedy t last mid p.length (by omega)
      show (match takesGo t p.length mid with | none => false | some place => decide (place + last.length ≤ t.length) && (t.drop (t.length - last.length) == last)) = true ↔ _
      constructor
      · intro h
        refine ⟨t.drop p.length, ht, hg.mp ?_⟩
        cases hq : takesGo t p.length mid with
        | none => rw [hq] at h; cases h
        | some pl =>
          rw [hq] at h
          simp only [Bool.and_eq_true, decide_eq_true_eq, beq_iff_eq] at h
          exact ⟨pl, rfl, h⟩
      · rintro ⟨u, eu, h⟩
        have : t.drop p.length = u := by
          conv => lhs; rw [eu, List.drop_left' rfl]
        obtain ⟨pl, h1, h2, h3⟩ := hg.mpr (by rw [this]; exact h)
        rw [h1]
        simp only [Bool.and_eq_true, decide_eq_true_eq, beq_iff_eq]
        exact ⟨h2, h3⟩
    · rw [if_pos (by simpa using hp)]
      constructor
      · intro h; cases h
      · rintro ⟨u, eu, _⟩
        exact absurd (by rw [eu, List.take_left']; rfl) hp
end Mine

end
section
open PySem PySem.W PySem.Spec PySem.Calls PyProof.Rows
open PySem.Builtin PySem.Builtin.Str
set_option Elab.async false
set_option maxRecDepth 100000
namespace Mine
/-- the signs that are no rule -/
noncomputable def cnt (l : List Nat) : Nat := (l.filter (· ≠ 47)).length
theorem cnt_append (a b : List Nat) : cnt (a ++ b) = cnt a + cnt b := by unfold cnt; rw [List.filter_append, List.length_append]
theorem cnt_cons (a : Nat) (b : List Nat) (h : a ≠ 47) : cnt (a :: b) = cnt b + 1 := by unfold cnt; rw [List.filter_cons_of_pos (by simpa using h), List.length_cons]
theorem cnt_rule (b : List Nat) : cnt (47 :: b) = cnt b := by unfold cnt; rw [List.filter_cons_of_neg (by simp)]
theorem cnt_zero {l : List Nat} (h : cnt l = 0) : ∀ c ∈ l, c = 47 := fun c hc => by
  unfold cnt at h
  have := List.length_eq_zero_iff.mp h
  rw [List.filter_eq_nil_iff] at this
  simpa using this c hc
theorem cnt_sp : ∀ (l : List Nat) (b : Nat → Bool), (∀ c ∈ l, c ≠ 47) → cnt (sp l b []) = l.length
  | [], _, _ => rfl
  | [a], _, h => by rw [sp_one, cnt_cons _ _ (h a List.mem_cons_self)]; rfl
  | a :: c :: r, b, h => by
    have ih := cnt_sp (c :: r) b fun x hx => h x (List.mem_cons_of_mem _ hx)
    rw [sp_two, cnt_cons _ _ (h a List.mem_cons_self), List.length_cons, ← ih]
    split
    · rw [List.singleton_append, cnt_rule]
    · rfl
theorem seg_ne (a : Nat) (r : List Nat) (b : Nat → Bool) : seg (a :: r) b ≠ [] := by
  obtain ⟨g, gs, e⟩ := seg_cons a r b
  rw [e]; simp
theorem cnt_seg : ∀ (l : List Nat) (b : Nat → Bool) (t : List Nat), (∀ c ∈ l, c ≠ 47) → MS (seg l b) t → l.length ≤ cnt t
  | [], _, t, _, _ => Nat.zero_le _
  | [a], _, t, h, hm => by
    rw [seg_one, MS_last] at hm
    subst hm
    rw [cnt_cons _ _ (h a List.mem_cons_self)]; exact Nat.succ_le_succ (Nat.zero_le _)
  | a :: c :: r, b, t, h, hm => by
    have ih := fun t => cnt_seg (c :: r) b t fun x hx => h x (List.mem_cons_of_mem _ hx)
    obtain ⟨g, gs, e⟩ := seg_cons c r b
    rw [seg_two] at hm
    split at hm
    · rw [e] at hm ih
      obtain ⟨x, y, et, h1, h2⟩ := hm
      have := ih (c :: g ++ (x ++ y)) ⟨x, y, rfl, h1, h2⟩
      rw [et, List.cons_append, List.cons_append, cnt_cons _ _ (h a List.mem_cons_self), cnt_rule]
      exact Nat.succ_le_succ this
    · obtain ⟨x, y, et, _, h2⟩ := hm
      have := ih y h2
      rw [et, cnt_append, cnt_append, cnt_cons _ _ (h a List.mem_cons_self), List.length_cons]
      omega
theorem rule_split {x s y : List Nat} {c : Nat} {q : Bool} (hc : c ≠ 47) (hx : ∀ z ∈ x, z = 47) (e : (if q = true then [47] else []) ++ c :: s = x ++ c :: y) : s = y := by
  cases q with
  | false =>
    cases x with
    | nil => simpa using e
    | cons z x =>
      have := hx z List.mem_cons_self
      simp at e
      omega
  | true =>
    cases x with
    | nil => simp at e; omega
    | cons z x =>
      cases x with
      | nil => exact (by simpa using e : 47 = z ∧ s = y).2
      | cons w x =>
        have := hx w (by simp)
        simp at e
        omega
theorem ms_law : ∀ (l : List Nat) (b b' : Nat → Bool), l ≠ [] → (∀ c ∈ l, c ≠ 47) → (MS (seg l b) (sp l b' []) ↔ ∀ g, 0 < g → g < l.length → b g = true → b' g = true)
  | [], _, _, h, _ => absurd rfl h
  | [a], b, b', _, _ => by
    rw [seg_one, MS_last, sp_one]
    simp
    intro g h1 h2; omega
  | a :: c :: r, b, b', _, h => by
    have hc : c ≠ 47 := h c (by simp)
    have h' : ∀ x ∈ c :: r, x ≠ 47 := fun x hx => h x (List.mem_cons_of_mem _ hx)
    have ih := ms_law (c :: r) b b' (by simp) h'
    obtain ⟨g, gs, e⟩ := seg_cons c r b
    obtain ⟨s, es⟩ := sp_cons c r b' []
    have hstep : (∀ g, 0 < g → g < (a :: c :: r).length → b g = true → b' g = true) ↔ (b (r.length + 1) = true → b' (r.length + 1) = true) ∧ ∀ g, 0 < g → g < (c :: r).length → b g = true → b' g = true := by
      constructor
      · intro q
        exact ⟨q _ (by omega) (by simp), fun g h1 h2 => q g h1 (by simp at h2 ⊢; omega)⟩
      · rintro ⟨q1, q2⟩ g h1 h2
        by_cases hg : g = r.length + 1
        · rw [hg]; exact q1
        · exact q2 g h1 (by simp at h2 ⊢; omega)
    rw [hstep, ← ih, seg_two, sp_two]
    by_cases hb : b (r.length + 1) = true
    · rw [if_pos hb, e]
      constructor
      · rintro ⟨x, y, et, h1, h2⟩
        by_cases hb' : b' (r.length + 1) = true
        · refine ⟨fun _ => hb', x, y, ?_, h1, h2⟩
          rw [if_pos hb'] at et
          simpa using et
        · rw [if_neg hb', es] at et
          simp at et
          omega
      · rintro ⟨h1, x, y, et, h2, h3⟩
        rw [if_pos (h1 hb)]
        refine ⟨x, y, ?_, h2, h3⟩
        rw [et]; simp
    · rw [if_neg hb]
      constructor
      · rintro ⟨x, y, et, h1, h2⟩
        refine ⟨fun q => absurd q hb, ?_⟩
        have h4 := cnt_seg (c :: r) b y h' h2
        have h5 := cnt_sp (c :: r) b' h'
        have e0 : (if b' (r.length + 1) = true then [47] else []) ++ sp (c :: r) b' [] = x ++ y := by simpa using et
        have h6 := congrArg cnt e0
        rw [cnt_append, cnt_append, h5] at h6
        have h7 : cnt (if b' (r.length + 1) = true then [47] else []) = 0 := by split <;> rfl
        have h8 := cnt_zero (l := x) (by omega)
        have h2' := h2
        rw [e] at h2'
        obtain ⟨x2, y2, ey, _⟩ := h2'
        have hs : s = g ++ (x2 ++ y2) := rule_split hc h8 (by rw [← es, e0, ey]; rfl)
        rw [es, hs]
        rw [ey] at h2
        exact h2
      · rintro ⟨_, h2⟩
        refine ⟨(if b' (r.length + 1) = true then [47] else []), sp (c :: r) b' [], by simp, fun q => absurd q (seg_ne c r b), h2⟩
theorem maskN_seg {figs : List Nat} (hf : figs.length = 6) (hd : ∀ c ∈ figs, 48 ≤ c) (n : Nat) : ∃ g gs, seg figs n.testBit = g :: gs ∧ (maskN figs n).foldl pieceStep [[]] = (47 :: g) :: gs := by
  have h42 : ∀ c ∈ figs, c ≠ 42 := fun c hc => by have := hd c hc; omega
  obtain ⟨g, gs, e⟩ : ∃ g gs, seg figs n.testBit = g :: gs := by
    cases figs with
    | nil => cases hf
    | cons a r =>
      obtain ⟨g, gs, e⟩ := seg_cons a r n.testBit
      exact ⟨_, _, e⟩
  refine ⟨g, gs, e, ?_⟩
  unfold maskN
  have hs := spell_sp figs n [42]
  rw [hf] at hs
  rw [hs, List.foldl_cons, show maskStep [] 47 = [some [47]] from rfl, mask_sp figs _ _ h42, List.foldl_append, List.foldl_cons, List.foldl_nil, show pieceStep [[]] (some [47]) = [] ++ [[47]] from rfl, piece_sp figs _ _ _ h42, e]
  rfl
theorem takes_law {figs : List Nat} (hf : figs.length = 6) (hd : ∀ c ∈ figs, 48 ≤ c) {m n : Nat} (hm : m < 64) (em : m % 2 = 0) : takesOf ((maskN figs m).foldl pieceStep [[]]) (pathN figs n) = decide (n &&& m = m) := by
  have h47 : ∀ c ∈ figs, c ≠ 47 := fun c hc => by have := hd c hc; omega
  obtain ⟨g, gs, e, em2⟩ := maskN_seg hf hd m
  have hl := ms_law figs m.testBit n.testBit (by intro q; rw [q] at hf; cases hf) h47
  rw [Bool.eq_iff_iff, em2, takes_iff, pathN_sp hf, decide_eq_true_iff]
  have h1 : MS ((47 :: g) :: gs) (47 :: sp figs n.testBit []) ↔ MS (g :: gs) (sp figs n.testBit []) := by
    constructor
    · rintro ⟨x, y, e, h⟩
      exact ⟨x, y, by simpa using e, h⟩
    · rintro ⟨x, y, e, h⟩
      exact ⟨x, y, by rw [e]; rfl, h⟩
  rw [h1, ← e, hl, hf]
  constructor
  · intro h
    refine Nat.eq_of_testBit_eq fun i => ?_
    rw [Nat.testBit_and]
    cases hb : m.testBit i with
    | false => rw [Bool.and_false]
    | true =>
      rw [h i ?_ ?_ hb]; rfl
      · refine Nat.pos_of_ne_zero fun q => ?_
        rw [q, Nat.testBit_zero, em] at hb
        cases hb
      · refine Nat.lt_of_not_le fun q => ?_
        rw [Nat.testBit_lt_two_pow (Nat.lt_of_lt_of_le hm (Nat.pow_le_pow_right (by decide) q : 2 ^ 6 ≤ 2 ^ i))] at hb
        cases hb
  · intro h g _ _ hb
    have := congrArg (Nat.testBit · g) h
    simp only [Nat.testBit_and, hb, Bool.and_true] at this
    exact this
end Mine

end
section
open PySem PySem.W PySem.Spec PySem.Calls PyProof.Rows
open PySem.Builtin PySem.Builtin.Str
set_option Elab.async false
set_option maxRecDepth 100000
namespace Mine
theorem joinOf_glue (ls : List (List Nat)) : joinOf ls = glue ls := by
  unfold joinOf Txt.join
  rw [StrLaws.glued_eq_join]
  induction ls with
  | nil => rfl
  | cons a r ih =>
    cases r with
    | nil => show (S a).cps.toList = _; simp [S, glue]
    | cons b r =>
      show (S a ++ S [47] ++ Str.join (S [47]) ((b :: r).map S)).cps.toList = a ++ 47 :: glue (b :: r)
      rw [← ih, ← S_of (Str.join (S [47]) ((b :: r).map S)), S_add, S_add, S_cps, S_cps]
      simp
theorem free_split : ∀ {g h x y : List Nat}, 47 ∉ g → 47 ∉ h → g ++ 47 :: x = h ++ 47 :: y → g = h ∧ x = y
  | [], [], x, y, _, _, e => by simpa using e
  | [], c :: h, x, y, _, h2, e => by simp at e h2; exact absurd e.1 h2.1
  | c :: g, [], x, y, h1, _, e => by simp at e h1; exact absurd e.1.symm h1.1
  | c :: g, d :: h, x, y, h1, h2, e => by
    simp only [List.cons_append, List.cons.injEq] at e
    obtain ⟨e1, e2⟩ := e
    obtain ⟨e3, e4⟩ := free_split (fun q => h1 (List.mem_cons_of_mem _ q)) (fun q => h2 (List.mem_cons_of_mem _ q)) e2
    exact ⟨by rw [e1, e3], e4⟩
theorem glue_inj : ∀ (gs hs : List (List Nat)), gs ≠ [] → hs ≠ [] → (∀ g ∈ gs, 47 ∉ g) → (∀ h ∈ hs, 47 ∉ h) → glue gs = glue hs → gs = hs
  | [], _, h, _, _, _, _ => absurd rfl h
  | _, [], _, h, _, _, _ => absurd rfl h
  | [g], [h], _, _, _, _, e => by rw [show g = h from e]
  | [g], h :: h2 :: hs, _, _, fg, _, e => by
    have e' : g = h ++ 47 :: glue (h2 :: hs) := e
    exact absurd (by rw [e']; simp) (fg g List.mem_cons_self)
  | g :: g2 :: gs, [h], _, _, _, fh, e => by
    have e' : g ++ 47 :: glue (g2 :: gs) = h := e
    exact absurd (by rw [← e']; simp) (fh h List.mem_cons_self)
  | g :: g2 :: gs, h :: h2 :: hs, _, _, fg, fh, e => by
    have e' : g ++ 47 :: glue (g2 :: gs) = h ++ 47 :: glue (h2 :: hs) := e
    obtain ⟨e1, e2⟩ := free_split (fg g List.mem_cons_self) (fh h List.mem_cons_self) e'
    rw [e1, glue_inj (g2 :: gs) (h2 :: hs) (by simp) (by simp) (fun x hx => fg x (List.mem_cons_of_mem _ hx)) (fun x hx => fh x (List.mem_cons_of_mem _ hx)) e2]
theorem split_glue {gs : List (List Nat)} (hne : gs ≠ []) (hf : ∀ g ∈ gs, 47 ∉ g) : splitOf (47 :: glue gs) = [] :: gs := by
  have h1 : glue (splitOf (47 :: glue gs)) = 47 :: glue gs := by
    rw [← joinOf_glue]
    unfold joinOf splitOf
    rw [List.map_map, show (S ∘ fun x : Str => x.cps.toList) = fun x => x by funext x; exact S_of x, List.map_id']
    show (Txt.join (S [47]) (Txt.split (S (47 :: glue gs)) (S [47]))).cps.toList = _
    unfold Txt.join
    rw [StrLaws.glued_eq_join, StrLaws.join_split, S_cps]
  have h2 : ∀ g ∈ splitOf (47 :: glue gs), 47 ∉ g := fun g hg => by
    unfold splitOf at hg
    obtain ⟨p, hp, rfl⟩ := List.mem_map.mp hg
    exact StrLaws.split_free _ 47 p hp
  have h3 : splitOf (47 :: glue gs) ≠ [] := fun q => by rw [q] at h1; cases h1
  refine glue_inj _ _ h3 (by simp) h2 (fun g hg => ?_) ?_
  · rcases List.mem_cons.mp hg with q | q
    · rw [q]; simp
    · exact hf g q
  · rw [h1]
    cases gs with
    | nil => exact absurd rfl hne
    | cons g gs => rfl
theorem comps_grp {figs : List Nat} (hf : figs.length = 6) (hd : ∀ c ∈ figs, 48 ≤ c) (n : Nat) : comps (pathN figs n) = grp figs n.testBit := by
  have hne : figs ≠ [] := fun q => by rw [q] at hf; cases hf
  have hg : ∀ g ∈ grp figs n.testBit, g ≠ [] ∧ ∀ c ∈ g, 48 ≤ c := fun g hg => ⟨(grp_mem _ _ g hg).1, fun c hc => hd c ((grp_mem _ _ g hg).2 c hc)⟩
  unfold comps
  rw [pathN_sp hf, ← glue_sp, split_glue (grp_ne hne _) (fun g h q => by have := (hg g h).2 47 q; omega), List.filter_cons_of_neg (by simp [keepC])]
  rw [List.filter_eq_self]
  intro g h
  obtain ⟨h1, h2⟩ := hg g h
  unfold keepC
  cases g with
  | nil => exact absurd rfl h1
  | cons a r =>
    have := h2 a List.mem_cons_self
    simp
    intro q; omega
theorem ltL_cons (a : Nat) (g h : List Nat) (gs hs : List (List Nat)) : ltL ((a :: g) :: gs) ((a :: h) :: hs) = ltL (g :: gs) (h :: hs) := by
  unfold ltL
  by_cases e : g = h
  · rw [if_pos e, if_pos (by rw [e])]
  · rw [if_neg e, if_neg (by simpa using e)]
    rw [decide_eq_decide, List.cons_lt_cons_iff]
    simp
theorem grp_lt : ∀ l : List Nat, ∀ m n : Nat, m < 2 ^ l.length → n < 2 ^ l.length → m % 2 = 0 → n % 2 = 0 → (ltL (grp l m.testBit) (grp l n.testBit) = true ↔ n < m)
  | [], m, n, hm, hn, _, _ => by
    have : m = 0 ∧ n = 0 := by simp at hm hn; exact ⟨hm, hn⟩
    obtain ⟨rfl, rfl⟩ := this
    simp [grp, ltL]
  | [a], m, n, hm, hn, em, en => by
    have : m = 0 ∧ n = 0 := by simp at hm hn; omega
    obtain ⟨rfl, rfl⟩ := this
    simp [grp, ltL]
  | a :: c :: r, m, n, hm, hn, em, en => by
    have hlen : (c :: r).length = r.length + 1 := rfl
    have ih := grp_lt (c :: r) (m % 2 ^ (r.length + 1)) (n % 2 ^ (r.length + 1)) (by rw [hlen]; exact Nat.mod_lt _ (Nat.two_pow_pos _)) (by rw [hlen]; exact Nat.mod_lt _ (Nat.two_pow_pos _)) (even_low _ _ (by omega) em) (even_low _ _ (by omega) en)
    rw [← grp_congr (c :: r) (low_bits m (r.length + 1)), ← grp_congr (c :: r) (low_bits n (r.length + 1))] at ih
    have hm1 : m % 2 ^ (r.length + 1) < 2 ^ (r.length + 1) := Nat.mod_lt _ (Nat.two_pow_pos _)
    have hn1 : n % 2 ^ (r.length + 1) < 2 ^ (r.length + 1) := Nat.mod_lt _ (Nat.two_pow_pos _)
    obtain ⟨g1, gs1, x1⟩ := grp_cons c r m.testBit
    obtain ⟨g2, gs2, x2⟩ := grp_cons c r n.testBit
    rw [grp_two, grp_two]
    rw [x1, x2] at ih ⊢
    rcases split_top (k := r.length + 1) hm with ⟨b1, e1⟩ | ⟨b1, e1⟩ <;> rcases split_top (k := r.length + 1) hn with ⟨b2, e2⟩ | ⟨b2, e2⟩ <;> rw [b1, b2]
    · simp only [Bool.false_eq_true, if_false]
      rw [ltL_cons, ih, ← e1, ← e2]
    · simp only [Bool.false_eq_true, if_false, if_true]
      constructor
      · intro h
        simp [ltL] at h
      · intro h; omega
    · simp only [Bool.false_eq_true, if_false, if_true]
      constructor
      · intro h; omega
      · intro h; simp [ltL]
    · simp only [if_true]
      rw [show ltL ([a] :: (c :: g1) :: gs1) ([a] :: (c :: g2) :: gs2) = ltL ((c :: g1) :: gs1) ((c :: g2) :: gs2) by rw [ltL, if_pos rfl], ih]
      omega
/-- what two numbers share, by the bits -/
noncomputable def LC : List Nat → (Nat → Bool) → (Nat → Bool) → List (List Nat)
  | [], _, _ => []
  | a :: r, b, b' => match r with
    | [] => [[a]]
    | _ :: _ => if b r.length then (if b' r.length then [a] :: LC r b b' else []) else if b' r.length then [] else match LC r b b' with
      | [] => []
      | g :: gs => (a :: g) :: gs
theorem LC_two (a c : Nat) (r : List Nat) (b b' : Nat → Bool) : LC (a :: c :: r) b b' = if b (r.length + 1) then (if b' (r.length + 1) then [a] :: LC (c :: r) b b' else []) else if b' (r.length + 1) then [] else match LC (c :: r) b b' with | [] => [] | g :: gs => (a :: g) :: gs := rfl
theorem lcp_grp : ∀ (l : List Nat) (b b' : Nat → Bool), lcp (grp l b) (grp l b') = LC l b b' ∧ lcpOk (grp l b) (grp l b')
  | [], _, _ => ⟨rfl, trivial⟩
  | [a], _, _ => ⟨by rw [grp_one, grp_one, lcp, if_pos rfl]; rfl, fun _ => trivial⟩
  | a :: c :: r, b, b' => by
    obtain ⟨ih1, ih2⟩ := lcp_grp (c :: r) b b'
    obtain ⟨g1, gs1, x1⟩ := grp_cons c r b
    obtain ⟨g2, gs2, x2⟩ := grp_cons c r b'
    rw [LC_two, grp_two, grp_two]
    rw [x1, x2] at ih1 ih2 ⊢
    rw [← ih1]
    cases b (r.length + 1) <;> cases b' (r.length + 1)
    · simp only [Bool.false_eq_true, if_false]
      refine ⟨?_, fun e => ih2 (by simpa using e)⟩
      by_cases e : (c :: g1) = (c :: g2)
      · rw [lcp, lcp, if_pos e, if_pos (by simpa using e)]
      · rw [lcp, lcp, if_neg e, if_neg (by simpa using e)]
    · simp only [Bool.false_eq_true, if_false, if_true]
      refine ⟨?_, fun e => by simp at e⟩
      rw [lcp, if_neg (by simp)]
    · simp only [Bool.false_eq_true, if_false, if_true]
      refine ⟨?_, fun e => by simp at e⟩
      rw [lcp, if_neg (by simp)]
    · simp only [if_true]
      refine ⟨?_, fun _ => ih2⟩
      rw [lcp, if_pos rfl]
theorem LC_map (f : Nat → Nat) : ∀ (l : List Nat) (b b' : Nat → Bool), LC (l.map f) b b' = (LC l b b').map (List.map f)
  | [], _, _ => rfl
  | [a], _, _ => rfl
  | a :: c :: r, b, b' => by
    have ih := LC_map f (c :: r) b b'
    rw [List.map_cons] at ih ⊢
    rw [List.map_cons, LC_two, LC_two, List.length_map, ih]
    cases b (r.length + 1) <;> cases b' (r.length + 1) <;> simp only [Bool.false_eq_true, if_false, if_true]
    · cases LC (c :: r) b b' <;> rfl
    · rfl
    · rfl
    · rfl
theorem glue_map (f : Nat → Nat) (hf : f 47 = 47) : ∀ gs : List (List Nat), glue (gs.map (List.map f)) = (glue gs).map f
  | [] => rfl
  | [g] => rfl
  | g :: h :: r => by
    show g.map f ++ 47 :: glue ((h :: r).map (List.map f)) = (g ++ 47 :: glue (h :: r)).map f
    rw [glue_map f hf (h :: r), List.map_append, List.map_cons, hf]
theorem spellTo_map (f : Nat → Nat) (hf : f 47 = 47) (l : List Nat) (b : Nat) : ∀ i, i ≤ l.length → spellTo (l.map f) b [] i = (spellTo l b [] i).map f
  | 0, _ => by simp [spellTo, hf]
  | i + 1, h => by
    have ih := spellTo_map f hf l b i (by omega)
    unfold spellTo
    rw [ih, List.length_map]
    have hi : i < l.length := by omega
    have e : (l.map f).getD i 0 = f (l.getD i 0) := by simp [List.getD, hi]
    rw [e, List.map_append, List.map_append]
    congr 1
    split
    · split
      · simp [hf]
      · rfl
    · rfl
theorem sharedGo_map (f : Nat → Nat) (hf : f 47 = 47) (l : List Nat) (n0 u : Nat) : ∀ gs, sharedGo (l.map f) n0 u gs = (sharedGo l n0 u gs).map f
  | [] => by simp [sharedGo, hf]
  | g :: r => by
    unfold sharedGo
    rw [sharedGo_map f hf l n0 u r, List.length_map]
    split
    · rw [← List.map_take, spellTo_map f hf _ _ _ (by rw [List.length_take]; omega)]
    · rfl
theorem sharedOf_map (f : Nat → Nat) (hf : f 47 = 47) (l ns : List Nat) : sharedOf (l.map f) ns = (sharedOf l ns).map f := by
  unfold sharedOf
  rw [List.length_map, sharedGo_map f hf, spellTo_map f hf _ _ _ (Nat.le_refl _)]
  split <;> rfl
end Mine

end
section
open PySem PySem.W PySem.Spec PySem.Calls PyProof.Rows
open PySem.Builtin PySem.Builtin.Str
set_option Elab.async false
set_option maxRecDepth 100000
namespace Mine
theorem xor_lt {x y g : Nat} : x ^^^ y < 2 ^ g ↔ x / 2 ^ g = y / 2 ^ g := by
  constructor
  · intro h
    refine Nat.eq_of_testBit_eq fun i => ?_
    rw [Nat.testBit_div_two_pow, Nat.testBit_div_two_pow]
    have := Nat.testBit_lt_two_pow (Nat.lt_of_lt_of_le h (Nat.pow_le_pow_right (by decide) (Nat.le_add_left g i)))
    rw [Nat.testBit_xor] at this
    have h2 : ∀ a b : Bool, (a ^^ b) = false → a = b := by decide
    first | exact h2 _ _ this | (rw [Nat.add_comm]; exact h2 _ _ this) | (rw [Nat.add_comm] at this; exact h2 _ _ this)
  · intro h
    refine Nat.lt_pow_two_of_testBit _ fun i hi => ?_
    rw [Nat.testBit_xor]
    have := congrArg (Nat.testBit · (i - g)) h
    simp only [Nat.testBit_div_two_pow] at this
    rw [show i - g + g = i by omega] at this
    rw [this, Bool.xor_self]
theorem or_lt {x y g : Nat} : x ||| y < 2 ^ g ↔ x < 2 ^ g ∧ y < 2 ^ g := by
  constructor
  · intro h
    exact ⟨Nat.lt_of_le_of_lt Nat.left_le_or h, Nat.lt_of_le_of_lt Nat.right_le_or h⟩
  · rintro ⟨h1, h2⟩
    exact Nat.or_lt_two_pow h1 h2
theorem unlike_lt {n0 g : Nat} : ∀ (ns : List Nat) (u : Nat), unlikeOf n0 ns u < 2 ^ g ↔ u < 2 ^ g ∧ ∀ x ∈ ns, n0 / 2 ^ g = x / 2 ^ g
  | [], u => by simp [unlikeOf]
  | x :: r, u => by
    have ih := unlike_lt (n0 := n0) (g := g) r (u ||| (n0 ^^^ x))
    rw [show unlikeOf n0 (x :: r) u = unlikeOf n0 r (u ||| (n0 ^^^ x)) from rfl, ih, or_lt, xor_lt]
    constructor
    · rintro ⟨⟨h1, h2⟩, h3⟩
      refine ⟨h1, fun y hy => ?_⟩
      rcases List.mem_cons.mp hy with rfl | q
      · exact h2
      · exact h3 y q
    · rintro ⟨h1, h2⟩
      exact ⟨⟨h1, h2 x List.mem_cons_self⟩, fun y hy => h2 y (List.mem_cons_of_mem _ hy)⟩
theorem sharedGo_congr (l : List Nat) {n0 m0 u v : Nat} : ∀ gs : List Nat, (∀ g, (u < 2 ^ g ↔ v < 2 ^ g) ∧ (u < 2 ^ g → n0 / 2 ^ g = m0 / 2 ^ g)) → sharedGo l n0 u gs = sharedGo l m0 v gs
  | [], _ => rfl
  | g :: r, h => by
    unfold sharedGo
    rw [sharedGo_congr l r h]
    obtain ⟨h1, h2⟩ := h g
    by_cases hu : u < 2 ^ g
    · have e := h2 hu
      have hb : n0.testBit g = m0.testBit g := by
        rw [Nat.testBit_eq_decide_div_mod_eq, Nat.testBit_eq_decide_div_mod_eq, e]
      rw [hb, e]
      simp only [hu, h1.mp hu, true_and]
    · have hv : ¬ v < 2 ^ g := fun q => hu (h1.mpr q)
      simp only [hu, hv, false_and, if_false]
theorem sharedOf_cons (l : List Nat) (n0 : Nat) (r : List Nat) : sharedOf l (n0 :: r) = if unlikeOf n0 (n0 :: r) 0 = 0 then spellTo l n0 [] l.length else sharedGo l n0 (unlikeOf n0 (n0 :: r) 0) ((List.range (l.length - 1)).map (1 + ·)) := rfl
/-- only the least and the greatest tell -/
theorem shared_two (l : List Nat) {n0 M n : Nat} {r : List Nat} (hM : M ∈ n0 :: r) (hn : n ∈ n0 :: r) (hl : ∀ x ∈ n0 :: r, n ≤ x ∧ x ≤ M) : sharedOf l (n0 :: r) = sharedOf l [M, n] := by
  have key : ∀ g, (unlikeOf n0 (n0 :: r) 0 < 2 ^ g ↔ unlikeOf M [M, n] 0 < 2 ^ g) ∧ (unlikeOf n0 (n0 :: r) 0 < 2 ^ g → n0 / 2 ^ g = M / 2 ^ g) := by
    intro g
    have hp := Nat.two_pow_pos g
    rw [unlike_lt, unlike_lt]
    refine ⟨⟨fun h => ⟨hp, fun x hx => ?_⟩, fun h => ⟨hp, fun x hx => ?_⟩⟩, fun h => h.2 M hM⟩
    · have : x = M ∨ x = n := by simpa using hx
      rcases this with rfl | rfl
      · rfl
      · rw [← h.2 M hM, ← h.2 _ hn]
    · have e : M / 2 ^ g = n / 2 ^ g := h.2 n (by simp)
      have h1 := hl n0 List.mem_cons_self
      have h2 := hl x hx
      have a1 := Nat.div_le_div_right (c := 2 ^ g) h1.1
      have a2 := Nat.div_le_div_right (c := 2 ^ g) h1.2
      have a3 := Nat.div_le_div_right (c := 2 ^ g) h2.1
      have a4 := Nat.div_le_div_right (c := 2 ^ g) h2.2
      generalize n0 / 2 ^ g = p at *
      generalize x / 2 ^ g = q at *
      generalize M / 2 ^ g = s at *
      generalize n / 2 ^ g = t at *
      omega
  have k0 := key 0
  simp only [Nat.pow_zero, Nat.lt_one_iff, Nat.div_one] at k0
  rw [sharedOf_cons, sharedOf_cons, sharedGo_congr l _ key]
  by_cases h : unlikeOf n0 (n0 :: r) 0 = 0
  · rw [if_pos h, if_pos (k0.1.mp h), k0.2 h]
  · rw [if_neg h, if_neg (fun q => h (k0.1.mpr q))]
theorem pairs_good : ∀ m : Nat, m < 64 → ∀ n : Nat, n < 64 → m % 2 = 0 → n % 2 = 0 → 47 :: glue (LC [0, 1, 2, 3, 4, 5] m.testBit n.testBit) = sharedOf [0, 1, 2, 3, 4, 5] [m, n] := by decide +kernel
noncomputable def fig47 (figs : List Nat) (i : Nat) : Nat := if i = 47 then 47 else figs.getD i 0
theorem six47 {figs : List Nat} (h : figs.length = 6) : figs = [0, 1, 2, 3, 4, 5].map (fig47 figs) := by
  match figs, h with
  | [_, _, _, _, _, _], _ => rfl
theorem pair_law {figs : List Nat} (hf : figs.length = 6) {m n : Nat} (hm : m < 64) (hn : n < 64) (em : m % 2 = 0) (en : n % 2 = 0) : 47 :: glue (LC figs m.testBit n.testBit) = sharedOf figs [m, n] := by
  have e := congrArg (List.map (fig47 figs)) (pairs_good m hm n hn em en)
  have h47 : fig47 figs 47 = 47 := rfl
  rw [← sharedOf_map _ h47, List.map_cons, ← glue_map _ h47, ← LC_map, ← six47 hf, h47] at e
  exact e
noncomputable def mxN (m : Nat) (r : List Nat) : Nat := r.foldl (fun c x => if c < x then x else c) m
noncomputable def mnN (m : Nat) (r : List Nat) : Nat := r.foldl (fun c x => if x < c then x else c) m
theorem mx_facts : ∀ (r : List Nat) (m : Nat), mxN m r ∈ m :: r ∧ ∀ x ∈ m :: r, x ≤ mxN m r
  | [], m => ⟨List.mem_cons_self, fun x hx => by rw [List.mem_singleton.mp hx]; exact Nat.le_refl _⟩
  | y :: r, m => by
    obtain ⟨h1, h2⟩ := mx_facts r (if m < y then y else m)
    have e : mxN m (y :: r) = mxN (if m < y then y else m) r := rfl
    rw [e]
    have h3 := h2 _ List.mem_cons_self
    constructor
    · rcases List.mem_cons.mp h1 with q | q
      · rw [q]; split <;> simp
      · exact List.mem_cons_of_mem _ (List.mem_cons_of_mem _ q)
    · intro x hx
      generalize mxN (if m < y then y else m) r = k at *
      rcases List.mem_cons.mp hx with rfl | hx
      · split at h3 <;> omega
      · rcases List.mem_cons.mp hx with rfl | hx
        · split at h3 <;> omega
        · exact h2 x (List.mem_cons_of_mem _ hx)
theorem mn_facts : ∀ (r : List Nat) (m : Nat), mnN m r ∈ m :: r ∧ ∀ x ∈ m :: r, mnN m r ≤ x
  | [], m => ⟨List.mem_cons_self, fun x hx => by rw [List.mem_singleton.mp hx]; exact Nat.le_refl _⟩
  | y :: r, m => by
    obtain ⟨h1, h2⟩ := mn_facts r (if y < m then y else m)
    have e : mnN m (y :: r) = mnN (if y < m then y else m) r := rfl
    rw [e]
    have h3 := h2 _ List.mem_cons_self
    constructor
    · rcases List.mem_cons.mp h1 with q | q
      · rw [q]; split <;> simp
      · exact List.mem_cons_of_mem _ (List.mem_cons_of_mem _ q)
    · intro x hx
      generalize mnN (if y < m then y else m) r = k at *
      rcases List.mem_cons.mp hx with rfl | hx
      · split at h3 <;> omega
      · rcases List.mem_cons.mp hx with rfl | hx
        · split at h3 <;> omega
        · exact h2 x (List.mem_cons_of_mem _ hx)
section
variable {figs : List Nat} (hf : figs.length = 6)
include hf
theorem min_grp : ∀ (r : List Nat) (m : Nat), (∀ x ∈ m :: r, x < 64 ∧ x % 2 = 0) → minOf (grp figs m.testBit) (r.map fun x => grp figs x.testBit) = grp figs (mxN m r).testBit
  | [], m, _ => rfl
  | y :: r, m, h => by
    have hm := h m List.mem_cons_self
    have hy := h y (by simp)
    have hl := grp_lt figs y m (by rw [hf]; exact hy.1) (by rw [hf]; exact hm.1) hy.2 hm.2
    rw [show minOf (grp figs m.testBit) ((y :: r).map fun x => grp figs x.testBit) = minOf (if ltL (grp figs y.testBit) (grp figs m.testBit) then grp figs y.testBit else grp figs m.testBit) (r.map fun x => grp figs x.testBit) from rfl]
    rw [show mxN m (y :: r) = mxN (if m < y then y else m) r from rfl]
    by_cases q : m < y
    · rw [if_pos (hl.mpr q), if_pos q]
      exact min_grp r y fun x hx => h x (by rcases List.mem_cons.mp hx with w | w <;> simp [w])
    · rw [if_neg (fun w => q (hl.mp w)), if_neg q]
      exact min_grp r m fun x hx => h x (by rcases List.mem_cons.mp hx with w | w <;> simp [w])
theorem max_grp : ∀ (r : List Nat) (m : Nat), (∀ x ∈ m :: r, x < 64 ∧ x % 2 = 0) → maxOf (grp figs m.testBit) (r.map fun x => grp figs x.testBit) = grp figs (mnN m r).testBit
  | [], m, _ => rfl
  | y :: r, m, h => by
    have hm := h m List.mem_cons_self
    have hy := h y (by simp)
    have hl := grp_lt figs m y (by rw [hf]; exact hm.1) (by rw [hf]; exact hy.1) hm.2 hy.2
    rw [show maxOf (grp figs m.testBit) ((y :: r).map fun x => grp figs x.testBit) = maxOf (if ltL (grp figs m.testBit) (grp figs y.testBit) then grp figs y.testBit else grp figs m.testBit) (r.map fun x => grp figs x.testBit) from rfl]
    rw [show mnN m (y :: r) = mnN (if y < m then y else m) r from rfl]
    by_cases q : y < m
    · rw [if_pos (hl.mpr q), if_pos q]
      exact max_grp r y fun x hx => h x (by rcases List.mem_cons.mp hx with w | w <;> simp [w])
    · rw [if_neg (fun w => q (hl.mp w)), if_neg q]
      exact max_grp r m fun x hx => h x (by rcases List.mem_cons.mp hx with w | w <;> simp [w])
theorem comm_law (hd : ∀ c ∈ figs, 48 ≤ c) (m : Nat) (r : List Nat) (h : ∀ x ∈ m :: r, x < 64 ∧ x % 2 = 0) :
    lcpOk (minOf (comps (pathN figs m)) (r.map fun x => comps (pathN figs x))) (maxOf (comps (pathN figs m)) (r.map fun x => comps (pathN figs x))) ∧
    [47] ++ joinOf (lcp (minOf (comps (pathN figs m)) (r.map fun x => comps (pathN figs x))) (maxOf (comps (pathN figs m)) (r.map fun x => comps (pathN figs x)))) = sharedOf figs (m :: r) := by
  rw [show (fun x => comps (pathN figs x)) = fun x => grp figs x.testBit from funext fun x => comps_grp hf hd x, comps_grp hf hd, min_grp hf r m h, max_grp hf r m h, joinOf_glue]
  obtain ⟨h1, h2⟩ := lcp_grp figs (mxN m r).testBit (mnN m r).testBit
  refine ⟨h2, ?_⟩
  obtain ⟨a1, a2⟩ := mx_facts r m
  obtain ⟨b1, b2⟩ := mn_facts r m
  have ha := h _ a1
  have hb := h _ b1
  rw [h1, shared_two figs a1 b1 fun x hx => ⟨b2 x hx, a2 x hx⟩, ← pair_law hf ha.1 hb.1 ha.2 hb.2]
  rfl
end
theorem asks (sc : List Int) : Asks (figsOf sc) (numT sc) := by
  have hf := figsOf_len sc
  have hd : ∀ c ∈ figsOf sc, 48 ≤ c := fun c hc => (figsOf_digit sc c hc).1
  have hN := fun t ht => (numT_good sc t ht).2
  refine ⟨fun t ht => (hN t ht).1, fun i j hi hj => ?_, fun i j hi hj => ?_, fun a r ha hr _ => ?_⟩
  · obtain ⟨i1, i2⟩ := hN i hi
    obtain ⟨j1, j2⟩ := hN j hj
    rw [decide_eq_decide.mpr (coll_law hf hd j1 i1 j2 i2), decide_eq_decide.mpr (coll_law hf hd i1 j1 i2 j2)]
  · obtain ⟨j1, j2⟩ := hN j hj
    exact takes_law hf hd j1 j2
  · have h := comm_law hf hd (numT sc a) (r.map (numT sc)) fun x hx => by
      rcases List.mem_cons.mp hx with q | q
      · rw [q]; exact hN a ha
      · obtain ⟨t, ht, rfl⟩ := List.mem_map.mp q
        exact hN t (hr t ht)
    rw [List.map_map] at h
    exact h
theorem paths (sc : List Int) : ∀ t, t < 3 → (cutOf (figsOf sc) (rowT sc t)).foldl joinStep [47] = pathN (figsOf sc) (numT sc t) :=
  fun t ht => path_law (figsOf_len sc) (figsOf_digit sc) sc t ht
end Mine

end
section
open PySem PySem.W PySem.Spec PySem.Calls PyProof.Rows
open PySem.Builtin PySem.Builtin.Str
set_option Elab.async false
set_option maxRecDepth 100000
namespace Mine
theorem mem_look : ∀ {L : List (Addr × Nat)} {a : Addr} {n : Nat}, L.lookup a = some n → (a, n) ∈ L
  | [], _, _, e => by cases e
  | (b, m) :: r, a, n, e => by
    rw [List.lookup_cons] at e
    split at e
    · rename_i h
      rw [beq_iff_eq] at h
      cases e; rw [h]; exact List.mem_cons_self
    · exact List.mem_cons_of_mem _ (mem_look e)
/-- the built-in names that the law reads -/
noncomputable def bltNames : List (Str × Value) := [("len", .builtin "len"), ("range", .type "range"), ("sum", .builtin "sum"), ("type", .type "type"), ("str", .type "str"), ("bytes", .type "bytes"), ("isinstance", .builtin "isinstance"), ("issubclass", .builtin "issubclass"), ("tuple", .type "tuple"), ("map", .type "map"), ("min", .builtin "min"), ("max", .builtin "max"), ("enumerate", .type "enumerate"), ("ValueError", .type "ValueError")]
noncomputable def fnList (f3 f5 f9 f11 f20 f24 f25 f26 f28 f29 f30 f31 f32 f33 : Addr) : List (Addr × Nat) := [(f3, 3), (f5, 5), (f9, 9), (f11, 11), (f20, 20), (f24, 24), (f25, 25), (f26, 26), (f28, 28), (f29, 29), (f30, 30), (f31, 31), (f32, 32), (f33, 33)]
theorem rvs_ints {h : Heap} : ∀ {vs : List Value} {ns : List Int}, IntsAre vs ns → RVs h (ns.map V.int) vs
  | _, _, .nil => rfl
  | _, _, .cons n t r => ⟨_, _, rfl, ⟨t, rfl⟩, rvs_ints r⟩
noncomputable def JW (os : OsState) : Js := fun g o => AllBare g ∧ o = os
theorem jgen_JW (os : OsState) : JGen (JW os) where
  push := fun g o x p hx => ⟨p.1.push hx, p.2⟩
  set := fun g o i x p hx => ⟨fun y hy => by
    rcases Array.mem_or_eq_of_mem_setIfInBounds hy with q | q
    · exact p.1 y q
    · rw [q]; exact hx, p.2⟩
theorem cnd_caller : Cnd callerA 7 := ⟨by rfl, by decide +kernel, by decide +kernel⟩
end Mine

end
section
open PySem PySem.W PySem.Spec PySem.Calls PyProof.Rows
open PySem.Builtin PySem.Builtin.Str
set_option Elab.async false
set_option maxRecDepth 100000
namespace Mine
/-- the program without its turns of `__name__` -/
noncomputable def view : Program := { PySem.Challenge.pw_rx0081_01 with main := { PySem.Challenge.pw_rx0081_01.main with body := [0, 1, 3, 4, 5, 6, 8, 9, 11, 13, 15, 17, 18, 20, 22, 24, 25, 26, 28, 29, 30, 31, 32, 33].filterMap (PySem.Challenge.pw_rx0081_01.main.body[·]?) } }
noncomputable def looseL : List Str := ["_twin_re_1", "_special_chars_map"]
noncomputable def entOk (e : DictEntry) : Bool := match e.key with
  | .int k _ => e.hash == hashInt k && (decide (k < 47) || decide (57 < k))
  | _ => false
noncomputable def mapH (h : Heap) (a : Addr) : Bool := match h.get? a with
  | some ⟨.type "dict", none, .dict es _, sl⟩ => sl.isEmpty && es.toList.all entOk
  | _ => false
noncomputable def spOk (h : Heap) : Bool := match h.nsMap mainGlobals "_special_chars_map" with
  | some (.ref dm) => dm != sysModules && mapH h dm
  | _ => false
noncomputable def SpAt (h : Heap) (a : Addr) : Prop := ∃ es n, h.get? a = some ⟨.type "dict", none, .dict es n, #[]⟩ ∧ es.toList.all entOk = true
theorem mapH_at {h : Heap} {a : Addr} (e : mapH h a = true) : SpAt h a := by
  unfold mapH at e
  split at e
  · rename_i es n sl ho
    obtain ⟨e0, e1⟩ := Bool.and_eq_true_iff.mp e
    have e0 : sl = #[] := by simpa using e0
    subst e0
    exact ⟨es, n, ho, e1⟩
  · cases e
noncomputable def SpSays (h : Heap) : Prop := ∃ o es ep dm, h.get? mainGlobals = some o ∧ o.data = .dict es ep ∧ nsFind es "_special_chars_map" = some (.ref dm) ∧ (dm == sysModules) = false ∧ SpAt h dm
noncomputable def spHook : Hook where
  α := Bool
  obs := fun s => spOk s.heap
  val := fun _ => true
  says := fun _ h => SpSays h
  of := fun w s e => by
    unfold spOk at e
    split at e
    · rename_i dm hm
      obtain ⟨e1, e2⟩ := Bool.and_eq_true_iff.mp e
      unfold Heap.nsMap at hm
      split at hm
      · rename_i o ho
        split at hm
        · rename_i es ep hd
          exact ⟨o, es, ep, dm, ho, hd, hm, by simpa using e1, mapH_at e2⟩
        · cases hm
      · cases hm
    · cases e
  keeps := fun w h h' ⟨o, es, ep, dm, e1, e2, e3, e4, es', n, e5, e6⟩ k => ⟨o, es, ep, dm, k _ _ e1, e2, e3, e4, es', n, k _ _ e5, e6⟩
theorem mapAt_of {a : Addr} {h : Heap} {prog : Program} {w : World} (e : SpAt h a) : ∃ f, h.MapOf (intKind prog w) a f ∧ ∀ c : Nat, 47 ≤ c → c ≤ 57 → f c = none := by
  obtain ⟨es, n, ho, e⟩ := e
  have hall : ∀ x ∈ es.toList, ∃ k t, x.key = .int k t ∧ x.hash = hashInt k ∧ (k < 47 ∨ 57 < k) := fun x hx => by
    have := List.all_eq_true.mp e x hx
    unfold entOk at this
    split at this
    · rename_i k t hk
      simp only [Bool.and_eq_true, Bool.or_eq_true, decide_eq_true_eq, beq_iff_eq] at this
      exact ⟨k, t, hk, this.1, this.2⟩
    · cases this
  refine ⟨fun k => findBy (intKind prog w).is es k, ⟨_, es, n, ho, ⟨rfl, rfl, rfl⟩, rfl, fun x hx => ?_, fun _ => rfl⟩, fun c h1 h2 => ?_⟩
  · obtain ⟨k, t, e1, e2, _⟩ := hall x (Array.mem_toList_iff.mpr hx)
    exact ⟨k, by rw [e1]; exact intKind_is prog w k t, e2⟩
  · show findBy (intKind prog w).is es (c : Int) = none
    unfold findBy
    have : es.find? (fun d => (intKind prog w).is (c : Int) d.key) = none := by
      rw [Array.find?_eq_none]
      intro x hx
      obtain ⟨k, t, e1, _, e3⟩ := hall x (Array.mem_toList_iff.mpr hx)
      rw [e1]
      simp [intKind, Value.isInt]
      omega
    rw [this]; rfl
end Mine

end
section
open PySem PySem.W PySem.Spec PySem.Calls PyProof.Rows
open PySem.Builtin PySem.Builtin.Str
set_option Elab.async false
set_option maxRecDepth 100000
namespace Mine
noncomputable def posN (n : Nat) : Pos := match (PySem.Challenge.pw_rx0081_01.main.body.drop n).headD (.Pass ⟨0, 0, 0, 0⟩) with
  | .FunctionDef _ _ _ _ _ _ _ _ _ p => p
  | _ => ⟨0, 0, 0, 0⟩
noncomputable def defR (n : Nat) : DefRec := { name := (rec n).name, params := (rec n).params, body := (rec n).body, scope := (rec n).scope, pos := posN n }
noncomputable def defNs : List Nat := [3, 5, 9, 11, 20, 24, 25, 26, 28, 29, 30, 31, 32, 33]
theorem recs_eq : recsOf view = [1, 3, 5, 9, 11, 13, 18, 20, 22, 24, 25, 26, 28, 29, 30, 31, 32, 33].map defR := by kernel_rfl
theorem val_eq : valOf view "CHAR_MAX" = some (.int 127) := by kernel_rfl
theorem free_ok : ∀ p ∈ bltNames, p.1 ∉ startupNames ∧ p.1 ∉ looseW view looseL ∧ p.1 ∉ (recsOf view).map (·.name) ∧ p.1 ∉ (litsOf view).map (·.1) ∧ p.1 ∉ (clssOf view (looseW view looseL)).map (·.name) := by decide +kernel
end Mine

end
section
open PySem PySem.W PySem.Spec PySem.Calls PyProof.Rows
open PySem.Builtin PySem.Builtin.Str
set_option Elab.async false
set_option maxRecDepth 100000
namespace Mine
theorem spAt_keeps {h h' : Heap} {a : Addr} (k : HLe h h') : SpAt h a → SpAt h' a := fun ⟨es, n, e, r⟩ => ⟨es, n, k _ _ e, r⟩
noncomputable def cfgS (w : World) (mg mb : Str → Option Value) (dm : Addr) (L : List (Addr × Nat)) : Cfg where
  prog := PySem.Challenge.pw_rx0081_01
  w := w
  mg := mg
  mb := mb
  fn := fun a => (L.lookup a).map rec
  extra := fun h => SpAt h dm
  extraMono := fun _ _ k x => spAt_keeps k x
section
variable {mean : ExcName → Option Value} {w : World} {mg mb : Str → Option Value} {h : Heap}
theorem fn_at (T : Top view (looseW view looseL) mean mg mb h) (n : Nat) (y : Str) (hn : n ∈ defNs) (hy : (rec n).name = y) : ∃ a, mg y = some (.ref a) ∧ IsFn h a (rec n) := by
  obtain ⟨a, o, pm, code, doc, e1, e2, e3, e4⟩ := T.fn (defR n) (by
    rw [recs_eq]
    refine List.mem_map_of_mem ?_
    revert hn
    have : ∀ n ∈ defNs, n ∈ [1, 3, 5, 9, 11, 13, 18, 20, 22, 24, 25, 26, 28, 29, 30, 31, 32, 33] := by decide
    exact this n)
  exact ⟨a, by rw [← hy]; exact e1, o, doc, pm, _, code, _, e2, e3, e4⟩
theorem isFn_inj {a : Addr} {r r' : FnRec} (x : IsFn h a r) (y : IsFn h a r') : r = r' := by
  obtain ⟨o, doc, pm, an, cdv, ct, e1, e2, _⟩ := x
  obtain ⟨o', doc', pm', an', cdv', ct', e1', e2', _⟩ := y
  rw [e1] at e1'
  cases e1'
  rw [e2] at e2'
  have e3 := Data.func.inj e2'
  unfold fnOf at e3
  simp only [FuncData.mk.injEq, FuncBody.stmts.injEq] at e3
  obtain ⟨n1, _, n3, n4, n5, _⟩ := e3
  cases r; cases r'
  simp only at n1 n3 n4 n5
  subst n1 n3 n4 n5
  rfl
theorem look_ex : ∀ {L : List (Addr × Nat)} {a : Addr} {n : Nat}, (a, n) ∈ L → ∃ m, L.lookup a = some m
  | (b, m) :: r, a, n, hm => by
    rw [List.lookup_cons]
    by_cases e : a = b
    · exact ⟨m, by rw [show (a == b) = true by simpa using e]⟩
    · rcases List.mem_cons.mp hm with q | q
      · cases q; exact absurd rfl e
      · obtain ⟨k, hk⟩ := look_ex q
        exact ⟨k, by rw [show (a == b) = false by simpa using e]; exact hk⟩
theorem fn_look {L : List (Addr × Nat)} (hL : ∀ p ∈ L, IsFn h p.1 (rec p.2)) {a : Addr} {n : Nat} (i : Nat) (hi : L[i]? = some (a, n)) : (L.lookup a).map rec = some (rec n) := by
  have hm := List.mem_of_getElem? hi
  obtain ⟨m, hk⟩ := look_ex hm
  rw [hk]
  show some (rec m) = some (rec n)
  exact congrArg some (isFn_inj (hL _ (mem_look hk)) (hL (a, n) hm))
theorem blt_at (T : Top view (looseW view looseL) mean mg mb h) {C : Cfg} (e1 : C.mg = mg) (e2 : C.mb = mb) {y : Str} {v : Value} (i : Nat) (hm : bltNames[i]? = some (y, v)) (hn : y ≠ "__name__") (hv : bootBuiltins y = some v) : Blt C y v := by
  obtain ⟨f1, f2, f3, f4, f5⟩ := free_ok _ (List.mem_of_getElem? hm)
  exact ⟨by rw [e1]; exact T.free y f1 f2 f3 f4 f5, by rw [e2, T.builtins y hn]; exact hv⟩
theorem blts_at (T : Top view (looseW view looseL) mean mg mb h) {C : Cfg} (e1 : C.mg = mg) (e2 : C.mb = mb) : Blts C := by
  exact ⟨blt_at T e1 e2 0 rfl (by decide +kernel) (by rfl), blt_at T e1 e2 1 rfl (by decide +kernel) (by rfl), blt_at T e1 e2 2 rfl (by decide +kernel) (by rfl), blt_at T e1 e2 3 rfl (by decide +kernel) (by rfl), blt_at T e1 e2 4 rfl (by decide +kernel) (by rfl), blt_at T e1 e2 5 rfl (by decide +kernel) (by rfl), blt_at T e1 e2 6 rfl (by decide +kernel) (by rfl), blt_at T e1 e2 7 rfl (by decide +kernel) (by rfl), blt_at T e1 e2 8 rfl (by decide +kernel) (by rfl), blt_at T e1 e2 9 rfl (by decide +kernel) (by rfl), blt_at T e1 e2 10 rfl (by decide +kernel) (by rfl), blt_at T e1 e2 11 rfl (by decide +kernel) (by rfl), blt_at T e1 e2 12 rfl (by decide +kernel) (by rfl), blt_at T e1 e2 13 rfl (by decide +kernel) (by rfl)⟩
end
end Mine

end
section
open PySem PySem.W PySem.Spec PySem.Calls PyProof.Rows
open PySem.Builtin PySem.Builtin.Str
set_option Elab.async false
set_option maxRecDepth 100000
namespace Mine
theorem law_runT {mean : ExcName → Option Value} {w : World} {mg mb : Str → Option Value} {s : Shared} {l fa : Addr} {vs : List Value} {ns : List Int} {E : Value → Shared → Prop} {Q : Value → Shared → Prop}
    (T : Top view (looseW view looseL) mean mg mb s.heap) (Y : SpSays s.heap) (hg : s.gens = #[]) (hfa : mg "law" = some (.ref fa))
    (il : s.heap.IsList l vs.toArray) (hi : IntsAre vs ns) (hn : ns.length ≤ 63)
    (h : ∀ s', HLe s.heap s'.heap → s'.os = s.os → AllBare s'.gens → Q (.bool true) s') :
    wpAny (model PySem.Challenge.pw_rx0081_01 w) callerA (call (.ref fa) [.ref l]) Q E s := by
  obtain ⟨f3, g3, i3⟩ := fn_at T 3 "_strcoll" (by decide) (by decide +kernel)
  obtain ⟨f5, g5, i5⟩ := fn_at T 5 "_grouping_intervals" (by decide) (by decide +kernel)
  obtain ⟨f9, g9, i9⟩ := fn_at T 9 "escape" (by decide) (by decide +kernel)
  obtain ⟨f11, g11, i11⟩ := fn_at T 11 "_translate" (by decide) (by decide +kernel)
  obtain ⟨f20, g20, i20⟩ := fn_at T 20 "fspath" (by decide) (by decide +kernel)
  obtain ⟨f24, g24, i24⟩ := fn_at T 24 "_get_sep" (by decide) (by decide +kernel)
  obtain ⟨f25, g25, i25⟩ := fn_at T 25 "join" (by decide) (by decide +kernel)
  obtain ⟨f26, g26, i26⟩ := fn_at T 26 "commonpath" (by decide) (by decide +kernel)
  obtain ⟨f28, g28, i28⟩ := fn_at T 28 "_law_cut" (by decide) (by decide +kernel)
  obtain ⟨f29, g29, i29⟩ := fn_at T 29 "_law_bits" (by decide) (by decide +kernel)
  obtain ⟨f30, g30, i30⟩ := fn_at T 30 "_law_spelled" (by decide) (by decide +kernel)
  obtain ⟨f31, g31, i31⟩ := fn_at T 31 "_law_shared" (by decide) (by decide +kernel)
  obtain ⟨f32, g32, i32⟩ := fn_at T 32 "_law_takes" (by decide) (by decide +kernel)
  obtain ⟨f33, g33, i33⟩ := fn_at T 33 "law" (by decide) (by decide +kernel)
  have e : fa = f33 := by
    have := hfa.symm.trans g33
    cases this; rfl
  subst e
  obtain ⟨vc, gc, rc⟩ := T.const _ _ val_eq
  obtain ⟨tc, rfl⟩ : ∃ tc, vc = .int 127 tc := by
    have := rc s.heap
    cases this with
    | int i t => exact ⟨t, rfl⟩
  obtain ⟨o, es, ep, dm, y1, y2, y3, y4, y5⟩ := Y
  have gm : mg "_special_chars_map" = some (.ref dm) := by
    obtain ⟨o', es', ep', z1, z2, _, z4⟩ := T.g
    rw [y1] at z1
    cases z1
    rw [y2] at z2
    cases z2
    rw [← z4]; exact y3
  have hL : ∀ q ∈ fnList f3 f5 f9 f11 f20 f24 f25 f26 f28 f29 f30 f31 f32 fa, IsFn s.heap q.1 (rec q.2) := by
    intro q hq
    unfold fnList at hq
    simp only [List.mem_cons, List.not_mem_nil, or_false] at hq
    rcases hq with rfl | rfl | rfl | rfl | rfl | rfl | rfl | rfl | rfl | rfl | rfl | rfl | rfl | rfl <;> assumption
  have B : (cfgS w mg mb dm (fnList f3 f5 f9 f11 f20 f24 f25 f26 f28 f29 f30 f31 f32 fa)).Base s.heap :=
    ⟨T.g, T.b, T.nolimit, fun a r e => by
      obtain ⟨n, hn, rfl⟩ := Option.map_eq_some_iff.mp e
      exact hL _ (mem_look hn), y5⟩
  have D : Defs (cfgS w mg mb dm (fnList f3 f5 f9 f11 f20 f24 f25 f26 f28 f29 f30 f31 f32 fa)) f3 f5 f9 f11 f20 f24 f25 f26 f28 f29 f30 f31 f32 tc :=
    ⟨⟨g3, fn_look hL 0 rfl⟩, ⟨g5, fn_look hL 1 rfl⟩, ⟨g9, fn_look hL 2 rfl⟩, ⟨g11, fn_look hL 3 rfl⟩, ⟨g20, fn_look hL 4 rfl⟩, ⟨g24, fn_look hL 5 rfl⟩, ⟨g25, fn_look hL 6 rfl⟩, ⟨g26, fn_look hL 7 rfl⟩, ⟨g28, fn_look hL 8 rfl⟩, ⟨g29, fn_look hL 9 rfl⟩, ⟨g30, fn_look hL 10 rfl⟩, ⟨g31, fn_look hL 11 rfl⟩, ⟨g32, fn_look hL 12 rfl⟩,
     gc, blts_at T rfl rfl, ⟨dm, gm, y4, fun h' X' => mapAt_of X'⟩⟩
  have r33 : (cfgS w mg mb dm (fnList f3 f5 f9 f11 f20 f24 f25 f26 f28 f29 f30 f31 f32 fa)).fn fa = some (rec 33) := fn_look hL 13 rfl
  clear hL g3 g5 g9 g11 g20 g24 g25 g26 g28 g29 g30 g31 g32 i3 i5 i9 i11 i20 i24 i25 i26 i28 i29 i30 i31 i32 i33 T
  generalize hC : cfgS w mg mb dm (fnList f3 f5 f9 f11 f20 f24 f25 f26 f28 f29 f30 f31 f32 fa) = C at *
  have hp : C.prog = PySem.Challenge.pw_rx0081_01 := by rw [← hC]; rfl
  have hw : C.w = w := by rw [← hC]; rfl
  have hB := law_body (C := C) (d := 0) (jgen_JW s.os) D hn (asks ns) (paths ns)
  refine wpAny_call ?_
  rw [← hp, ← hw]
  refine fn_enter (d := 6) (J := JW s.os) (as := [.list (ns.map V.int)]) (mu := []) ["script"] r33 B ⟨AllBare.of_eq hg, rfl⟩ (fun a ha => by cases ha) cnd_caller
    ⟨_, _, rfl, ⟨l, vs, rfl, il, rvs_ints hi⟩, rfl⟩ (fun us hu => by
      obtain ⟨u, rfl⟩ := len1 hu
      intro doc pm an cdv ct; rfl) (by decide +kernel) (by decide +kernel) (by decide +kernel) (fun c s₁ E hJ k ho bc cn x e0 em hf hg' ho' hk hv => ?_) (by decide +kernel) (by decide +kernel) (by decide +kernel)
  refine hB c _ s₁ _ _ hJ ⟨k, ho⟩ bc cn ⟨Around.frames_deeper (A := callerA) rfl, hf⟩ x ?_
  intro mu' s' u _ hk' hj r
  have hu : u = .bool true := r
  subst hu
  rw [e0] at hk'
  rw [hJ] at hj
  exact h s' hk' hj.2 hj.1
end Mine

end
section
open PySem PySem.W PySem.Spec PySem.Calls PyProof.Rows
set_option Elab.async false
set_option maxRecDepth 100000
namespace Mine
/-- the def that stands in a class's block -/
noncomputable def meth (n m : Nat) : FnRec := match (PySem.Challenge.pw_rx0081_01.main.body.drop n).headD (.Pass ⟨0, 0, 0, 0⟩) with
  | .ClassDef _ _ _ b _ _ _ _ _ _ _ => recOf ((b.drop m).headD (.Pass ⟨0, 0, 0, 0⟩))
  | _ => recOf (.Pass ⟨0, 0, 0, 0⟩)
end Mine

end
section
open PySem PySem.W PySem.Spec PySem.Calls PyProof.Rows
set_option Elab.async false
set_option maxRecDepth 100000
set_option linter.unusedVariables false
namespace Mine
noncomputable abbrev sS (s : String) : Str := Str.ofString s
noncomputable abbrev vS (s : String) (k : Nat) : Value := .str (Str.ofString s) k
noncomputable abbrev dE (P : Params) (s : String) (k : Nat) (v : Value) : DictEntry := ⟨PyData.keyHash P (Str.ofString s), .str (Str.ofString s) k, v⟩
noncomputable abbrev ob (c : Value) (d : Option Addr) (x : Data) (s : Array (Option Value)) : Obj := ⟨c, d, x, s⟩
noncomputable abbrev fD (n q : Str) (r : FnRec) := FuncData.mk n q r.params (.stmts r.body) r.scope
noncomputable def lifeS : Life := Life.mk [] [] [] 0 [] [] false #[] [] 0 false false false 0 [2000, 10, 10] false 0 true [] [] 0 false
noncomputable def drawnS : Drawn := ⟨0, 0, 0, 0⟩
noncomputable def h0_1 (P : Params) : Obj := ob (.type "dict") none (.dict #[dE P "builtins" 162 (.ref 4), dE P "__main__" 163 (.ref 5), dE P "_sre" 244 (.ref 12)] 3) #[]
noncomputable def h0_2 (P : Params) : Obj := ob .none none (.dict #[dE P "\x69mport.loaded._sre" 183 (.bool true), dE P "class._frozen_importlib.BuiltinImporter" 185 (.ref 14), dE P "watched.\x69mport" 206 (.ref 18), dE P "class._frozen_importlib.ModuleSpec" 216 (.ref 22), dE P "sys.modules.booked-epoch" 245 (.int 3 0), dE P "\x69mport.later-laid._sre" 270 (.bool true), dE P "watched.library" 272 (.ref 27), dE P "watched.library-objects" 0 (vS "\x0c" 0), dE P "watched.library-deep._sre" 273 (vS "\x04\x00\x00\x0b\x04\x00\x00\x0b\x04\x00\x00\x03\x04\x00\x00\x0b\x08\x04dict\x02" 0)] 9) #[]
noncomputable def h0_3 (P : Params) : Obj := ob (.type "dict") none (.dict #[dE P "__name__" 165 (vS "__main__" 164), dE P "__doc__" 166 .none, dE P "__package__" 167 .none, dE P "__loader__" 168 (.builtin "__main__.__loader__#opaque"), dE P "__spec__" 169 .none, dE P "__annotations__" 170 (.ref 6), dE P "__builtins__" 171 (.ref 4), dE P "__file__" 173 (vS "/claim/cut.py" 172), dE P "__cached__" 174 .none, dE P "_sre" 275 (.ref 12)] 10) #[]
noncomputable def h0_11 (P : Params) : Obj := ob (.type "dict") none (.dict #[dE P "__name__" 247 (vS "_sre" 246), dE P "__doc__" 248 .none, dE P "__package__" 250 (vS "" 249), dE P "__loader__" 251 (.builtin "off-the-table:_sre.__loader__:shared#opaque"), dE P "__spec__" 252 (.builtin "off-the-table:_sre.__spec__:shared#opaque"), dE P "compile" 253 (.builtin "_sre.compile"), dE P "template" 254 (.builtin "off-the-table:_sre.template:shared#opaque"), dE P "getcodesize" 255 (.builtin "off-the-table:_sre.getcodesize:shared#opaque"), dE P "ascii_iscased" 256 (.builtin "off-the-table:_sre.ascii_iscased:shared#opaque"), dE P "unicode_iscased" 257 (.builtin "off-the-table:_sre.unicode_iscased:shared#opaque"), dE P "ascii_tolower" 258 (.builtin "off-the-table:_sre.ascii_tolower:shared#opaque"), dE P "unicode_tolower" 259 (.builtin "off-the-table:_sre.unicode_tolower:shared#opaque"), dE P "MAGIC" 261 (.int 20230612 260), dE P "CODESIZE" 263 (.int 4 262), dE P "MAXREPEAT" 265 (.int 4294967295 264), dE P "MAXGROUPS" 267 (.int 1073741823 266), dE P "copyright" 269 (vS " SRE 2.2.2 Copyright (c) 1997-2002 by Secret Labs AB " 268)] 17) #[]
noncomputable def h0_12 (P : Params) : Obj := ob (.type "module") (some 11) .plain #[]
noncomputable def h0_13 (P : Params) : Obj := ob (.type "dict") none (.dict #[dE P "__module__" 189 (vS "_frozen_importlib" 186), dE P "__firstlineno__" 190 (.int 971 187), dE P "__doc__" 191 (.builtin "_frozen_importlib.BuiltinImporter.__doc__:str#opaque"), dE P "_ORIGIN" 192 (vS "built-in" 188), dE P "find_spec" 193 (.builtin "_frozen_importlib.BuiltinImporter.find_spec#opaque"), dE P "create_module" 194 (.builtin "_frozen_importlib.BuiltinImporter.create_module#opaque"), dE P "exec_module" 195 (.builtin "_frozen_importlib.BuiltinImporter.exec_module#opaque"), dE P "get_code" 196 (.builtin "_frozen_importlib.BuiltinImporter.get_code#opaque"), dE P "get_source" 197 (.builtin "_frozen_importlib.BuiltinImporter.get_source#opaque"), dE P "is_package" 198 (.builtin "_frozen_importlib.BuiltinImporter.is_package#opaque"), dE P "load_module" 199 (.builtin "_frozen_importlib.BuiltinImporter.load_module#opaque"), dE P "__static_attributes__" 200 (.ref 15), dE P "__dict__" 202 (.ref 16), dE P "__weakref__" 204 (.ref 17)] 14) #[]
noncomputable def h0_14 (P : Params) : Obj := ob (.type "type") none (.cls (ClassData.mk (sS "BuiltinImporter") [.type "object"] [.ref 14, .type "object"] 13 (sS "BuiltinImporter") true [] [] false none false)) #[]
noncomputable def h0_15 (P : Params) : Obj := ob (.type "tuple") none (.seq #[]) #[]
noncomputable def h0_16 (P : Params) : Obj := ob (.type "getset_descriptor") none (.fields #[vS "__dict__" 201, .ref 14, .builtin "function.__dict__", .builtin "function.__dict__#set"]) #[]
noncomputable def h0_17 (P : Params) : Obj := ob (.type "getset_descriptor") none (.fields #[vS "__weakref__" 203, .ref 14, .builtin "ExceptionGroup.__weakref__", .none]) #[]
noncomputable def h0_18 (P : Params) : Obj := ob .none none (.seq #[.int 13 0, .str (Str.mk #[6, 189, 10, 95, 95, 109, 111, 100, 117, 108, 101, 95, 95, 6, 186, 17, 95, 102, 114, 111, 122, 101, 110, 95, 105, 109, 112, 111, 114, 116, 108, 105, 98, 6, 190, 15, 95, 95, 102, 105, 114, 115, 116, 108, 105, 110, 101, 110, 111, 95, 95, 4, 187, 0, 971, 6, 191, 7, 95, 95, 100, 111, 99, 95, 95, 9, 52, 95, 102, 114, 111, 122, 101, 110, 95, 105, 109, 112, 111, 114, 116, 108, 105, 98, 46, 66, 117, 105, 108, 116, 105, 110, 73, 109, 112, 111, 114, 116, 101, 114, 46, 95, 95, 100, 111, 99, 95, 95, 58, 115, 116, 114, 35, 111, 112, 97, 113, 117, 101, 6, 192, 7, 95, 79, 82, 73, 71, 73, 78, 6, 188, 8, 98, 117, 105, 108, 116, 45, 105, 110, 6, 193, 9, 102, 105, 110, 100, 95, 115, 112, 101, 99, 9, 50, 95, 102, 114, 111, 122, 101, 110, 95, 105, 109, 112, 111, 114, 116, 108, 105, 98, 46, 66, 117, 105, 108, 116, 105, 110, 73, 109, 112, 111, 114, 116, 101, 114, 46, 102, 105, 110, 100, 95, 115, 112, 101, 99, 35, 111, 112, 97, 113, 117, 101, 6, 194, 13, 99, 114, 101, 97, 116, 101, 95, 109, 111, 100, 117, 108, 101, 9, 54, 95, 102, 114, 111, 122, 101, 110, 95, 105, 109, 112, 111, 114, 116, 108, 105, 98, 46, 66, 117, 105, 108, 116, 105, 110, 73, 109, 112, 111, 114, 116, 101, 114, 46, 99, 114, 101, 97, 116, 101, 95, 109, 111, 100, 117, 108, 101, 35, 111, 112, 97, 113, 117, 101, 6, 195, 11, 101, 120, 101, 99, 95, 109, 111, 100, 117, 108, 101, 9, 52, 95, 102, 114, 111, 122, 101, 110, 95, 105, 109, 112, 111, 114, 116, 108, 105, 98, 46, 66, 117, 105, 108, 116, 105, 110, 73, 109, 112, 111, 114, 116, 101, 114, 46, 101, 120, 101, 99, 95, 109, 111, 100, 117, 108, 101, 35, 111, 112, 97, 113, 117, 101, 6, 196, 8, 103, 101, 116, 95, 99, 111, 100, 101, 9, 49, 95, 102, 114, 111, 122, 101, 110, 95, 105, 109, 112, 111, 114, 116, 108, 105, 98, 46, 66, 117, 105, 108, 116, 105, 110, 73, 109, 112, 111, 114, 116, 101, 114, 46, 103, 101, 116, 95, 99, 111, 100, 101, 35, 111, 112, 97, 113, 117, 101, 6, 197, 10, 103, 101, 116, 95, 115, 111, 117, 114, 99, 101, 9, 51, 95, 102, 114, 111, 122, 101, 110, 95, 105, 109, 112, 111, 114, 116, 108, 105, 98, 46, 66, 117, 105, 108, 116, 105, 110, 73, 109, 112, 111, 114, 116, 101, 114, 46, 103, 101, 116, 95, 115, 111, 117, 114, 99, 101, 35, 111, 112, 97, 113, 117, 101, 6, 198, 10, 105, 115, 95, 112, 97, 99, 107, 97, 103, 101, 9, 51, 95, 102, 114, 111, 122, 101, 110, 95, 105, 109, 112, 111, 114, 116, 108, 105, 98, 46, 66, 117, 105, 108, 116, 105, 110, 73, 109, 112, 111, 114, 116, 101, 114, 46, 105, 115, 95, 112, 97, 99, 107, 97, 103, 101, 35, 111, 112, 97, 113, 117, 101, 6, 199, 11, 108, 111, 97, 100, 95, 109, 111, 100, 117, 108, 101, 9, 52, 95, 102, 114, 111, 122, 101, 110, 95, 105, 109, 112, 111, 114, 116, 108, 105, 98, 46, 66, 117, 105, 108, 116, 105, 110, 73, 109, 112, 111, 114, 116, 101, 114, 46, 108, 111, 97, 100, 95, 109, 111, 100, 117, 108, 101, 35, 111, 112, 97, 113, 117, 101, 6, 200, 21, 95, 95, 115, 116, 97, 116, 105, 99, 95, 97, 116, 116, 114, 105, 98, 117, 116, 101, 115, 95, 95, 4, 0, 0, 15, 6, 202, 8, 95, 95, 100, 105, 99, 116, 95, 95, 4, 0, 0, 16, 6, 204, 11, 95, 95, 119, 101, 97, 107, 114, 101, 102, 95, 95, 4, 0, 0, 17]) 0, .bool true, .bool true, vS "" 205, .int 21 0, .str (Str.mk #[6, 227, 10, 95, 95, 109, 111, 100, 117, 108, 101, 95, 95, 6, 217, 17, 95, 102, 114, 111, 122, 101, 110, 95, 105, 109, 112, 111, 114, 116, 108, 105, 98, 6, 228, 15, 95, 95, 102, 105, 114, 115, 116, 108, 105, 110, 101, 110, 111, 95, 95, 4, 218, 0, 562, 6, 229, 7, 95, 95, 100, 111, 99, 95, 95, 9, 47, 95, 102, 114, 111, 122, 101, 110, 95, 105, 109, 112, 111, 114, 116, 108, 105, 98, 46, 77, 111, 100, 117, 108, 101, 83, 112, 101, 99, 46, 95, 95, 100, 111, 99, 95, 95, 58, 115, 116, 114, 35, 111, 112, 97, 113, 117, 101, 6, 230, 8, 95, 95, 105, 110, 105, 116, 95, 95, 9, 44, 95, 102, 114, 111, 122, 101, 110, 95, 105, 109, 112, 111, 114, 116, 108, 105, 98, 46, 77, 111, 100, 117, 108, 101, 83, 112, 101, 99, 46, 95, 95, 105, 110, 105, 116, 95, 95, 35, 111, 112, 97, 113, 117, 101, 6, 231, 8, 95, 95, 114, 101, 112, 114, 95, 95, 9, 44, 95, 102, 114, 111, 122, 101, 110, 95, 105, 109, 112, 111, 114, 116, 108, 105, 98, 46, 77, 111, 100, 117, 108, 101, 83, 112, 101, 99, 46, 95, 95, 114, 101, 112, 114, 95, 95, 35, 111, 112, 97, 113, 117, 101, 6, 232, 6, 95, 95, 101, 113, 95, 95, 9, 42, 95, 102, 114, 111, 122, 101, 110, 95, 105, 109, 112, 111, 114, 116, 108, 105, 98, 46, 77, 111, 100, 117, 108, 101, 83, 112, 101, 99, 46, 95, 95, 101, 113, 95, 95, 35, 111, 112, 97, 113, 117, 101, 6, 233, 6, 99, 97, 99, 104, 101, 100, 9, 42, 95, 102, 114, 111, 122, 101, 110, 95, 105, 109, 112, 111, 114, 116, 108, 105, 98, 46, 77, 111, 100, 117, 108, 101, 83, 112, 101, 99, 46, 99, 97, 99, 104, 101, 100, 35, 111, 112, 97, 113, 117, 101, 6, 234, 6, 112, 97, 114, 101, 110, 116, 9, 42, 95, 102, 114, 111, 122, 101, 110, 95, 105, 109, 112, 111, 114, 116, 108, 105, 98, 46, 77, 111, 100, 117, 108, 101, 83, 112, 101, 99, 46, 112, 97, 114, 101, 110, 116, 35, 111, 112, 97, 113, 117, 101, 6, 235, 12, 104, 97, 115, 95, 108, 111, 99, 97, 116, 105, 111, 110, 9, 48, 95, 102, 114, 111, 122, 101, 110, 95, 105, 109, 112, 111, 114, 116, 108, 105, 98, 46, 77, 111, 100, 117, 108, 101, 83, 112, 101, 99, 46, 104, 97, 115, 95, 108, 111, 99, 97, 116, 105, 111, 110, 35, 111, 112, 97, 113, 117, 101, 6, 236, 21, 95, 95, 115, 116, 97, 116, 105, 99, 95, 97, 116, 116, 114, 105, 98, 117, 116, 101, 115, 95, 95, 4, 0, 0, 23, 6, 238, 8, 95, 95, 100, 105, 99, 116, 95, 95, 4, 0, 0, 24, 6, 240, 11, 95, 95, 119, 101, 97, 107, 114, 101, 102, 95, 95, 4, 0, 0, 25, 6, 241, 8, 95, 95, 104, 97, 115, 104, 95, 95, 0]) 0, .bool true, .bool true, vS "" 242] 1) #[]
noncomputable def h0_19 (P : Params) : Obj := ob (.type "list") none (.seq #[]) #[]
noncomputable def h0_20 (P : Params) : Obj := ob (.type "dict") none (.dict #[dE P "name" 208 (vS "_sre" 207), dE P "loader" 209 (.ref 14), dE P "origin" 210 (vS "built-in" 184), dE P "loader_state" 211 .none, dE P "submodule_search_locations" 212 .none, dE P "_uninitialized_submodules" 213 (.ref 19), dE P "_set_fileattr" 214 (.bool false), dE P "_cached" 215 .none, dE P "_initializing" 243 (.bool false)] 9) #[]
noncomputable def h0_21 (P : Params) : Obj := ob (.type "dict") none (.dict #[dE P "__module__" 227 (vS "_frozen_importlib" 217), dE P "__firstlineno__" 228 (.int 562 218), dE P "__doc__" 229 (.builtin "_frozen_importlib.ModuleSpec.__doc__:str#opaque"), dE P "__init__" 230 (.builtin "_frozen_importlib.ModuleSpec.__init__#opaque"), dE P "__repr__" 231 (.builtin "_frozen_importlib.ModuleSpec.__repr__#opaque"), dE P "__eq__" 232 (.builtin "_frozen_importlib.ModuleSpec.__eq__#opaque"), dE P "cached" 233 (.builtin "_frozen_importlib.ModuleSpec.cached#opaque"), dE P "parent" 234 (.builtin "_frozen_importlib.ModuleSpec.parent#opaque"), dE P "has_location" 235 (.builtin "_frozen_importlib.ModuleSpec.has_location#opaque"), dE P "__static_attributes__" 236 (.ref 23), dE P "__dict__" 238 (.ref 24), dE P "__weakref__" 240 (.ref 25), dE P "__hash__" 241 .none] 13) #[]
noncomputable def h0_22 (P : Params) : Obj := ob (.type "type") none (.cls (ClassData.mk (sS "ModuleSpec") [.type "object"] [.ref 22, .type "object"] 21 (sS "ModuleSpec") true [] [] false none false)) #[]
noncomputable def h0_23 (P : Params) : Obj := ob (.type "tuple") none (.seq #[vS "_cached" 219, vS "_set_fileattr" 220, vS "_uninitialized_submodules" 221, vS "loader" 222, vS "loader_state" 223, vS "name" 224, vS "origin" 225, vS "submodule_search_locations" 226]) #[]
noncomputable def h0_24 (P : Params) : Obj := ob (.type "getset_descriptor") none (.fields #[vS "__dict__" 237, .ref 22, .builtin "function.__dict__", .builtin "function.__dict__#set"]) #[]
noncomputable def h0_25 (P : Params) : Obj := ob (.type "getset_descriptor") none (.fields #[vS "__weakref__" 239, .ref 22, .builtin "ExceptionGroup.__weakref__", .none]) #[]
noncomputable def h0_26 (P : Params) : Obj := ob (.ref 22) (some 20) .plain #[]
noncomputable def h0_27 (P : Params) : Obj := ob .none none (.seq #[.int 11 0, .str (Str.mk #[6, 247, 8, 95, 95, 110, 97, 109, 101, 95, 95, 6, 246, 4, 95, 115, 114, 101, 6, 248, 7, 95, 95, 100, 111, 99, 95, 95, 0, 6, 250, 11, 95, 95, 112, 97, 99, 107, 97, 103, 101, 95, 95, 6, 249, 0, 6, 251, 10, 95, 95, 108, 111, 97, 100, 101, 114, 95, 95, 4, 0, 0, 14, 6, 252, 8, 95, 95, 115, 112, 101, 99, 95, 95, 4, 0, 0, 26, 6, 253, 7, 99, 111, 109, 112, 105, 108, 101, 9, 12, 95, 115, 114, 101, 46, 99, 111, 109, 112, 105, 108, 101, 6, 254, 8, 116, 101, 109, 112, 108, 97, 116, 101, 9, 13, 95, 115, 114, 101, 46, 116, 101, 109, 112, 108, 97, 116, 101, 6, 255, 11, 103, 101, 116, 99, 111, 100, 101, 115, 105, 122, 101, 9, 16, 95, 115, 114, 101, 46, 103, 101, 116, 99, 111, 100, 101, 115, 105, 122, 101, 6, 256, 13, 97, 115, 99, 105, 105, 95, 105, 115, 99, 97, 115, 101, 100, 9, 18, 95, 115, 114, 101, 46, 97, 115, 99, 105, 105, 95, 105, 115, 99, 97, 115, 101, 100, 6, 257, 15, 117, 110, 105, 99, 111, 100, 101, 95, 105, 115, 99, 97, 115, 101, 100, 9, 20, 95, 115, 114, 101, 46, 117, 110, 105, 99, 111, 100, 101, 95, 105, 115, 99, 97, 115, 101, 100, 6, 258, 13, 97, 115, 99, 105, 105, 95, 116, 111, 108, 111, 119, 101, 114, 9, 18, 95, 115, 114, 101, 46, 97, 115, 99, 105, 105, 95, 116, 111, 108, 111, 119, 101, 114, 6, 259, 15, 117, 110, 105, 99, 111, 100, 101, 95, 116, 111, 108, 111, 119, 101, 114, 9, 20, 95, 115, 114, 101, 46, 117, 110, 105, 99, 111, 100, 101, 95, 116, 111, 108, 111, 119, 101, 114, 6, 261, 5, 77, 65, 71, 73, 67, 4, 260, 0, 20230612, 6, 263, 8, 67, 79, 68, 69, 83, 73, 90, 69, 4, 262, 0, 4, 6, 265, 9, 77, 65, 88, 82, 69, 80, 69, 65, 84, 4, 264, 0, 4294967295, 6, 267, 9, 77, 65, 88, 71, 82, 79, 85, 80, 83, 4, 266, 0, 1073741823, 6, 269, 9, 99, 111, 112, 121, 114, 105, 103, 104, 116, 6, 268, 53, 32, 83, 82, 69, 32, 50, 46, 50, 46, 50, 32, 67, 111, 112, 121, 114, 105, 103, 104, 116, 32, 40, 99, 41, 32, 49, 57, 57, 55, 45, 50, 48, 48, 50, 32, 98, 121, 32, 83, 101, 99, 114, 101, 116, 32, 76, 97, 98, 115, 32, 65, 66, 32]) 0, .bool true, .bool false, vS "_sre" 271]) #[]
noncomputable def heap0 (P : Params) : Heap := ⟨⟨[boot_o_0 P, h0_1 P, h0_2 P, h0_3 P, boot_o_4 P, boot_o_5 P, boot_o_6 P, boot_o_7 P, boot_o_8 P, boot_o_9 P, boot_o_10 P, h0_11 P, h0_12 P, h0_13 P, h0_14 P, h0_15 P, h0_16 P, h0_17 P, h0_18 P, h0_19 P, h0_20 P, h0_21 P, h0_22 P, h0_23 P, h0_24 P, h0_25 P, h0_26 P, h0_27 P]⟩, lifeS⟩
noncomputable abbrev sh0 (w : World) (os : OsState) : Shared := ⟨heap0 w.params, #[], drawnS, 276, os⟩
noncomputable def hA_28 (P : Params) : Obj := ob (.type "tuple") none (.seq #[]) #[]
noncomputable def hA_29 (P : Params) : Obj := ob .none none (.fields #[]) #[]
noncomputable def hA_30 (P : Params) : Obj := ob (.type "code") none (.fields #[vS "<module>" 277, vS "<module>" 278, vS "/claim/cut.py" 279, .int 1 0, .int 0 0, .int 0 0, .int 0 0, .int 0 0, .ref 28, .bool false, .int 276 0, .ref 29, .none, .none, .none, .none, .int 280 0, .int 1 0, vS "/claim/cut.py" 281]) #[]
noncomputable def hA_31 (P : Params) : Obj := ob (.type "frame") none .plain #[some (.ref 30), some (.ref 3), some (.ref 3), none, some (vS "__main__" 164), none, some (.ref 0)]
noncomputable def heapA (P : Params) : Heap := ⟨⟨[boot_o_0 P, h0_1 P, h0_2 P, h0_3 P, boot_o_4 P, boot_o_5 P, boot_o_6 P, boot_o_7 P, boot_o_8 P, boot_o_9 P, boot_o_10 P, h0_11 P, h0_12 P, h0_13 P, h0_14 P, h0_15 P, h0_16 P, h0_17 P, h0_18 P, h0_19 P, h0_20 P, h0_21 P, h0_22 P, h0_23 P, h0_24 P, h0_25 P, h0_26 P, h0_27 P, hA_28 P, hA_29 P, hA_30 P, hA_31 P]⟩, lifeS⟩
noncomputable abbrev shA (w : World) (os : OsState) : Shared := ⟨heapA w.params, #[], drawnS, 282, os⟩
noncomputable def h7_3 (P : Params) : Obj := ob (.type "dict") none (.dict #[dE P "__name__" 165 (vS "re" 348), dE P "__doc__" 166 .none, dE P "__package__" 167 .none, dE P "__loader__" 168 (.builtin "__main__.__loader__#opaque"), dE P "__spec__" 169 .none, dE P "__annotations__" 170 (.ref 6), dE P "__builtins__" 171 (.ref 4), dE P "__file__" 173 (vS "/claim/cut.py" 172), dE P "__cached__" 174 .none, dE P "_sre" 275 (.ref 12), dE P "_wall" 288 (.ref 38), dE P "_strcoll" 298 (.ref 45), dE P "CHAR_MAX" 300 (.int 127 299), dE P "_grouping_intervals" 309 (.ref 52), dE P "_twin_re_1" 347 (.ref 57)] 15) #[]
noncomputable def h7_29 (P : Params) : Obj := ob .none none (.fields #[.int 2 0, .int 0 0, .ref 37, .int 6 0, .int 0 0, .ref 44, .int 9 0, .int 0 0, .ref 51]) #[]
noncomputable def h7_32 (P : Params) : Obj := ob (.type "tuple") none (.seq #[]) #[]
noncomputable def h7_33 (P : Params) : Obj := ob .none none (.fields #[]) #[]
noncomputable def h7_34 (P : Params) : Obj := ob (.type "tuple") none (.seq #[vS "k" 285]) #[]
noncomputable def h7_35 (P : Params) : Obj := ob (.type "tuple") none (.seq #[]) #[]
noncomputable def h7_36 (P : Params) : Obj := ob .none none (.func (fD (sS "_wall") (sS "_wall") (rec 1) 0 [] .none .none .none .none none .none .none 0)) #[]
noncomputable def h7_37 (P : Params) : Obj := ob (.type "code") none (.fields #[vS "_wall" 282, vS "_wall" 283, vS "/claim/cut.py" 284, .int 2 0, .int 1 0, .int 0 0, .int 0 0, .int 3 0, .ref 32, .bool true, .int 276 0, .ref 33, .none, .ref 34, .ref 35, .ref 36, .int 286 0, .int 2 0, vS "/claim/cut.py" 287]) #[]
noncomputable def h7_38 (P : Params) : Obj := ob (.type "function") none (.func (fD (sS "_wall") (sS "_wall") (rec 1) 3 [] .none .none .none (vS "__main__" 164) none (.ref 37) .none 0)) #[]
noncomputable def h7_39 (P : Params) : Obj := ob (.type "tuple") none (.seq #[]) #[]
noncomputable def h7_40 (P : Params) : Obj := ob .none none (.fields #[]) #[]
noncomputable def h7_41 (P : Params) : Obj := ob (.type "tuple") none (.seq #[vS "a" 294, vS "b" 295]) #[]
noncomputable def h7_42 (P : Params) : Obj := ob (.type "tuple") none (.seq #[]) #[]
noncomputable def h7_43 (P : Params) : Obj := ob .none none (.func (fD (sS "_strcoll") (sS "_strcoll") (rec 3) 0 [] .none .none .none .none none .none .none 0)) #[]
noncomputable def h7_44 (P : Params) : Obj := ob (.type "code") none (.fields #[vS "_strcoll" 291, vS "_strcoll" 292, vS "/claim/cut.py" 293, .int 6 0, .int 2 0, .int 0 0, .int 0 0, .int 3 0, .ref 39, .bool true, .int 276 0, .ref 40, .none, .ref 41, .ref 42, .ref 43, .int 296 0, .int 6 0, vS "/claim/cut.py" 297]) #[]
noncomputable def h7_45 (P : Params) : Obj := ob (.type "function") none (.func (fD (sS "_strcoll") (sS "_strcoll") (rec 3) 3 [] .none .none .none (vS "cpy313.locale" 289) none (.ref 44) .none 0)) #[]
noncomputable def h7_46 (P : Params) : Obj := ob (.type "tuple") none (.seq #[]) #[]
noncomputable def h7_47 (P : Params) : Obj := ob .none none (.fields #[]) #[]
noncomputable def h7_48 (P : Params) : Obj := ob (.type "tuple") none (.seq #[vS "grouping" 304, vS "last_interval" 305, vS "interval" 306]) #[]
noncomputable def h7_49 (P : Params) : Obj := ob (.type "tuple") none (.seq #[]) #[]
noncomputable def h7_50 (P : Params) : Obj := ob .none none (.func (fD (sS "_grouping_intervals") (sS "_grouping_intervals") (rec 5) 0 [] .none .none .none .none none .none .none 0)) #[]
noncomputable def h7_51 (P : Params) : Obj := ob (.type "code") none (.fields #[vS "_grouping_intervals" 301, vS "_grouping_intervals" 302, vS "/claim/cut.py" 303, .int 9 0, .int 1 0, .int 0 0, .int 0 0, .int 35 0, .ref 46, .bool true, .int 276 0, .ref 47, .none, .ref 48, .ref 49, .ref 50, .int 307 0, .int 9 0, vS "/claim/cut.py" 308]) #[]
noncomputable def h7_52 (P : Params) : Obj := ob (.type "function") none (.func (fD (sS "_grouping_intervals") (sS "_grouping_intervals") (rec 5) 3 [] .none .none .none (vS "cpy313.locale" 289) none (.ref 51) .none 0)) #[]
noncomputable def h7_53 (P : Params) : Obj := ob (.type "list") none (.seq #[.int 14 313, .int 14 314, .int 4 315, .int 1 316, .int 1 317, .int 9 318, .int 0 319, .int 64 320, .int 0 321, .int 1342177280 322, .int 0 323, .int 0 324, .int 0 325, .int 0 326, .int 0 327, .int 17 328, .int 0 329, .int 13 330, .int 11 331, .int 9 332, .int 0 333, .int 64 334, .int 0 335, .int 1342177280 336, .int 0 337, .int 0 338, .int 0 339, .int 0 340, .int 0 341, .int 17 342, .int 1 343, .int 1 344]) #[]
noncomputable def h7_54 (P : Params) : Obj := ob (.type "dict") none (.dict #[]) #[]
noncomputable def h7_55 (P : Params) : Obj := ob (.type "tuple") none (.seq #[.none, .none]) #[]
noncomputable def h7_56 (P : Params) : Obj := ob (.type "tuple") none (.seq #[.int 14 0, .int 14 0, .int 4 0, .int 1 0, .int 1 0, .int 9 0, .int 0 0, .int 64 0, .int 0 0, .int 1342177280 0, .int 0 0, .int 0 0, .int 0 0, .int 0 0, .int 0 0, .int 17 0, .int 0 0, .int 13 0, .int 11 0, .int 9 0, .int 0 0, .int 64 0, .int 0 0, .int 1342177280 0, .int 0 0, .int 0 0, .int 0 0, .int 0 0, .int 0 0, .int 17 0, .int 1 0, .int 1 0]) #[]
noncomputable def h7_57 (P : Params) : Obj := ob (.type "re.Pattern") none (.fields #[vS "([&~|])" 311, .int 32 346, .int 1 0, .none, .none, .ref 56, .int 0 0]) #[]
noncomputable def heap7 (P : Params) : Heap := ⟨⟨[boot_o_0 P, h0_1 P, h0_2 P, h7_3 P, boot_o_4 P, boot_o_5 P, boot_o_6 P, boot_o_7 P, boot_o_8 P, boot_o_9 P, boot_o_10 P, h0_11 P, h0_12 P, h0_13 P, h0_14 P, h0_15 P, h0_16 P, h0_17 P, h0_18 P, h0_19 P, h0_20 P, h0_21 P, h0_22 P, h0_23 P, h0_24 P, h0_25 P, h0_26 P, h0_27 P, hA_28 P, h7_29 P, hA_30 P, hA_31 P, h7_32 P, h7_33 P, h7_34 P, h7_35 P, h7_36 P, h7_37 P, h7_38 P, h7_39 P, h7_40 P, h7_41 P, h7_42 P, h7_43 P, h7_44 P, h7_45 P, h7_46 P, h7_47 P, h7_48 P, h7_49 P, h7_50 P, h7_51 P, h7_52 P, h7_53 P, h7_54 P, h7_55 P, h7_56 P, h7_57 P]⟩, lifeS⟩
noncomputable abbrev sh7 (w : World) (os : OsState) : Shared := ⟨heap7 w.params, #[], drawnS, 350, os⟩
noncomputable abbrev pos7 : Pos := ⟨22, 0, 22, 8⟩
noncomputable def h8_3 (P : Params) : Obj := ob (.type "dict") none (.dict #[dE P "__name__" 165 (vS "re" 348), dE P "__doc__" 166 .none, dE P "__package__" 167 .none, dE P "__loader__" 168 (.builtin "__main__.__loader__#opaque"), dE P "__spec__" 169 .none, dE P "__annotations__" 170 (.ref 6), dE P "__builtins__" 171 (.ref 4), dE P "__file__" 173 (vS "/claim/cut.py" 172), dE P "__cached__" 174 .none, dE P "_sre" 275 (.ref 12), dE P "_wall" 288 (.ref 38), dE P "_strcoll" 298 (.ref 45), dE P "CHAR_MAX" 300 (.int 127 299), dE P "_grouping_intervals" 309 (.ref 52), dE P "_twin_re_1" 347 (.ref 57), dE P "_special_chars_map" 495 (.ref 59)] 16) #[]
noncomputable def h8_58 (P : Params) : Obj := ob (.type "bytes_iterator") none (.fields #[.none, .int 24 0]) #[]
noncomputable def h8_59 (P : Params) : Obj := ob (.type "dict") none (.dict #[DictEntry.mk 40 (.int 40 351) (vS "\\(" 355), DictEntry.mk 41 (.int 41 357) (vS "\\)" 361), DictEntry.mk 91 (.int 91 363) (vS "\\[" 367), DictEntry.mk 93 (.int 93 369) (vS "\\]" 373), DictEntry.mk 123 (.int 123 375) (vS "\\{" 379), DictEntry.mk 125 (.int 125 381) (vS "\\}" 385), DictEntry.mk 63 (.int 63 387) (vS "\\?" 391), DictEntry.mk 42 (.int 42 393) (vS "\\*" 397), DictEntry.mk 43 (.int 43 399) (vS "\\+" 403), DictEntry.mk 45 (.int 45 405) (vS "\\-" 409), DictEntry.mk 124 (.int 124 411) (vS "\\|" 415), DictEntry.mk 94 (.int 94 417) (vS "\\^" 421), DictEntry.mk 36 (.int 36 423) (vS "\\$" 427), DictEntry.mk 92 (.int 92 429) (vS "\\\\" 433), DictEntry.mk 46 (.int 46 435) (vS "\\." 439), DictEntry.mk 38 (.int 38 441) (vS "\\&" 445), DictEntry.mk 126 (.int 126 447) (vS "\\~" 451), DictEntry.mk 35 (.int 35 453) (vS "\\#" 457), DictEntry.mk 32 (.int 32 459) (vS "\\ " 463), DictEntry.mk 9 (.int 9 465) (vS "\\\t" 469), DictEntry.mk 10 (.int 10 471) (vS "\\\n" 475), DictEntry.mk 13 (.int 13 477) (vS "\\\x0d" 481), DictEntry.mk 11 (.int 11 483) (vS "\\\x0b" 487), DictEntry.mk 12 (.int 12 489) (vS "\\\x0c" 493)] 24) #[]
noncomputable def h8_60 (P : Params) : Obj := ob (.type "dict") none (.dict #[] 2) #[]
noncomputable def h8_61 (P : Params) : Obj := ob (.type "tuple") none (.seq #[]) #[]
noncomputable def h8_62 (P : Params) : Obj := ob (.type "StopIteration") none (.fields #[.ref 61, .none, .none, .none, .bool false, .none]) #[]
noncomputable def heap8 (P : Params) : Heap := ⟨⟨[boot_o_0 P, h0_1 P, h0_2 P, h8_3 P, boot_o_4 P, boot_o_5 P, boot_o_6 P, boot_o_7 P, boot_o_8 P, boot_o_9 P, boot_o_10 P, h0_11 P, h0_12 P, h0_13 P, h0_14 P, h0_15 P, h0_16 P, h0_17 P, h0_18 P, h0_19 P, h0_20 P, h0_21 P, h0_22 P, h0_23 P, h0_24 P, h0_25 P, h0_26 P, h0_27 P, hA_28 P, h7_29 P, hA_30 P, hA_31 P, h7_32 P, h7_33 P, h7_34 P, h7_35 P, h7_36 P, h7_37 P, h7_38 P, h7_39 P, h7_40 P, h7_41 P, h7_42 P, h7_43 P, h7_44 P, h7_45 P, h7_46 P, h7_47 P, h7_48 P, h7_49 P, h7_50 P, h7_51 P, h7_52 P, h7_53 P, h7_54 P, h7_55 P, h7_56 P, h7_57 P, h8_58 P, h8_59 P, h8_60 P, h8_61 P, h8_62 P]⟩, lifeS⟩
noncomputable abbrev sh8 (w : World) (os : OsState) : Shared := ⟨heap8 w.params, #[], drawnS, 496, os⟩
noncomputable abbrev pos8 : Pos := ⟨23, 0, 23, 18⟩
noncomputable def h16_3 (P : Params) : Obj := ob (.type "dict") none (.dict #[dE P "__name__" 165 (vS "collections.abc" 561), dE P "__doc__" 166 .none, dE P "__package__" 167 .none, dE P "__loader__" 168 (.builtin "__main__.__loader__#opaque"), dE P "__spec__" 169 .none, dE P "__annotations__" 170 (.ref 6), dE P "__builtins__" 171 (.ref 4), dE P "__file__" 173 (vS "/claim/cut.py" 172), dE P "__cached__" 174 .none, dE P "_sre" 275 (.ref 12), dE P "_wall" 288 (.ref 38), dE P "_strcoll" 298 (.ref 45), dE P "CHAR_MAX" 300 (.int 127 299), dE P "_grouping_intervals" 309 (.ref 52), dE P "_twin_re_1" 347 (.ref 57), dE P "_special_chars_map" 495 (.ref 59), dE P "escape" 502 (.ref 69), dE P "_translate" 523 (.ref 76), dE P "_plain_name" 534 (.ref 83), dE P "ABCMeta" 560 (.ref 100)] 20) #[]
noncomputable def h16_29 (P : Params) : Obj := ob .none none (.fields #[.int 2 0, .int 0 0, .ref 37, .int 6 0, .int 0 0, .ref 44, .int 9 0, .int 0 0, .ref 51, .int 24 0, .int 0 0, .ref 68, .int 31 0, .int 0 0, .ref 75, .int 94 0, .int 0 0, .ref 82, .int 100 0, .int 0 0, .ref 89]) #[]
noncomputable def h16_63 (P : Params) : Obj := ob (.type "tuple") none (.seq #[]) #[]
noncomputable def h16_64 (P : Params) : Obj := ob .none none (.fields #[]) #[]
noncomputable def h16_65 (P : Params) : Obj := ob (.type "tuple") none (.seq #[vS "pattern" 499]) #[]
noncomputable def h16_66 (P : Params) : Obj := ob (.type "tuple") none (.seq #[]) #[]
noncomputable def h16_67 (P : Params) : Obj := ob .none none (.func (fD (sS "escape") (sS "escape") (rec 9) 0 [] .none .none .none .none none .none .none 0)) #[]
noncomputable def h16_68 (P : Params) : Obj := ob (.type "code") none (.fields #[vS "escape" 496, vS "escape" 497, vS "/claim/cut.py" 498, .int 24 0, .int 1 0, .int 0 0, .int 0 0, .int 3 0, .ref 63, .bool true, .int 276 0, .ref 64, .none, .ref 65, .ref 66, .ref 67, .int 500 0, .int 24 0, vS "/claim/cut.py" 501]) #[]
noncomputable def h16_69 (P : Params) : Obj := ob (.type "function") none (.func (fD (sS "escape") (sS "escape") (rec 9) 3 [] .none .none .none (vS "re" 348) none (.ref 68) .none 0)) #[]
noncomputable def h16_70 (P : Params) : Obj := ob (.type "tuple") none (.seq #[]) #[]
noncomputable def h16_71 (P : Params) : Obj := ob .none none (.fields #[]) #[]
noncomputable def h16_72 (P : Params) : Obj := ob (.type "tuple") none (.seq #[vS "pat" 508, vS "STAR" 509, vS "QUESTION_MARK" 510, vS "res" 511, vS "add" 512, vS "i" 513, vS "n" 514, vS "c" 515, vS "j" 516, vS "stuff" 517, vS "chunks" 518, vS "k" 519, vS "chunk" 520]) #[]
noncomputable def h16_73 (P : Params) : Obj := ob (.type "tuple") none (.seq #[]) #[]
noncomputable def h16_74 (P : Params) : Obj := ob .none none (.func (fD (sS "_translate") (sS "_translate") (rec 11) 0 [] .none .none .none .none none .none .none 0)) #[]
noncomputable def h16_75 (P : Params) : Obj := ob (.type "code") none (.fields #[vS "_translate" 505, vS "_translate" 506, vS "/claim/cut.py" 507, .int 31 0, .int 3 0, .int 0 0, .int 0 0, .int 3 0, .ref 70, .bool true, .int 276 0, .ref 71, .none, .ref 72, .ref 73, .ref 74, .int 521 0, .int 31 0, vS "/claim/cut.py" 522]) #[]
noncomputable def h16_76 (P : Params) : Obj := ob (.type "function") none (.func (fD (sS "_translate") (sS "_translate") (rec 11) 3 [] .none .none .none (vS "cpy313.fnmatch" 503) none (.ref 75) .none 0)) #[]
noncomputable def h16_77 (P : Params) : Obj := ob (.type "tuple") none (.seq #[]) #[]
noncomputable def h16_78 (P : Params) : Obj := ob .none none (.fields #[]) #[]
noncomputable def h16_79 (P : Params) : Obj := ob (.type "tuple") none (.seq #[vS "x" 529, vS "what" 530, vS "kind" 531]) #[]
noncomputable def h16_80 (P : Params) : Obj := ob (.type "tuple") none (.seq #[]) #[]
noncomputable def h16_81 (P : Params) : Obj := ob .none none (.func (fD (sS "_plain_name") (sS "_plain_name") (rec 13) 0 [] .none .none .none .none none .none .none 0)) #[]
noncomputable def h16_82 (P : Params) : Obj := ob (.type "code") none (.fields #[vS "_plain_name" 526, vS "_plain_name" 527, vS "/claim/cut.py" 528, .int 94 0, .int 2 0, .int 0 0, .int 0 0, .int 3 0, .ref 77, .bool true, .int 276 0, .ref 78, .none, .ref 79, .ref 80, .ref 81, .int 532 0, .int 94 0, vS "/claim/cut.py" 533]) #[]
noncomputable def h16_83 (P : Params) : Obj := ob (.type "function") none (.func (fD (sS "_plain_name") (sS "_plain_name") (rec 13) 3 [] .none .none .none (vS "os" 524) none (.ref 82) .none 0)) #[]
noncomputable def h16_84 (P : Params) : Obj := ob (.type "tuple") none (.seq #[.type "type"]) #[]
noncomputable def h16_85 (P : Params) : Obj := ob (.type "builtin_function_or_method") none (.fields #[.builtin "type.__prepare__", .type "type"]) #[]
noncomputable def h16_86 (P : Params) : Obj := ob (.type "dict") none (.dict #[dE P "__module__" 544 (vS "abc" 535), dE P "__qualname__" 546 (vS "ABCMeta" 545), dE P "__firstlineno__" 548 (.int 100 547), dE P "register" 556 (.ref 97), dE P "__static_attributes__" 557 (.ref 98)] 5) #[]
noncomputable def h16_87 (P : Params) : Obj := ob (.type "tuple") none (.seq #[]) #[]
noncomputable def h16_88 (P : Params) : Obj := ob .none none (.fields #[.int 102 0, .int 4 0, .ref 96]) #[]
noncomputable def h16_89 (P : Params) : Obj := ob (.type "code") none (.fields #[vS "ABCMeta" 539, vS "ABCMeta" 540, vS "/claim/cut.py" 541, .int 100 0, .int 0 0, .int 0 0, .int 0 0, .int 0 0, .ref 87, .bool false, .int 276 0, .ref 88, .none, .none, .none, .none, .int 542 0, .int 100 0, vS "/claim/cut.py" 543]) #[]
noncomputable def h16_90 (P : Params) : Obj := ob (.type "frame") none .plain #[some (.ref 89), some (.ref 3), some (.ref 86), none, some (vS "abc" 535), none, some (.ref 0)]
noncomputable def h16_91 (P : Params) : Obj := ob (.type "tuple") none (.seq #[]) #[]
noncomputable def h16_92 (P : Params) : Obj := ob .none none (.fields #[]) #[]
noncomputable def h16_93 (P : Params) : Obj := ob (.type "tuple") none (.seq #[vS "cls" 552, vS "subclass" 553]) #[]
noncomputable def h16_94 (P : Params) : Obj := ob (.type "tuple") none (.seq #[]) #[]
noncomputable def h16_95 (P : Params) : Obj := ob .none none (.func (fD (sS "register") (sS "ABCMeta.register") (meth 15 0) 0 [] .none .none .none .none none .none .none 0)) #[]
noncomputable def h16_96 (P : Params) : Obj := ob (.type "code") none (.fields #[vS "register" 549, vS "ABCMeta.register" 550, vS "/claim/cut.py" 551, .int 102 0, .int 2 0, .int 0 0, .int 0 0, .int 3 0, .ref 91, .bool true, .int 276 0, .ref 92, .none, .ref 93, .ref 94, .ref 95, .int 554 0, .int 102 0, vS "/claim/cut.py" 555]) #[]
noncomputable def h16_97 (P : Params) : Obj := ob (.type "function") none (.func (fD (sS "register") (sS "ABCMeta.register") (meth 15 0) 3 [] .none .none .none (vS "abc" 535) none (.ref 96) .none 0)) #[]
noncomputable def h16_98 (P : Params) : Obj := ob (.type "tuple") none (.seq #[]) #[]
noncomputable def h16_99 (P : Params) : Obj := ob (.type "dict") none (.dict #[dE P "__module__" 544 (vS "abc" 535), dE P "__firstlineno__" 548 (.int 100 547), dE P "register" 556 (.ref 97), dE P "__static_attributes__" 557 (.ref 98), dE P "__doc__" 558 .none] 2) #[]
noncomputable def h16_100 (P : Params) : Obj := ob (.type "type") none (.cls (ClassData.mk (sS "ABCMeta") [.type "type"] [.ref 100, .type "type", .type "object"] 99 (sS "ABCMeta") true [] [] false none false)) #[some (.ref 84), none, some (vS "ABCMeta" 537), some (vS "ABCMeta" 545), some (.builtin "type.__new__"), some (.bool true)]
noncomputable def h16_101 (P : Params) : Obj := ob (.type "super") none (.fields #[.ref 100, .ref 100, .ref 100]) #[]
noncomputable def h16_102 (P : Params) : Obj := ob (.type "builtin_function_or_method") none (.fields #[.builtin "object.__init_subclass__", .ref 100]) #[]
noncomputable def heap16 (P : Params) : Heap := ⟨⟨[boot_o_0 P, h0_1 P, h0_2 P, h16_3 P, boot_o_4 P, boot_o_5 P, boot_o_6 P, boot_o_7 P, boot_o_8 P, boot_o_9 P, boot_o_10 P, h0_11 P, h0_12 P, h0_13 P, h0_14 P, h0_15 P, h0_16 P, h0_17 P, h0_18 P, h0_19 P, h0_20 P, h0_21 P, h0_22 P, h0_23 P, h0_24 P, h0_25 P, h0_26 P, h0_27 P, hA_28 P, h16_29 P, hA_30 P, hA_31 P, h7_32 P, h7_33 P, h7_34 P, h7_35 P, h7_36 P, h7_37 P, h7_38 P, h7_39 P, h7_40 P, h7_41 P, h7_42 P, h7_43 P, h7_44 P, h7_45 P, h7_46 P, h7_47 P, h7_48 P, h7_49 P, h7_50 P, h7_51 P, h7_52 P, h7_53 P, h7_54 P, h7_55 P, h7_56 P, h7_57 P, h8_58 P, h8_59 P, h8_60 P, h8_61 P, h8_62 P, h16_63 P, h16_64 P, h16_65 P, h16_66 P, h16_67 P, h16_68 P, h16_69 P, h16_70 P, h16_71 P, h16_72 P, h16_73 P, h16_74 P, h16_75 P, h16_76 P, h16_77 P, h16_78 P, h16_79 P, h16_80 P, h16_81 P, h16_82 P, h16_83 P, h16_84 P, h16_85 P, h16_86 P, h16_87 P, h16_88 P, h16_89 P, h16_90 P, h16_91 P, h16_92 P, h16_93 P, h16_94 P, h16_95 P, h16_96 P, h16_97 P, h16_98 P, h16_99 P, h16_100 P, h16_101 P, h16_102 P]⟩, lifeS⟩
noncomputable abbrev sh16 (w : World) (os : OsState) : Shared := ⟨heap16 w.params, #[], drawnS, 563, os⟩
noncomputable abbrev pos16 : Pos := ⟨104, 0, 104, 8⟩
noncomputable def h23_3 (P : Params) : Obj := ob (.type "dict") none (.dict #[dE P "__name__" 165 (vS "cpy313.posixpath" 636), dE P "__doc__" 166 .none, dE P "__package__" 167 .none, dE P "__loader__" 168 (.builtin "__main__.__loader__#opaque"), dE P "__spec__" 169 .none, dE P "__annotations__" 170 (.ref 6), dE P "__builtins__" 171 (.ref 4), dE P "__file__" 173 (vS "/claim/cut.py" 172), dE P "__cached__" 174 .none, dE P "_sre" 275 (.ref 12), dE P "_wall" 288 (.ref 38), dE P "_strcoll" 298 (.ref 45), dE P "CHAR_MAX" 300 (.int 127 299), dE P "_grouping_intervals" 309 (.ref 52), dE P "_twin_re_1" 347 (.ref 57), dE P "_special_chars_map" 495 (.ref 59), dE P "escape" 502 (.ref 69), dE P "_translate" 523 (.ref 76), dE P "_plain_name" 534 (.ref 83), dE P "ABCMeta" 560 (.ref 100), dE P "_ABCLike" 603 (.ref 133), dE P "_abc_plain_meta" 610 (.ref 142), dE P "fspath" 622 (.ref 149), dE P "_check_arg_types" 635 (.ref 156)] 24) #[]
noncomputable def h23_29 (P : Params) : Obj := ob .none none (.fields #[.int 2 0, .int 0 0, .ref 37, .int 6 0, .int 0 0, .ref 44, .int 9 0, .int 0 0, .ref 51, .int 24 0, .int 0 0, .ref 68, .int 31 0, .int 0 0, .ref 75, .int 94 0, .int 0 0, .ref 82, .int 100 0, .int 0 0, .ref 89, .int 105 0, .int 0 0, .ref 108, .int 120 0, .int 0 0, .ref 141, .int 124 0, .int 0 0, .ref 148, .int 141 0, .int 0 0, .ref 155]) #[]
noncomputable def h23_100 (P : Params) : Obj := ob (.type "type") none (.cls (ClassData.mk (sS "ABCMeta") [.type "type"] [.ref 100, .type "type", .type "object"] 99 (sS "ABCMeta") true [] [.ref 133] false none false)) #[some (.ref 84), none, some (vS "ABCMeta" 537), some (vS "ABCMeta" 545), some (.builtin "type.__new__"), some (.bool true)]
noncomputable def h23_103 (P : Params) : Obj := ob (.type "tuple") none (.seq #[.ref 100]) #[]
noncomputable def h23_104 (P : Params) : Obj := ob (.type "builtin_function_or_method") none (.fields #[.builtin "type.__prepare__", .type "type"]) #[]
noncomputable def h23_105 (P : Params) : Obj := ob (.type "dict") none (.dict #[dE P "__module__" 570 (vS "collections.abc" 561), dE P "__qualname__" 572 (vS "_ABCLike" 571), dE P "__firstlineno__" 574 (.int 105 573), dE P "__instancecheck__" 583 (.ref 116), dE P "__subclasscheck__" 591 (.ref 123), dE P "register" 599 (.ref 130), dE P "__static_attributes__" 600 (.ref 131)] 7) #[]
noncomputable def h23_106 (P : Params) : Obj := ob (.type "tuple") none (.seq #[]) #[]
noncomputable def h23_107 (P : Params) : Obj := ob .none none (.fields #[.int 107 0, .int 4 0, .ref 115, .int 113 0, .int 4 0, .ref 122, .int 118 0, .int 4 0, .ref 129]) #[]
noncomputable def h23_108 (P : Params) : Obj := ob (.type "code") none (.fields #[vS "_ABCLike" 565, vS "_ABCLike" 566, vS "/claim/cut.py" 567, .int 105 0, .int 0 0, .int 0 0, .int 0 0, .int 0 0, .ref 106, .bool false, .int 276 0, .ref 107, .none, .none, .none, .none, .int 568 0, .int 105 0, vS "/claim/cut.py" 569]) #[]
noncomputable def h23_109 (P : Params) : Obj := ob (.type "frame") none .plain #[some (.ref 108), some (.ref 3), some (.ref 105), none, some (vS "collections.abc" 561), none, some (.ref 0)]
noncomputable def h23_110 (P : Params) : Obj := ob (.type "tuple") none (.seq #[]) #[]
noncomputable def h23_111 (P : Params) : Obj := ob .none none (.fields #[]) #[]
noncomputable def h23_112 (P : Params) : Obj := ob (.type "tuple") none (.seq #[vS "cls" 578, vS "\x69nstance" 579, vS "C" 580]) #[]
noncomputable def h23_113 (P : Params) : Obj := ob (.type "tuple") none (.seq #[]) #[]
noncomputable def h23_114 (P : Params) : Obj := ob .none none (.func (fD (sS "__instancecheck__") (sS "_ABCLike.__instancecheck__") (meth 17 0) 0 [] .none .none .none .none none .none .none 0)) #[]
noncomputable def h23_115 (P : Params) : Obj := ob (.type "code") none (.fields #[vS "__instancecheck__" 575, vS "_ABCLike.__instancecheck__" 576, vS "/claim/cut.py" 577, .int 107 0, .int 2 0, .int 0 0, .int 0 0, .int 3 0, .ref 110, .bool true, .int 276 0, .ref 111, .none, .ref 112, .ref 113, .ref 114, .int 581 0, .int 107 0, vS "/claim/cut.py" 582]) #[]
noncomputable def h23_116 (P : Params) : Obj := ob (.type "function") none (.func (fD (sS "__instancecheck__") (sS "_ABCLike.__instancecheck__") (meth 17 0) 3 [] .none .none .none (vS "collections.abc" 561) none (.ref 115) .none 0)) #[]
noncomputable def h23_117 (P : Params) : Obj := ob (.type "tuple") none (.seq #[]) #[]
noncomputable def h23_118 (P : Params) : Obj := ob .none none (.fields #[]) #[]
noncomputable def h23_119 (P : Params) : Obj := ob (.type "tuple") none (.seq #[vS "cls" 587, vS "C" 588]) #[]
noncomputable def h23_120 (P : Params) : Obj := ob (.type "tuple") none (.seq #[]) #[]
noncomputable def h23_121 (P : Params) : Obj := ob .none none (.func (fD (sS "__subclasscheck__") (sS "_ABCLike.__subclasscheck__") (meth 17 1) 0 [] .none .none .none .none none .none .none 0)) #[]
noncomputable def h23_122 (P : Params) : Obj := ob (.type "code") none (.fields #[vS "__subclasscheck__" 584, vS "_ABCLike.__subclasscheck__" 585, vS "/claim/cut.py" 586, .int 113 0, .int 2 0, .int 0 0, .int 0 0, .int 3 0, .ref 117, .bool true, .int 276 0, .ref 118, .none, .ref 119, .ref 120, .ref 121, .int 589 0, .int 113 0, vS "/claim/cut.py" 590]) #[]
noncomputable def h23_123 (P : Params) : Obj := ob (.type "function") none (.func (fD (sS "__subclasscheck__") (sS "_ABCLike.__subclasscheck__") (meth 17 1) 3 [] .none .none .none (vS "collections.abc" 561) none (.ref 122) .none 0)) #[]
noncomputable def h23_124 (P : Params) : Obj := ob (.type "tuple") none (.seq #[]) #[]
noncomputable def h23_125 (P : Params) : Obj := ob .none none (.fields #[]) #[]
noncomputable def h23_126 (P : Params) : Obj := ob (.type "tuple") none (.seq #[vS "cls" 595, vS "subclass" 596]) #[]
noncomputable def h23_127 (P : Params) : Obj := ob (.type "tuple") none (.seq #[]) #[]
noncomputable def h23_128 (P : Params) : Obj := ob .none none (.func (fD (sS "register") (sS "_ABCLike.register") (meth 17 2) 0 [] .none .none .none .none none .none .none 0)) #[]
noncomputable def h23_129 (P : Params) : Obj := ob (.type "code") none (.fields #[vS "register" 592, vS "_ABCLike.register" 593, vS "/claim/cut.py" 594, .int 118 0, .int 2 0, .int 0 0, .int 0 0, .int 3 0, .ref 124, .bool true, .int 276 0, .ref 125, .none, .ref 126, .ref 127, .ref 128, .int 597 0, .int 118 0, vS "/claim/cut.py" 598]) #[]
noncomputable def h23_130 (P : Params) : Obj := ob (.type "function") none (.func (fD (sS "register") (sS "_ABCLike.register") (meth 17 2) 3 [] .none .none .none (vS "collections.abc" 561) none (.ref 129) .none 0)) #[]
noncomputable def h23_131 (P : Params) : Obj := ob (.type "tuple") none (.seq #[]) #[]
noncomputable def h23_132 (P : Params) : Obj := ob (.type "dict") none (.dict #[dE P "__module__" 570 (vS "collections.abc" 561), dE P "__firstlineno__" 574 (.int 105 573), dE P "__instancecheck__" 583 (.ref 116), dE P "__subclasscheck__" 591 (.ref 123), dE P "register" 599 (.ref 130), dE P "__static_attributes__" 600 (.ref 131), dE P "__doc__" 601 .none] 2) #[]
noncomputable def h23_133 (P : Params) : Obj := ob (.type "type") none (.cls (ClassData.mk (sS "_ABCLike") [.ref 100] [.ref 133, .ref 100, .type "type", .type "object"] 132 (sS "_ABCLike") true [] [] false none false)) #[some (.ref 103), none, some (vS "_ABCLike" 563), some (vS "_ABCLike" 571), some (.builtin "type.__new__"), some (.bool true)]
noncomputable def h23_134 (P : Params) : Obj := ob (.type "super") none (.fields #[.ref 133, .ref 133, .ref 133]) #[]
noncomputable def h23_135 (P : Params) : Obj := ob (.type "builtin_function_or_method") none (.fields #[.builtin "object.__init_subclass__", .ref 133]) #[]
noncomputable def h23_136 (P : Params) : Obj := ob (.type "tuple") none (.seq #[]) #[]
noncomputable def h23_137 (P : Params) : Obj := ob .none none (.fields #[]) #[]
noncomputable def h23_138 (P : Params) : Obj := ob (.type "tuple") none (.seq #[vS "C" 607]) #[]
noncomputable def h23_139 (P : Params) : Obj := ob (.type "tuple") none (.seq #[]) #[]
noncomputable def h23_140 (P : Params) : Obj := ob .none none (.func (fD (sS "_abc_plain_meta") (sS "_abc_plain_meta") (rec 18) 0 [] .none .none .none .none none .none .none 0)) #[]
noncomputable def h23_141 (P : Params) : Obj := ob (.type "code") none (.fields #[vS "_abc_plain_meta" 604, vS "_abc_plain_meta" 605, vS "/claim/cut.py" 606, .int 120 0, .int 1 0, .int 0 0, .int 0 0, .int 3 0, .ref 136, .bool true, .int 276 0, .ref 137, .none, .ref 138, .ref 139, .ref 140, .int 608 0, .int 120 0, vS "/claim/cut.py" 609]) #[]
noncomputable def h23_142 (P : Params) : Obj := ob (.type "function") none (.func (fD (sS "_abc_plain_meta") (sS "_abc_plain_meta") (rec 18) 3 [] .none .none .none (vS "collections.abc" 561) none (.ref 141) .none 0)) #[]
noncomputable def h23_143 (P : Params) : Obj := ob (.type "tuple") none (.seq #[]) #[]
noncomputable def h23_144 (P : Params) : Obj := ob .none none (.fields #[]) #[]
noncomputable def h23_145 (P : Params) : Obj := ob (.type "tuple") none (.seq #[vS "path" 616, vS "kind" 617, vS "hook" 618, vS "given" 619]) #[]
noncomputable def h23_146 (P : Params) : Obj := ob (.type "tuple") none (.seq #[]) #[]
noncomputable def h23_147 (P : Params) : Obj := ob .none none (.func (fD (sS "fspath") (sS "fspath") (rec 20) 0 [] .none .none .none .none none .none .none 0)) #[]
noncomputable def h23_148 (P : Params) : Obj := ob (.type "code") none (.fields #[vS "fspath" 613, vS "fspath" 614, vS "/claim/cut.py" 615, .int 124 0, .int 1 0, .int 0 0, .int 0 0, .int 3 0, .ref 143, .bool true, .int 276 0, .ref 144, .none, .ref 145, .ref 146, .ref 147, .int 620 0, .int 124 0, vS "/claim/cut.py" 621]) #[]
noncomputable def h23_149 (P : Params) : Obj := ob (.type "function") none (.func (fD (sS "fspath") (sS "fspath") (rec 20) 3 [] .none .none .none (vS "os" 611) none (.ref 148) .none 0)) #[]
noncomputable def h23_150 (P : Params) : Obj := ob (.type "tuple") none (.seq #[]) #[]
noncomputable def h23_151 (P : Params) : Obj := ob .none none (.fields #[]) #[]
noncomputable def h23_152 (P : Params) : Obj := ob (.type "tuple") none (.seq #[vS "funcname" 628, vS "args" 629, vS "hasstr" 630, vS "hasbytes" 631, vS "s" 632]) #[]
noncomputable def h23_153 (P : Params) : Obj := ob (.type "tuple") none (.seq #[]) #[]
noncomputable def h23_154 (P : Params) : Obj := ob .none none (.func (fD (sS "_check_arg_types") (sS "_check_arg_types") (rec 22) 0 [] .none .none .none .none none .none .none 0)) #[]
noncomputable def h23_155 (P : Params) : Obj := ob (.type "code") none (.fields #[vS "_check_arg_types" 625, vS "_check_arg_types" 626, vS "/claim/cut.py" 627, .int 141 0, .int 1 0, .int 0 0, .int 0 0, .int 7 0, .ref 150, .bool true, .int 276 0, .ref 151, .none, .ref 152, .ref 153, .ref 154, .int 633 0, .int 141 0, vS "/claim/cut.py" 634]) #[]
noncomputable def h23_156 (P : Params) : Obj := ob (.type "function") none (.func (fD (sS "_check_arg_types") (sS "_check_arg_types") (rec 22) 3 [] .none .none .none (vS "cpy313.genericpath" 623) none (.ref 155) .none 0)) #[]
noncomputable def heap23 (P : Params) : Heap := ⟨⟨[boot_o_0 P, h0_1 P, h0_2 P, h23_3 P, boot_o_4 P, boot_o_5 P, boot_o_6 P, boot_o_7 P, boot_o_8 P, boot_o_9 P, boot_o_10 P, h0_11 P, h0_12 P, h0_13 P, h0_14 P, h0_15 P, h0_16 P, h0_17 P, h0_18 P, h0_19 P, h0_20 P, h0_21 P, h0_22 P, h0_23 P, h0_24 P, h0_25 P, h0_26 P, h0_27 P, hA_28 P, h23_29 P, hA_30 P, hA_31 P, h7_32 P, h7_33 P, h7_34 P, h7_35 P, h7_36 P, h7_37 P, h7_38 P, h7_39 P, h7_40 P, h7_41 P, h7_42 P, h7_43 P, h7_44 P, h7_45 P, h7_46 P, h7_47 P, h7_48 P, h7_49 P, h7_50 P, h7_51 P, h7_52 P, h7_53 P, h7_54 P, h7_55 P, h7_56 P, h7_57 P, h8_58 P, h8_59 P, h8_60 P, h8_61 P, h8_62 P, h16_63 P, h16_64 P, h16_65 P, h16_66 P, h16_67 P, h16_68 P, h16_69 P, h16_70 P, h16_71 P, h16_72 P, h16_73 P, h16_74 P, h16_75 P, h16_76 P, h16_77 P, h16_78 P, h16_79 P, h16_80 P, h16_81 P, h16_82 P, h16_83 P, h16_84 P, h16_85 P, h16_86 P, h16_87 P, h16_88 P, h16_89 P, h16_90 P, h16_91 P, h16_92 P, h16_93 P, h16_94 P, h16_95 P, h16_96 P, h16_97 P, h16_98 P, h16_99 P, h23_100 P, h16_101 P, h16_102 P, h23_103 P, h23_104 P, h23_105 P, h23_106 P, h23_107 P, h23_108 P, h23_109 P, h23_110 P, h23_111 P, h23_112 P, h23_113 P, h23_114 P, h23_115 P, h23_116 P, h23_117 P, h23_118 P, h23_119 P, h23_120 P, h23_121 P, h23_122 P, h23_123 P, h23_124 P, h23_125 P, h23_126 P, h23_127 P, h23_128 P, h23_129 P, h23_130 P, h23_131 P, h23_132 P, h23_133 P, h23_134 P, h23_135 P, h23_136 P, h23_137 P, h23_138 P, h23_139 P, h23_140 P, h23_141 P, h23_142 P, h23_143 P, h23_144 P, h23_145 P, h23_146 P, h23_147 P, h23_148 P, h23_149 P, h23_150 P, h23_151 P, h23_152 P, h23_153 P, h23_154 P, h23_155 P, h23_156 P]⟩, lifeS⟩
noncomputable abbrev sh23 (w : World) (os : OsState) : Shared := ⟨heap23 w.params, #[], drawnS, 638, os⟩
noncomputable abbrev pos23 : Pos := ⟨152, 0, 152, 8⟩
noncomputable def h33_3 (P : Params) : Obj := ob (.type "dict") none (.dict #[dE P "__name__" 165 (vS "law_rx0081_01" 662), dE P "__doc__" 166 .none, dE P "__package__" 167 .none, dE P "__loader__" 168 (.builtin "__main__.__loader__#opaque"), dE P "__spec__" 169 .none, dE P "__annotations__" 170 (.ref 6), dE P "__builtins__" 171 (.ref 4), dE P "__file__" 173 (vS "/claim/cut.py" 172), dE P "__cached__" 174 .none, dE P "_sre" 275 (.ref 12), dE P "_wall" 288 (.ref 38), dE P "_strcoll" 298 (.ref 45), dE P "CHAR_MAX" 300 (.int 127 299), dE P "_grouping_intervals" 309 (.ref 52), dE P "_twin_re_1" 347 (.ref 57), dE P "_special_chars_map" 495 (.ref 59), dE P "escape" 502 (.ref 69), dE P "_translate" 523 (.ref 76), dE P "_plain_name" 534 (.ref 83), dE P "ABCMeta" 560 (.ref 100), dE P "_ABCLike" 603 (.ref 133), dE P "_abc_plain_meta" 610 (.ref 142), dE P "fspath" 622 (.ref 149), dE P "_check_arg_types" 635 (.ref 156), dE P "_get_sep" 644 (.ref 163), dE P "join" 655 (.ref 170), dE P "commonpath" 661 (.ref 175), dE P "_law_cut" 674 (.ref 182), dE P "_law_bits" 680 (.ref 187), dE P "_law_spelled" 692 (.ref 194), dE P "_law_shared" 703 (.ref 201), dE P "_law_takes" 717 (.ref 208), dE P "law" 723 (.ref 213)] 33) #[]
noncomputable def h33_29 (P : Params) : Obj := ob .none none (.fields #[.int 2 0, .int 0 0, .ref 37, .int 6 0, .int 0 0, .ref 44, .int 9 0, .int 0 0, .ref 51, .int 24 0, .int 0 0, .ref 68, .int 31 0, .int 0 0, .ref 75, .int 94 0, .int 0 0, .ref 82, .int 100 0, .int 0 0, .ref 89, .int 105 0, .int 0 0, .ref 108, .int 120 0, .int 0 0, .ref 141, .int 124 0, .int 0 0, .ref 148, .int 141 0, .int 0 0, .ref 155, .int 153 0, .int 0 0, .ref 162, .int 158 0, .int 0 0, .ref 169, .int 175 0, .int 0 0, .ref 174, .int 205 0, .int 0 0, .ref 181, .int 217 0, .int 0 0, .ref 186, .int 231 0, .int 0 0, .ref 193, .int 239 0, .int 0 0, .ref 200, .int 249 0, .int 0 0, .ref 207, .int 268 0, .int 0 0, .ref 212]) #[]
noncomputable def h33_157 (P : Params) : Obj := ob (.type "tuple") none (.seq #[]) #[]
noncomputable def h33_158 (P : Params) : Obj := ob .none none (.fields #[]) #[]
noncomputable def h33_159 (P : Params) : Obj := ob (.type "tuple") none (.seq #[vS "path" 641]) #[]
noncomputable def h33_160 (P : Params) : Obj := ob (.type "tuple") none (.seq #[]) #[]
noncomputable def h33_161 (P : Params) : Obj := ob .none none (.func (fD (sS "_get_sep") (sS "_get_sep") (rec 24) 0 [] .none .none .none .none none .none .none 0)) #[]
noncomputable def h33_162 (P : Params) : Obj := ob (.type "code") none (.fields #[vS "_get_sep" 638, vS "_get_sep" 639, vS "/claim/cut.py" 640, .int 153 0, .int 1 0, .int 0 0, .int 0 0, .int 3 0, .ref 157, .bool true, .int 276 0, .ref 158, .none, .ref 159, .ref 160, .ref 161, .int 642 0, .int 153 0, vS "/claim/cut.py" 643]) #[]
noncomputable def h33_163 (P : Params) : Obj := ob (.type "function") none (.func (fD (sS "_get_sep") (sS "_get_sep") (rec 24) 3 [] .none .none .none (vS "cpy313.posixpath" 636) none (.ref 162) .none 0)) #[]
noncomputable def h33_164 (P : Params) : Obj := ob (.type "tuple") none (.seq #[]) #[]
noncomputable def h33_165 (P : Params) : Obj := ob .none none (.fields #[]) #[]
noncomputable def h33_166 (P : Params) : Obj := ob (.type "tuple") none (.seq #[vS "a" 648, vS "p" 649, vS "sep" 650, vS "path" 651, vS "b" 652]) #[]
noncomputable def h33_167 (P : Params) : Obj := ob (.type "tuple") none (.seq #[]) #[]
noncomputable def h33_168 (P : Params) : Obj := ob .none none (.func (fD (sS "join") (sS "join") (rec 25) 0 [] .none .none .none .none none .none .none 0)) #[]
noncomputable def h33_169 (P : Params) : Obj := ob (.type "code") none (.fields #[vS "join" 645, vS "join" 646, vS "/claim/cut.py" 647, .int 158 0, .int 1 0, .int 0 0, .int 0 0, .int 7 0, .ref 164, .bool true, .int 276 0, .ref 165, .none, .ref 166, .ref 167, .ref 168, .int 653 0, .int 158 0, vS "/claim/cut.py" 654]) #[]
noncomputable def h33_170 (P : Params) : Obj := ob (.type "function") none (.func (fD (sS "join") (sS "join") (rec 25) 3 [] .none .none .none (vS "cpy313.posixpath" 636) none (.ref 169) .none 0)) #[]
noncomputable def h33_171 (P : Params) : Obj := ob (.type "tuple") none (.seq #[]) #[]
noncomputable def h33_172 (P : Params) : Obj := ob .none none (.fields #[]) #[]
noncomputable def h33_173 (P : Params) : Obj := ob .none none (.func (fD (sS "commonpath") (sS "commonpath") (rec 26) 0 [] .none .none .none .none none .none .none 0)) #[]
noncomputable def h33_174 (P : Params) : Obj := ob (.type "code") none (.fields #[vS "commonpath" 656, vS "commonpath" 657, vS "/claim/cut.py" 658, .int 175 0, .int 1 0, .int 0 0, .int 0 0, .int 3 0, .ref 171, .bool true, .int 276 0, .ref 172, .none, .none, .none, .ref 173, .int 659 0, .int 175 0, vS "/claim/cut.py" 660]) #[]
noncomputable def h33_175 (P : Params) : Obj := ob (.type "function") none (.func (fD (sS "commonpath") (sS "commonpath") (rec 26) 3 [] .none .none .none (vS "cpy313.posixpath" 636) none (.ref 174) .none 0)) #[]
noncomputable def h33_176 (P : Params) : Obj := ob (.type "tuple") none (.seq #[]) #[]
noncomputable def h33_177 (P : Params) : Obj := ob .none none (.fields #[]) #[]
noncomputable def h33_178 (P : Params) : Obj := ob (.type "tuple") none (.seq #[vS "figures" 667, vS "row" 668, vS "groups" 669, vS "rest" 670, vS "size" 671]) #[]
noncomputable def h33_179 (P : Params) : Obj := ob (.type "tuple") none (.seq #[]) #[]
noncomputable def h33_180 (P : Params) : Obj := ob .none none (.func (fD (sS "_law_cut") (sS "_law_cut") (rec 28) 0 [] .none .none .none .none none .none .none 0)) #[]
noncomputable def h33_181 (P : Params) : Obj := ob (.type "code") none (.fields #[vS "_law_cut" 664, vS "_law_cut" 665, vS "/claim/cut.py" 666, .int 205 0, .int 2 0, .int 0 0, .int 0 0, .int 3 0, .ref 176, .bool true, .int 276 0, .ref 177, .none, .ref 178, .ref 179, .ref 180, .int 672 0, .int 205 0, vS "/claim/cut.py" 673]) #[]
noncomputable def h33_182 (P : Params) : Obj := ob (.type "function") none (.func (fD (sS "_law_cut") (sS "_law_cut") (rec 28) 3 [] .none .none .none (vS "law_rx0081_01" 662) none (.ref 181) .none 0)) #[]
noncomputable def h33_183 (P : Params) : Obj := ob (.type "tuple") none (.seq #[]) #[]
noncomputable def h33_184 (P : Params) : Obj := ob .none none (.fields #[]) #[]
noncomputable def h33_185 (P : Params) : Obj := ob .none none (.func (fD (sS "_law_bits") (sS "_law_bits") (rec 29) 0 [] .none .none .none .none none .none .none 0)) #[]
noncomputable def h33_186 (P : Params) : Obj := ob (.type "code") none (.fields #[vS "_law_bits" 675, vS "_law_bits" 676, vS "/claim/cut.py" 677, .int 217 0, .int 2 0, .int 0 0, .int 0 0, .int 3 0, .ref 183, .bool true, .int 276 0, .ref 184, .none, .none, .none, .ref 185, .int 678 0, .int 217 0, vS "/claim/cut.py" 679]) #[]
noncomputable def h33_187 (P : Params) : Obj := ob (.type "function") none (.func (fD (sS "_law_bits") (sS "_law_bits") (rec 29) 3 [] .none .none .none (vS "law_rx0081_01" 662) none (.ref 186) .none 0)) #[]
noncomputable def h33_188 (P : Params) : Obj := ob (.type "tuple") none (.seq #[]) #[]
noncomputable def h33_189 (P : Params) : Obj := ob .none none (.fields #[]) #[]
noncomputable def h33_190 (P : Params) : Obj := ob (.type "tuple") none (.seq #[vS "figures" 684, vS "bits" 685, vS "between" 686, vS "text" 687, vS "place" 688, vS "gap" 689]) #[]
noncomputable def h33_191 (P : Params) : Obj := ob (.type "tuple") none (.seq #[]) #[]
noncomputable def h33_192 (P : Params) : Obj := ob .none none (.func (fD (sS "_law_spelled") (sS "_law_spelled") (rec 30) 0 [] .none .none .none .none none .none .none 0)) #[]
noncomputable def h33_193 (P : Params) : Obj := ob (.type "code") none (.fields #[vS "_law_spelled" 681, vS "_law_spelled" 682, vS "/claim/cut.py" 683, .int 231 0, .int 3 0, .int 0 0, .int 0 0, .int 3 0, .ref 188, .bool true, .int 276 0, .ref 189, .none, .ref 190, .ref 191, .ref 192, .int 690 0, .int 231 0, vS "/claim/cut.py" 691]) #[]
noncomputable def h33_194 (P : Params) : Obj := ob (.type "function") none (.func (fD (sS "_law_spelled") (sS "_law_spelled") (rec 30) 3 [] .none .none .none (vS "law_rx0081_01" 662) none (.ref 193) .none 0)) #[]
noncomputable def h33_195 (P : Params) : Obj := ob (.type "tuple") none (.seq #[]) #[]
noncomputable def h33_196 (P : Params) : Obj := ob .none none (.fields #[]) #[]
noncomputable def h33_197 (P : Params) : Obj := ob (.type "tuple") none (.seq #[vS "figures" 696, vS "numbers" 697, vS "unlike" 698, vS "number" 699, vS "gap" 700]) #[]
noncomputable def h33_198 (P : Params) : Obj := ob (.type "tuple") none (.seq #[]) #[]
noncomputable def h33_199 (P : Params) : Obj := ob .none none (.func (fD (sS "_law_shared") (sS "_law_shared") (rec 31) 0 [] .none .none .none .none none .none .none 0)) #[]
noncomputable def h33_200 (P : Params) : Obj := ob (.type "code") none (.fields #[vS "_law_shared" 693, vS "_law_shared" 694, vS "/claim/cut.py" 695, .int 239 0, .int 2 0, .int 0 0, .int 0 0, .int 3 0, .ref 195, .bool true, .int 276 0, .ref 196, .none, .ref 197, .ref 198, .ref 199, .int 701 0, .int 239 0, vS "/claim/cut.py" 702]) #[]
noncomputable def h33_201 (P : Params) : Obj := ob (.type "function") none (.func (fD (sS "_law_shared") (sS "_law_shared") (rec 31) 3 [] .none .none .none (vS "law_rx0081_01" 662) none (.ref 200) .none 0)) #[]
noncomputable def h33_202 (P : Params) : Obj := ob (.type "tuple") none (.seq #[]) #[]
noncomputable def h33_203 (P : Params) : Obj := ob .none none (.fields #[]) #[]
noncomputable def h33_204 (P : Params) : Obj := ob (.type "tuple") none (.seq #[vS "parts" 707, vS "text" 708, vS "pieces" 709, vS "part" 710, vS "place" 711, vS "piece" 712, vS "found" 713, vS "end" 714]) #[]
noncomputable def h33_205 (P : Params) : Obj := ob (.type "tuple") none (.seq #[]) #[]
noncomputable def h33_206 (P : Params) : Obj := ob .none none (.func (fD (sS "_law_takes") (sS "_law_takes") (rec 32) 0 [] .none .none .none .none none .none .none 0)) #[]
noncomputable def h33_207 (P : Params) : Obj := ob (.type "code") none (.fields #[vS "_law_takes" 704, vS "_law_takes" 705, vS "/claim/cut.py" 706, .int 249 0, .int 2 0, .int 0 0, .int 0 0, .int 3 0, .ref 202, .bool true, .int 276 0, .ref 203, .none, .ref 204, .ref 205, .ref 206, .int 715 0, .int 249 0, vS "/claim/cut.py" 716]) #[]
noncomputable def h33_208 (P : Params) : Obj := ob (.type "function") none (.func (fD (sS "_law_takes") (sS "_law_takes") (rec 32) 3 [] .none .none .none (vS "law_rx0081_01" 662) none (.ref 207) .none 0)) #[]
noncomputable def h33_209 (P : Params) : Obj := ob (.type "tuple") none (.seq #[]) #[]
noncomputable def h33_210 (P : Params) : Obj := ob .none none (.fields #[]) #[]
noncomputable def h33_211 (P : Params) : Obj := ob .none none (.func (fD (sS "law") (sS "law") (rec 33) 0 [] .none .none .none .none none .none .none 0)) #[]
noncomputable def h33_212 (P : Params) : Obj := ob (.type "code") none (.fields #[vS "law" 718, vS "law" 719, vS "/claim/cut.py" 720, .int 268 0, .int 1 0, .int 0 0, .int 0 0, .int 3 0, .ref 209, .bool true, .int 276 0, .ref 210, .none, .none, .none, .ref 211, .int 721 0, .int 268 0, vS "/claim/cut.py" 722]) #[]
noncomputable def h33_213 (P : Params) : Obj := ob (.type "function") none (.func (fD (sS "law") (sS "law") (rec 33) 3 [] .none .none .none (vS "law_rx0081_01" 662) none (.ref 212) .none 0)) #[]
noncomputable def heap33 (P : Params) : Heap := ⟨⟨[boot_o_0 P, h0_1 P, h0_2 P, h33_3 P, boot_o_4 P, boot_o_5 P, boot_o_6 P, boot_o_7 P, boot_o_8 P, boot_o_9 P, boot_o_10 P, h0_11 P, h0_12 P, h0_13 P, h0_14 P, h0_15 P, h0_16 P, h0_17 P, h0_18 P, h0_19 P, h0_20 P, h0_21 P, h0_22 P, h0_23 P, h0_24 P, h0_25 P, h0_26 P, h0_27 P, hA_28 P, h33_29 P, hA_30 P, hA_31 P, h7_32 P, h7_33 P, h7_34 P, h7_35 P, h7_36 P, h7_37 P, h7_38 P, h7_39 P, h7_40 P, h7_41 P, h7_42 P, h7_43 P, h7_44 P, h7_45 P, h7_46 P, h7_47 P, h7_48 P, h7_49 P, h7_50 P, h7_51 P, h7_52 P, h7_53 P, h7_54 P, h7_55 P, h7_56 P, h7_57 P, h8_58 P, h8_59 P, h8_60 P, h8_61 P, h8_62 P, h16_63 P, h16_64 P, h16_65 P, h16_66 P, h16_67 P, h16_68 P, h16_69 P, h16_70 P, h16_71 P, h16_72 P, h16_73 P, h16_74 P, h16_75 P, h16_76 P, h16_77 P, h16_78 P, h16_79 P, h16_80 P, h16_81 P, h16_82 P, h16_83 P, h16_84 P, h16_85 P, h16_86 P, h16_87 P, h16_88 P, h16_89 P, h16_90 P, h16_91 P, h16_92 P, h16_93 P, h16_94 P, h16_95 P, h16_96 P, h16_97 P, h16_98 P, h16_99 P, h23_100 P, h16_101 P, h16_102 P, h23_103 P, h23_104 P, h23_105 P, h23_106 P, h23_107 P, h23_108 P, h23_109 P, h23_110 P, h23_111 P, h23_112 P, h23_113 P, h23_114 P, h23_115 P, h23_116 P, h23_117 P, h23_118 P, h23_119 P, h23_120 P, h23_121 P, h23_122 P, h23_123 P, h23_124 P, h23_125 P, h23_126 P, h23_127 P, h23_128 P, h23_129 P, h23_130 P, h23_131 P, h23_132 P, h23_133 P, h23_134 P, h23_135 P, h23_136 P, h23_137 P, h23_138 P, h23_139 P, h23_140 P, h23_141 P, h23_142 P, h23_143 P, h23_144 P, h23_145 P, h23_146 P, h23_147 P, h23_148 P, h23_149 P, h23_150 P, h23_151 P, h23_152 P, h23_153 P, h23_154 P, h23_155 P, h23_156 P, h33_157 P, h33_158 P, h33_159 P, h33_160 P, h33_161 P, h33_162 P, h33_163 P, h33_164 P, h33_165 P, h33_166 P, h33_167 P, h33_168 P, h33_169 P, h33_170 P, h33_171 P, h33_172 P, h33_173 P, h33_174 P, h33_175 P, h33_176 P, h33_177 P, h33_178 P, h33_179 P, h33_180 P, h33_181 P, h33_182 P, h33_183 P, h33_184 P, h33_185 P, h33_186 P, h33_187 P, h33_188 P, h33_189 P, h33_190 P, h33_191 P, h33_192 P, h33_193 P, h33_194 P, h33_195 P, h33_196 P, h33_197 P, h33_198 P, h33_199 P, h33_200 P, h33_201 P, h33_202 P, h33_203 P, h33_204 P, h33_205 P, h33_206 P, h33_207 P, h33_208 P, h33_209 P, h33_210 P, h33_211 P, h33_212 P, h33_213 P]⟩, lifeS⟩
noncomputable abbrev sh33 (w : World) (os : OsState) : Shared := ⟨heap33 w.params, #[], drawnS, 724, os⟩
noncomputable abbrev pos33 : Pos := ⟨268, 0, 303, 15⟩
noncomputable abbrev annS : Option Value := some (.ref 6)
noncomputable def bodyS : List Stmt := behindTheImports PySem.Challenge.pw_rx0081_01
noncomputable def envS : Env := { scope := PySem.Challenge.pw_rx0081_01.main.scope, locals := mainNs, globals := mainNs, cells := [], code := .ref 30, frame := some 31 }
noncomputable abbrev codeS : Code := .body bodyS envS
noncomputable abbrev posS : Pos := ⟨0, 0, 0, 0⟩
end Mine

end
section
open PySem PySem.W PySem.Spec PySem.Calls PyProof.Rows
set_option Elab.async false
set_option maxRecDepth 100000
set_option maxHeartbeats 8000000
namespace Mine
/-- the text's statements from the k-th on, n of them -/
noncomputable abbrev partS (k n : Nat) : List Stmt := (bodyS.drop k).take n
theorem open_ : ∀ w : World, (fencedOpening treeTable PySem.Challenge.pw_rx0081_01 w 5148).map (fun s => (s.heap, s.gens, s.drawn, s.toks)) = some (heap0 w.params, #[], drawnS, 276) := by
  intro w; kernel_rfl
theorem size_ : ∀ w : World, ((heap0 w.params).isNs mainGlobals && (#[] : Array GenState).size == 0, (heap0 w.params).objs.size, (heap0 w.params).nsMap mainGlobals "__annotations__") = (true, 28, annS) := by
  intro w; kernel_rfl
theorem pre_ : ∀ (w : World) (os : OsState), topGo treeTable PySem.Challenge.pw_rx0081_01 w 28 annS 12 (sh0 w os) (topStub PySem.Challenge.pw_rx0081_01) = some (shA w os, ⟨denote treeTable codeS, codeS, posS, [topFrame posS]⟩) := by
  intro w os; kernel_rfl
theorem block_ : ∀ (w : World) (os : OsState), segRun treeTable PySem.Challenge.pw_rx0081_01 w 28 annS 1 1 (shA w os) (blockOf bodyS envS codeS posS [topFrame posS]) = some (.next, shA w os, codeS, posS) := by
  intro w os; kernel_rfl
theorem p7_ : ∀ (w : World) (os : OsState), segRun treeTable PySem.Challenge.pw_rx0081_01 w 28 annS 1 300 (shA w os) (piecesOf (partS 0 7) envS codeS posS [topFrame posS]) = some (.next, sh7 w os, codeS, pos7) := by
  intro w os; kernel_rfl
end Mine

end
section
open PySem PySem.W PySem.Spec PySem.Calls PyProof.Rows
set_option Elab.async false
set_option maxRecDepth 100000
set_option maxHeartbeats 8000000
namespace Mine
/-- the eighth statement: it asks two of the world's rows -/
noncomputable abbrev PB (w : World) : Prop := ∀ os : OsState, segRun treeTable PySem.Challenge.pw_rx0081_01 w 28 annS 1 1300 (sh7 w os) (piecesOf (partS 7 1) envS codeS pos7 [topFrame posS]) = some (.next, sh8 w os, codeS, pos8)
theorem pb_ff : ∀ w : World, PB ((w.withFollow "comprehension-iter-twice" false).withFollow "special-get-raises" false) := by
  intro w os; kernel_rfl
theorem pb_ft : ∀ w : World, PB ((w.withFollow "comprehension-iter-twice" false).withFollow "special-get-raises" true) := by
  intro w os; kernel_rfl
theorem pb_tf : ∀ w : World, PB ((w.withFollow "comprehension-iter-twice" true).withFollow "special-get-raises" false) := by
  intro w os; kernel_rfl
theorem pb_tt : ∀ w : World, PB ((w.withFollow "comprehension-iter-twice" true).withFollow "special-get-raises" true) := by
  intro w os; kernel_rfl
theorem p8_ : ∀ w : World, PB w :=
  byRow2 "special-get-raises" (byRow2 "comprehension-iter-twice" (P := fun w => PB (w.withFollow "special-get-raises" false)) pb_ff pb_tf) (byRow2 "comprehension-iter-twice" (P := fun w => PB (w.withFollow "special-get-raises" true)) pb_ft pb_tt)
end Mine

end
section
open PySem PySem.W PySem.Spec PySem.Calls PyProof.Rows
set_option Elab.async false
set_option maxRecDepth 100000
set_option maxHeartbeats 8000000
namespace Mine
theorem p16_ : ∀ (w : World) (os : OsState), segRun treeTable PySem.Challenge.pw_rx0081_01 w 28 annS 1 400 (sh8 w os) (piecesOf (partS 8 8) envS codeS pos8 [topFrame posS]) = some (.next, sh16 w os, codeS, pos16) := by
  intro w os; kernel_rfl
theorem p23_ : ∀ (w : World) (os : OsState), segRun treeTable PySem.Challenge.pw_rx0081_01 w 28 annS 1 500 (sh16 w os) (piecesOf (partS 16 7) envS codeS pos16 [topFrame posS]) = some (.next, sh23 w os, codeS, pos23) := by
  intro w os; kernel_rfl
theorem p33_ : ∀ (w : World) (os : OsState), segRun treeTable PySem.Challenge.pw_rx0081_01 w 28 annS 1 400 (sh23 w os) (piecesOf (partS 23 10) envS codeS pos23 [topFrame posS]) = some (.next, sh33 w os, codeS, pos33) := by
  intro w os; kernel_rfl
theorem fin_ : ∀ (w : World) (os : OsState), topRun treeTable PySem.Challenge.pw_rx0081_01 w 28 annS 2 (sh33 w os) ⟨doneF .next, codeS, pos33, [topFrame posS]⟩ = some (sh33 w os) := by
  intro w os; kernel_rfl
theorem body_len : bodyS.length = 33 := by kernel_rfl
theorem part_app (k n : Nat) : partS k n ++ bodyS.drop (k + n) = bodyS.drop k := by
  rw [← List.drop_drop]; exact List.take_append_drop n _
theorem run_ (w : World) (os : OsState) :
    topRun treeTable PySem.Challenge.pw_rx0081_01 w 28 annS (12 + (1 + (300 + (1300 + (400 + (500 + (400 + 2))))))) (sh0 w os) (topStub PySem.Challenge.pw_rx0081_01) = some (sh33 w os) := by
  refine go_top (pre_ w os) (piece_block (block_ w os) ?_)
  have e33 : bodyS.drop 33 = [] := List.drop_eq_nil_of_le (by rw [body_len]; exact Nat.le_refl _)
  have a33 := piece_app (rest := bodyS.drop 33) (p33_ w os) (by rw [e33]; exact piece_nil (fin_ w os))
  rw [part_app 23 10] at a33
  have a23 := piece_app (p23_ w os) a33
  rw [part_app 16 7] at a23
  have a16 := piece_app (p16_ w os) a23
  rw [part_app 8 8] at a16
  have a8 := piece_app (p8_ w os) a16
  rw [part_app 7 1] at a8
  have a7 := piece_app (p7_ w os) a8
  rw [part_app 0 7] at a7
  exact a7
end Mine

end
section
open PySem PySem.W PySem.Spec PySem.Calls PyProof.Rows
set_option Elab.async false
set_option maxRecDepth 100000
set_option maxHeartbeats 8000000
namespace Mine
noncomputable abbrev XtS (s : Shared) : Bool := xlAt view [] s && recOk (RowW.records PySem.Challenge.rw_rx0081_01.row.toRowW) s
noncomputable abbrev modsS : List Str := importedModules PySem.Challenge.pw_rx0081_01.main.body
section
variable (w : World) (os : OsState)
theorem lk1 : (staticsOk modsS (heap0 w.params) (heap33 w.params) && namesBound PySem.Challenge.pw_rx0081_01 (heap33 w.params) && gensDone (sh33 w os) && laidKept (heap0 w.params) (heap33 w.params)) = true := by
  kernel_rfl
theorem lk2 : seen ((recsOf view).map (·.name)) (ownsOf view) [] { sh33 w os with gens := #[] } = expectedOf view := by
  kernel_rfl
theorem lk3 : (heap33 w.params).bltView = bltViewBooted := by
  kernel_rfl
theorem lk4 : ((heap33 w.params).keysOk (looseW view looseL) ((recsOf view).map (·.name)) ((litsOf view).map (·.1)) ((clssOf view (looseW view looseL)).map (·.name)) && (heap33 w.params).accountedOkI modsS && (heap33 w.params).isNs mainGlobals && (heap33 w.params).isNs builtinsNs && tablesOk view (heap33 w.params) && XtS (sh33 w os) && ((sh33 w os).gens.size == 0)) = true := by
  kernel_rfl
theorem lk5 : tabsOk view (sh33 w os) = true := by
  kernel_rfl
theorem lk6 : pinSeenD view (drecsOf view) (sh33 w os) = pinGoodD (drecsOf view) := by
  kernel_rfl
theorem lk7 : plainSeenE view (looseW view looseL) (sh33 w os) = plainGoodE view (looseW view looseL) := by
  kernel_rfl
theorem lk8 : plainSeenD view looseL (sh33 w os) = plainGoodD view looseL := by
  kernel_rfl
theorem lk9 : wideSeen view (sh33 w os) = wideGood view := by
  kernel_rfl
theorem lk10 : clsSeenW view looseL (sh33 w os) = clsGoodW view looseL := by
  kernel_rfl
theorem lk11 : spHook.obs (sh33 w os) = spHook.val w := by
  kernel_rfl
theorem lkO : openSeen view looseL modsS XtS true (sh33 w os) = openGood view looseL := by
  unfold openSeen openGood
  exact looks_pair (lk2 w os) (looks_pair (lk3 w) (looks_pair (lk4 w os) (looks_pair (lk5 w os) (looks_pair (lk6 w os) (looks_pair (lk7 w os) (looks_pair (lk8 w os) (looks_pair (lk9 w os) (lk10 w os))))))))
end
theorem head : LeftO PySem.Challenge.pw_rx0081_01 view looseL XtS spHook.obs spHook.val 5148 :=
  LeftO.of_pieces open_ size_ run_ (by decide) fun w => funext fun os => looks_pair (lk1 w os) (looks_pair (lkO w os) (lk11 w os))
end Mine

end
section
open PySem PySem.W PyProof.Rows
set_option Elab.async false
set_option maxRecDepth 100000
set_option maxHeartbeats 8000000
namespace Mine
theorem wsA0 : (sreFenced PySem.Challenge.rw_rx0081_01.row.prog.main) = true := by kernel_rfl
theorem wsA1 : (((moduleNames PySem.Challenge.rw_rx0081_01.row.prog.main.body).isEmpty || lookedIntoSs (moduleNames PySem.Challenge.rw_rx0081_01.row.prog.main.body) PySem.Challenge.rw_rx0081_01.row.prog.main.body)) = true := by kernel_rfl
theorem wsA2 : (namesResolve PySem.Challenge.rw_rx0081_01.row.prog) = true := by kernel_rfl
theorem wsA3 : (PySem.Challenge.rw_rx0081_01.row.prog.boundNames.all (fun n => !worldNames.contains n)) = true := by kernel_rfl
theorem wsA4 : (noRoadLSs { strict := !(importedModules PySem.Challenge.rw_rx0081_01.row.prog.main.body).all cThrough.contains, foot := none, bare := (["vars", "dir", "locals"] : List Str).filter (readsOut PySem.Challenge.rw_rx0081_01.row.prog PySem.Challenge.rw_rx0081_01.row.prog.main.body) } PySem.Challenge.rw_rx0081_01.row.prog.main.body) = true := by kernel_rfl
theorem wsA5 : ((namesMeet PySem.Challenge.rw_rx0081_01.row.prog PySem.Challenge.rw_rx0081_01.row.prog.main.body fun _ n => attrL n)) = true := by kernel_rfl
theorem ws_row : PySem.Challenge.rw_rx0081_01.row.wellSaid = true := by
  unfold OpenRow.wellSaid OpenRow.partSaid looksOpen
  repeat' (with_reducible refine look_both ?_ ?_)
  all_goals first | with_reducible exact wsA0 | with_reducible exact wsA1 | with_reducible exact wsA2 | with_reducible exact wsA3 | with_reducible exact wsA4 | with_reducible exact wsA5 | kernel_rfl
theorem wsB0 : (noRoadLSs { strict := true, foot := some PySem.Challenge.rw_rx0081_01.bound', writes := PySem.Challenge.rw_rx0081_01.writes, may := PySem.Challenge.rw_rx0081_01.may } PySem.Challenge.rw_rx0081_01.footing) = true := by kernel_rfl
theorem wsB1 : (PySem.Challenge.rw_rx0081_01.bound'.all (fun n => !builtinNamed n || PySem.Challenge.rw_rx0081_01.about == [n] || !PySem.Challenge.rw_rx0081_01.reads n)) = true := by kernel_rfl
theorem wsB2 : ((namesMeet PySem.Challenge.rw_rx0081_01.prog PySem.Challenge.rw_rx0081_01.footing (fun sc n => (!(["type", "isinstance", "issubclass", "getattr", "hasattr"] : List Str).contains n || sc.names.lookup n == some .globalImplicit) && (PySem.Challenge.rw_rx0081_01.may != some n || sc.kind == .module || sc.names.lookup n == some .globalImplicit)))) = true := by kernel_rfl
theorem wsB3 : ((namesMeet PySem.Challenge.rw_rx0081_01.prog PySem.Challenge.rw_rx0081_01.above (fun _ n => !PySem.Challenge.rw_rx0081_01.own.contains n))) = true := by kernel_rfl
theorem wsB4 : ((namesMeet PySem.Challenge.rw_rx0081_01.prog PySem.Challenge.rw_rx0081_01.footing (fun sc n => sc.kind == .module || sc.names.lookup n != some .globalExplicit))) = true := by kernel_rfl
theorem ws : PySem.Challenge.rw_rx0081_01.wellSaid = true := by
  unfold OpenLaw.wellSaid
  repeat' (with_reducible refine look_both ?_ ?_)
  all_goals first | with_reducible exact ws_row | with_reducible exact wsB0 | with_reducible exact wsB1 | with_reducible exact wsB2 | with_reducible exact wsB3 | with_reducible exact wsB4 | kernel_rfl
end Mine

end
section
open PySem PySem.W PyProof.Rows
set_option Elab.async false
set_option maxRecDepth 100000
set_option maxHeartbeats 8000000
theorem PySem.Challenge.cw_rx0081_01_holds : PySem.Challenge.rw_rx0081_01.Holds := by
  refine holds_law Mine.ws fun said => ?_
  refine holds_open (q := Mine.view) (loose := Mine.looseL) (Xt := Mine.XtS) (XP := XL Mine.view []) (YP := Hook.says Mine.spHook) Mine.head (Hook.of Mine.spHook) (Hook.keeps Mine.spHook) (fun s e => xl_of s (Bool.and_eq_true_iff.mp e).1) XL.keeps (by rfl) (by rfl) (by rfl) (fun s e => recFacts_of (Bool.and_eq_true_iff.mp e).2) (by rfl) (by first | assumption | decide +kernel) (by decide +kernel) ⟨rfl, rfl, rfl, rfl, rfl, by decide +kernel⟩ ?hw ?hc
  case hw => w_witness2
  case hc =>
    intro w s₀ s₁ mg mb G Y fa o pm cd doc dV kV ho hd' hcd hD hmg hg args vals as hpre hlay hrd hwl hlo
    have T0 := G.T
    have Y0 : Mine.SpSays s₁.heap := Y
    clear ho hd' hcd hD Y G
    wrow_args hpre hlay hrd hwl hlo
    rename Heap.IsList _ _ _ => il
    rename IntsAre _ _ => hi
    have hm : mg "law" = some (.ref fa) := hmg
    clear hmg
    refine Mine.law_runT T0 Y0 hg hm il hi (by omega) fun s' hk ho hb => ?_
    refine ⟨.inl ⟨_, .bool true, [], rfl, ?_, .bool true, ?_, unshared_nil⟩, .of_keep hk, ho, hb⟩
    · exact fun cls => rfl
    · wrow_post

end
