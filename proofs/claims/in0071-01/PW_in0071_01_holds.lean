import PyProof.Rows.All
import Wide.All
import OpenK.AllK
import Wide.FinOn
import PyProof.AttrMissHeap
import PyProof.InstLoad
import PySem.Challenge.RW_in0071_01

set_option compiler.extract_closed false

section
open PySem PySem.W PySem.Calls PyProof.Rows
set_option Elab.async false
set_option linter.unusedVariables false
set_option linter.unusedSectionVars false
set_option maxRecDepth 10000

namespace Mine

structure Sp where
  n : Nat
noncomputable abbrev Star := Inhabited Sp
noncomputable abbrev Star.pl [i : Star] : Nat := (i.default).n
variable [Star]

inductive D where
  | none
  | bool (b : Bool)
  | int (i : Int)
  | str (s : Str)
  | list (l : List D)
  | tup (l : List D)
  | rf (a : Nat)
  | star
  | ty (T : String)
  | meth (a : Nat)
  | ob (a : Nat) (l : List (Nat × Obj))

noncomputable abbrev tb : Nat := 99
noncomputable abbrev tc : Nat := 103

noncomputable def IsM (h : Heap) (m a : Nat) : Prop := ∃ o, h.get? m = some o ∧ o.cls = .type "builtin_function_or_method" ∧ o.data = .fields #[.builtin "list.append", .ref a]

mutual
inductive Tl (h : Heap) (X : Nat → Prop) : Value → D → Prop
  | none : Tl h X .none .none
  | bool (b : Bool) : Tl h X (.bool b) (.bool b)
  | int (i : Int) (t : Tok) : Tl h X (.int i t) (.int i)
  | str (s : Str) (t : Tok) : Tl h X (.str s t) (.str s)
  | rf (a : Nat) : Tl h X (.ref a) (.rf a)
  | star {t : Tok} : h.PlainList Star.pl #[.str "*" t] → ¬ X Star.pl → Tl h X (.ref Star.pl) .star
  | ob {a : Nat} {l : List (Nat × Obj)} : (∀ p ∈ l, h.get? p.1 = some p.2 ∧ ¬ X p.1) → Tl h X (.ref a) (.ob a l)
  | ty (T : String) : Tl h X (.type T) (.ty T)
  | meth {m a : Nat} : IsM h m a → ¬ X m → Tl h X (.ref m) (.meth a)
  | list {a : Nat} {vs : List Value} {ds : List D} : h.PlainList a vs.toArray → ¬ X a → vs.length ≤ 100000 → Tls h X vs ds → Tl h X (.ref a) (.list ds)
  | tup {a : Nat} {vs : List Value} {ds : List D} : h.IsTuple a vs.toArray → ¬ X a → vs.length ≤ 100000 → Tls h X vs ds → Tl h X (.ref a) (.tup ds)
inductive Tls (h : Heap) (X : Nat → Prop) : List Value → List D → Prop
  | nil : Tls h X [] []
  | cons {v : Value} {d : D} {vs : List Value} {ds : List D} : Tl h X v d → Tls h X vs ds → Tls h X (v :: vs) (d :: ds)
end

section
variable {h : Heap} {X : Nat → Prop}
noncomputable def Tl.Inv (h : Heap) (X : Nat → Prop) (v : Value) : D → Prop
  | .none => v = .none
  | .bool b => v = .bool b
  | .int i => ∃ tk, v = .int i tk
  | .str s => ∃ tk, v = .str s tk
  | .rf a => v = .ref a
  | .star => v = .ref Star.pl ∧ ∃ t, h.PlainList Star.pl #[.str "*" t] ∧ ¬ X Star.pl
  | .ob a l => v = .ref a ∧ ∀ p ∈ l, h.get? p.1 = some p.2 ∧ ¬ X p.1
  | .ty T => v = .type T
  | .meth a => ∃ m, v = .ref m ∧ IsM h m a ∧ ¬ X m
  | .list ds => ∃ a vs, v = .ref a ∧ h.PlainList a vs.toArray ∧ ¬ X a ∧ vs.length ≤ 100000 ∧ Tls h X vs ds
  | .tup ds => ∃ a vs, v = .ref a ∧ h.IsTuple a vs.toArray ∧ ¬ X a ∧ vs.length ≤ 100000 ∧ Tls h X vs ds
theorem Tl.inv {v : Value} {d : D} (t : Tl h X v d) : Tl.Inv h X v d := by
  cases t with
  | none => exact rfl
  | bool b => exact rfl
  | int i k => exact ⟨k, rfl⟩
  | str i k => exact ⟨k, rfl⟩
  | rf a => exact rfl
  | star p n => exact ⟨rfl, _, p, n⟩
  | ob p => exact ⟨rfl, p⟩
  | ty T => exact rfl
  | meth p n => exact ⟨_, rfl, p, n⟩
  | list p n z ts => exact ⟨_, _, rfl, p, n, z, ts⟩
  | tup p n z ts => exact ⟨_, _, rfl, p, n, z, ts⟩
theorem Tl.noneE {motive : (v : Value) → Tl h X v .none → Prop} {v : Value} (t : Tl h X v .none) (none : motive .none .none) : motive v t := by obtain rfl := t.inv; exact none
theorem Tl.boolE {b : Bool} {motive : (v : Value) → Tl h X v (.bool b) → Prop} {v : Value} (t : Tl h X v (.bool b)) (bool : motive (.bool b) (.bool b)) : motive v t := by obtain rfl := t.inv; exact bool
theorem Tl.intE {i : Int} {motive : (v : Value) → Tl h X v (.int i) → Prop} {v : Value} (t : Tl h X v (.int i)) (int : ∀ tk, motive (.int i tk) (.int i tk)) : motive v t := by obtain ⟨k, rfl⟩ := t.inv; exact int k
theorem Tl.strE {i : Str} {motive : (v : Value) → Tl h X v (.str i) → Prop} {v : Value} (t : Tl h X v (.str i)) (str : ∀ tk, motive (.str i tk) (.str i tk)) : motive v t := by obtain ⟨k, rfl⟩ := t.inv; exact str k
theorem Tl.rfE {i : Nat} {motive : (v : Value) → Tl h X v (.rf i) → Prop} {v : Value} (t : Tl h X v (.rf i)) (rf : motive (.ref i) (.rf i)) : motive v t := by obtain rfl := t.inv; exact rf
theorem Tl.starE {motive : (v : Value) → Tl h X v .star → Prop} {v : Value} (t : Tl h X v .star) (star : ∀ {t} (p) (n), motive (.ref Star.pl) (.star (t := t) p n)) : motive v t := by obtain ⟨rfl, _, p, n⟩ := t.inv; exact star p n
theorem Tl.obE {i : Nat} {l} {motive : (v : Value) → Tl h X v (.ob i l) → Prop} {v : Value} (t : Tl h X v (.ob i l)) (ob : ∀ p, motive (.ref i) (.ob p)) : motive v t := by obtain ⟨rfl, p⟩ := t.inv; exact ob p
theorem Tl.tyE {T : String} {motive : (v : Value) → Tl h X v (.ty T) → Prop} {v : Value} (t : Tl h X v (.ty T)) (ty : motive (.type T) (.ty T)) : motive v t := by obtain rfl := t.inv; exact ty
theorem Tl.methE {a : Nat} {motive : (v : Value) → Tl h X v (.meth a) → Prop} {v : Value} (t : Tl h X v (.meth a)) (meth : ∀ {m} (p) (n), motive (.ref m) (.meth p n)) : motive v t := by obtain ⟨_, rfl, p, n⟩ := t.inv; exact meth p n
theorem Tl.listE {ds : List D} {motive : (v : Value) → Tl h X v (.list ds) → Prop} {v : Value} (t : Tl h X v (.list ds)) (list : ∀ {a : Nat} {vs : List Value} (p) (n) (z) (ts), motive (.ref a) (.list (vs := vs) p n z ts)) : motive v t := by obtain ⟨_, _, rfl, p, n, z, ts⟩ := t.inv; exact list p n z ts
theorem Tl.tupE {ds : List D} {motive : (v : Value) → Tl h X v (.tup ds) → Prop} {v : Value} (t : Tl h X v (.tup ds)) (tup : ∀ {a : Nat} {vs : List Value} (p) (n) (z) (ts), motive (.ref a) (.tup (vs := vs) p n z ts)) : motive v t := by obtain ⟨_, _, rfl, p, n, z, ts⟩ := t.inv; exact tup p n z ts
theorem Tls.nilE {motive : (v : List Value) → Tls h X v [] → Prop} {v : List Value} (t : Tls h X v []) (nil : motive [] .nil) : motive v t := by cases t; exact nil
theorem Tls.consE {d : D} {ds : List D} {motive : (v : List Value) → Tls h X v (d :: ds) → Prop} {v : List Value} (t : Tls h X v (d :: ds)) (cons : ∀ {v : Value} {vs : List Value} (a) (b), motive (v :: vs) (.cons a b)) : motive v t := by cases t with | cons a b => exact cons a b
end
theorem Tls.ind {h : Heap} {X : Nat → Prop} {motive : (vs : List Value) → (ds : List D) → Prop} (nil : motive [] []) (cons : ∀ {v d vs ds} (a : Tl h X v d) (t : Tls h X vs ds), motive vs ds → motive (v :: vs) (d :: ds)) {vs : List Value} {ds : List D} (t : Tls h X vs ds) : motive vs ds :=
  Tls.rec (motive_1 := fun _ _ _ => True) (motive_2 := fun vs ds _ => motive vs ds) trivial (fun _ => trivial) (fun _ _ => trivial) (fun _ _ => trivial) (fun _ => trivial) (fun _ _ => trivial) (fun _ => trivial) (fun _ => trivial) (fun _ _ => trivial) (fun _ _ _ _ _ => trivial) (fun _ _ _ _ _ => trivial) nil (fun a t _ ih => cons a t ih) t
theorem Tls.length {h : Heap} {X : Nat → Prop} {vs : List Value} {ds : List D} (t : Tls h X vs ds) : vs.length = ds.length :=
  Tls.ind (motive := fun vs ds => vs.length = ds.length) rfl (fun _ _ ih => congrArg (· + 1) ih) t

section
variable {h h' : Heap} {X X' : Nat → Prop} (k : ∀ b o, ¬ X b → h.get? b = some o → h'.get? b = some o) (x : ∀ b, X' b → X b ∨ h.objs.size ≤ b)
include x
theorem notX {b : Nat} {o : Obj} (e : h.get? b = some o) (n : ¬ X b) : ¬ X' b := fun q => (x _ q).elim n fun z => absurd (Heap.lt_size e) (Nat.not_lt.mpr z)
include k
theorem Tl.move {v : Value} {d : D} (t : Tl h X v d) : Tl h' X' v d :=
  Tl.rec (motive_1 := fun v d _ => Tl h' X' v d) (motive_2 := fun vs ds _ => Tls h' X' vs ds) .none .bool .int .str .rf
    (fun p n => let ⟨m, e⟩ := p; .star ⟨m, k _ _ n e⟩ (notX x e n))
    (fun p => .ob fun q hq => ⟨k _ _ (p q hq).2 (p q hq).1, notX x (p q hq).1 (p q hq).2⟩) .ty
    (fun p n => let ⟨o, e, r⟩ := p; .meth ⟨o, k _ _ n e, r⟩ (notX x e n))
    (fun p n z _ ih => let ⟨m, e⟩ := p; .list ⟨m, k _ _ n e⟩ (notX x e n) z ih)
    (fun p n z _ ih => let ⟨o, e, r⟩ := p; .tup ⟨o, k _ _ n e, r⟩ (notX x e n) z ih)
    .nil (fun _ _ a b => .cons a b) t
theorem Tls.move {vs : List Value} {ds : List D} (t : Tls h X vs ds) : Tls h' X' vs ds :=
  Tls.ind (motive := fun vs ds => Tls h' X' vs ds) .nil (fun a _ ih => .cons (Tl.move k x a) ih) t
end

theorem Tls.get {h : Heap} {X : Nat → Prop} {vs : List Value} {ds : List D} (t : Tls h X vs ds) {i : Nat} {d : D} : ds[i]? = some d → ∃ v, vs[i]? = some v ∧ Tl h X v d :=
  Tls.ind (motive := fun vs ds => ∀ i d, ds[i]? = some d → ∃ v, vs[i]? = some v ∧ Tl h X v d) (fun i d e => nomatch (show (none : Option D) = some d from e))
    (fun {v d vs ds} a _ ih i => Nat.casesOn i (fun _ e => ⟨v, rfl, Option.some.inj e ▸ a⟩) fun i d e => ih i d e) t i d

theorem Tls.get' {h : Heap} {X : Nat → Prop} {vs : List Value} {ds : List D} (t : Tls h X vs ds) {i : Nat} {v : Value} : vs[i]? = some v → ∃ d, ds[i]? = some d ∧ Tl h X v d :=
  Tls.ind (motive := fun vs ds => ∀ i v, vs[i]? = some v → ∃ d, ds[i]? = some d ∧ Tl h X v d) (fun i d e => nomatch (show (none : Option Value) = some d from e))
    (fun {v d vs ds} a _ ih i => Nat.casesOn i (fun _ e => ⟨d, rfl, Option.some.inj e ▸ a⟩) fun i d e => ih i d e) t i v

theorem Tls.append {h : Heap} {X : Nat → Prop} {vs : List Value} {ds : List D} {ws : List Value} {es : List D} (t : Tls h X vs ds) (q : Tls h X ws es) : Tls h X (vs ++ ws) (ds ++ es) :=
  Tls.ind (motive := fun vs ds => Tls h X (vs ++ ws) (ds ++ es)) q (fun a _ ih => .cons a ih) t

theorem ltz {h : Heap} {b : Nat} {o : Obj} (e : h.get? b = some o) : b < h.objs.size := Heap.lt_size e
theorem nsz {h : Heap} {b : Nat} {m : Str → Option Value} (e : h.Ns b m) : b < h.objs.size := e.lt
theorem nen {a b : Nat} (h : a ≠ b) : a ≠ b := h

noncomputable def TI (h : Heap) (X : Nat → Prop) : Prop := ∃ ps : Array Value, h.get? tb = some (tabObj ps) ∧ TriplesOk ps.toList ∧
  ∀ pos cv, codeAmong pos ps.toList = some cv → ∃ c o vs q t, cv = .ref c ∧ ¬ X c ∧ c ≠ tb ∧ h.get? c = some o ∧ o.data = .fields vs ∧ vs[1]? = some (.str q t)

theorem TI.move {h h' : Heap} {X X' : Nat → Prop} (x : TI h X) (k : ∀ b o, ¬ X b ∨ b = tb → h.get? b = some o → h'.get? b = some o) (m : ∀ b, X' b → X b ∨ h.objs.size ≤ b) : TI h' X' := by
  obtain ⟨ps, a, b, c⟩ := x
  refine ⟨ps, k _ _ (.inr rfl) a, b, fun pos cv e => ?_⟩
  obtain ⟨c', o, vs, q, t, e1, n, ne, e2, r⟩ := c pos cv e
  refine ⟨c', o, vs, q, t, e1, fun z => ?_, ne, k _ _ (.inl n) e2, r⟩
  rcases m _ z with z | z
  · exact n z
  · exact absurd (Heap.lt_size e2) (Nat.not_lt.mpr z)

structure Ks (X : Nat → Prop) (s s' : Shared) : Prop where
  os : s'.os = s.os
  dr : s'.drawn = s.drawn
  kp : ∀ b o, b ≠ tb → s.heap.get? b = some o → s'.heap.get? b = some o
  sz : s.heap.objs.size ≤ s'.heap.objs.size
  ti : TI s.heap X → TI s'.heap X
  gn : AllBare s.gens → AllBare s'.gens

theorem Ks.refl {X : Nat → Prop} (s : Shared) : Ks X s s := ⟨rfl, rfl, fun _ _ _ e => e, Nat.le_refl _, id, id⟩
theorem Ks.trans {X : Nat → Prop} {s s' s'' : Shared} (a : Ks X s s') (b : Ks X s' s'') : Ks X s s'' :=
  ⟨b.os.trans a.os, b.dr.trans a.dr, fun x o n e => b.kp x o n (a.kp x o n e), Nat.le_trans a.sz b.sz,
    fun t => b.ti (a.ti t), fun t => b.gn (a.gn t)⟩
theorem Ks.of {X : Nat → Prop} {s : Shared} {h : Heap} {t : Nat} (k : ∀ b o, s.heap.get? b = some o → h.get? b = some o) (z : s.heap.objs.size ≤ h.objs.size) : Ks X s { s with heap := h, toks := t } :=
  ⟨rfl, rfl, fun b o _ e => k b o e, z, fun x => x.move (fun b o _ e => k b o e) fun _ q => .inl q, id⟩
theorem Ks.tok {X : Nat → Prop} (s : Shared) (t : Nat) : Ks X s { s with toks := t } := Ks.of (fun _ _ e => e) (Nat.le_refl _)
theorem Ks.push {X : Nat → Prop} (s : Shared) (o : Obj) (t : Nat) : Ks X s { s with heap := s.heap.push o, toks := t } := Ks.of (fun _ _ e => Heap.get?_push_of_some _ e) (by rw [Heap.size_push]; (exact Nat.le_succ _))

structure Cx (B : Heap) (X : Nat → Prop) (s : Shared) : Prop where
  base : ∀ b o, B.get? b = some o → s.heap.get? b = some o
  xlt : ∀ b, X b → b < s.heap.objs.size
  xb : ∀ b, X b → B.get? b = none
  tb : X tb
  ti : TI s.heap X
  gn : AllBare s.gens

theorem Ks.cx {B : Heap} {X : Nat → Prop} {s s' : Shared} (k : Ks X s s') (c : Cx B X s) : Cx B X s' :=
  ⟨fun b o e => k.kp b o (fun z => by rw [z, c.xb _ c.tb] at e; cases e) (c.base b o e), fun b q => Nat.lt_of_lt_of_le (c.xlt b q) k.sz, c.xb, c.tb, k.ti c.ti, k.gn c.gn⟩
theorem Ks.tl {B : Heap} {X : Nat → Prop} {s s' : Shared} (k : Ks X s s') (c : Cx B X s) {v : Value} {d : D} (t : Tl s.heap X v d) : Tl s'.heap X v d :=
  t.move (fun b o n e => k.kp b o (fun z => n (z ▸ c.tb)) e) fun _ q => .inl q
theorem Ks.tls {B : Heap} {X : Nat → Prop} {s s' : Shared} (k : Ks X s s') (c : Cx B X s) {v : List Value} {d : List D} (t : Tls s.heap X v d) : Tls s'.heap X v d :=
  t.move (fun b o n e => k.kp b o (fun z => n (z ▸ c.tb)) e) fun _ q => .inl q

noncomputable def Va (env : Env) (h : Heap) (X : Nat → Prop) (x : Str) (d : D) : Prop :=
  (env.kindOf x = some .local ∧ env.locals ≠ Mine.tb ∧ ∃ m v, h.Ns env.locals m ∧ m x = some v ∧ Tl h X v d) ∨
  (∃ c v, (env.kindOf x = some .cell ∨ env.kindOf x = some .free) ∧ env.cells.lookup x = some c ∧ c ≠ Mine.tb ∧ h.IsCell c (some v) ∧ Tl h X v d)

structure Rho where
  nm : Str → Option D
  own : List (Str × Nat × List D) := []

noncomputable def Own (h : Heap) (X : Nat → Prop) (a : Nat) (ds : List D) : Prop := X a ∧ a ≠ Mine.tb ∧ ∃ vs : List Value, h.PlainList a vs.toArray ∧ vs.length ≤ 100000 ∧ Tls h X vs ds

structure Vs (env : Env) (h : Heap) (X : Nat → Prop) (ρ : Rho) : Prop where
  nm : ∀ x d, ρ.nm x = some d → Va env h X x d ∧ (x == ("__debug__" : Str)) = false ∧ (x == ("__classdict__" : Str)) = false
  own : ∀ p ∈ ρ.own, Own h X p.2.1 p.2.2 ∧ ρ.nm p.1 = some (.rf p.2.1)

theorem Ks.own {B : Heap} {X : Nat → Prop} {s s' : Shared} (k : Ks X s s') (c : Cx B X s) {a : Nat} {ds : List D} (o : Own s.heap X a ds) : Own s'.heap X a ds := by
  obtain ⟨h1, h2, vs, h3, h4, h5⟩ := o
  exact ⟨h1, h2, vs, h3.at fun ob e => k.kp a ob h2 e, h4, k.tls c h5⟩
theorem Ks.vs {B : Heap} {X : Nat → Prop} {s s' : Shared} (k : Ks X s s') (c : Cx B X s) {env : Env} {ρ : Rho} (v : Vs env s.heap X ρ) : Vs env s'.heap X ρ := by
  refine ⟨fun x d e => ?_, fun p hp => ⟨k.own c (v.own p hp).1, (v.own p hp).2⟩⟩
  refine ⟨?_, (v.nm x d e).2⟩
  rcases (v.nm x d e).1 with ⟨a1, a2, m, w, a3, a4, a5⟩ | ⟨cc, w, a1, a2, a3, a4, a5⟩
  · exact .inl ⟨a1, a2, m, w, a3.at' fun o q => k.kp _ _ a2 q, a4, k.tl c a5⟩
  · exact .inr ⟨cc, w, a1, a2, a3, (let ⟨o, q, r⟩ := a4; ⟨o, k.kp _ _ a3 q, r⟩), k.tl c a5⟩

structure Eo (sc : Scope) (env : Env) : Prop where
  iss : env.scope = sc
  kind : sc.kind = .function
  glob : env.globals = mainGlobals
  blt : env.builtins = builtinsNs
  cells : ∀ x, (sc.names.lookup x = some .cell ∨ sc.names.lookup x = some .free) → ∃ c, env.cells.lookup x = some c ∧ c ≠ tb
  code : sc.names.lookup ("QUESTION_MARK" : Str) = some .local → env.code = .ref tc ∧ env.cells = []

structure Room (n : Nat) (A : Around) : Prop where
  depth : A.depth + n < recursionLimit
  units : A.units + 10 * n < cLine
  hand : A.handled = none

theorem Room.mono {n m : Nat} {A : Around} (r : Room n A) (h : m ≤ n) : Room m A := ⟨by have := r.depth; lia, by have := r.units; lia, r.hand⟩

section
variable (prog : Program) (w : World) (B : Heap)

noncomputable def PE (n : Nat) (sc : Scope) (ρ : Rho) (e : Expr) (d : D) : Prop :=
  ∀ (A : Around) (env : Env) (E : Value → Shared → Prop) (s : Shared) (X : Nat → Prop) (Q : Value → Shared → Prop),
    Room n A → Eo sc env → Cx B X s → Vs env s.heap X ρ → (∀ v s', Ks X s s' → Tl s'.heap X v d → Q v s') → wpAny (model prog w) A (eval e env) Q E s
noncomputable def PT (n : Nat) (sc : Scope) (ρ : Rho) (e : Expr) (b : Bool) : Prop :=
  ∀ (A : Around) (env : Env) (E : Value → Shared → Prop) (s : Shared) (X : Nat → Prop) (Q : Bool → Shared → Prop),
    Room n A → Eo sc env → Cx B X s → Vs env s.heap X ρ → (∀ s', Ks X s s' → Q b s') → wpAny (model prog w) A (PySem.isTrue e env (eval e env)) Q E s
noncomputable def PEs (n : Nat) (sc : Scope) (ρ : Rho) (es : List Expr) (ds : List D) : Prop :=
  ∀ (A : Around) (env : Env) (pos : Pos) (E : Value → Shared → Prop) (s : Shared) (X : Nat → Prop) (Q : List Value → Shared → Prop),
    Room n A → Eo sc env → Cx B X s → Vs env s.heap X ρ → (∀ vs s', Ks X s s' → Tls s'.heap X vs ds → Q vs s') → wpAny (model prog w) A (spliced (backTo pos (starEach es env))) Q E s
end

section
variable {prog : Program} {w : World} {B : Heap} {n : Nat} {sc : Scope} {ρ : Rho}

theorem pe_int {i : Int} {k pos} : PE prog w B n sc ρ (.Constant (.int i) k pos) (.int i) := fun _ _ _ s _ _ _ _ _ _ h => wpAny_Constant_int (h _ _ (Ks.tok s _) (.int i _))
theorem pe_str {x : Str} {k pos} : PE prog w B n sc ρ (.Constant (.str x) k pos) (.str x) := fun _ _ _ s _ _ _ _ _ _ h => wpAny_mkText (h _ _ (Ks.tok s _) (.str x _))
theorem pe_bool {b : Bool} {k pos} : PE prog w B n sc ρ (.Constant (.bool b) k pos) (.bool b) := fun _ _ _ s _ _ _ _ _ _ h => wpAny_pure (h _ _ (Ks.refl s) (.bool b))
theorem pe_none {k pos} : PE prog w B n sc ρ (.Constant .none k pos) .none := fun _ _ _ s _ _ _ _ _ _ h => wpAny_pure (h _ _ (Ks.refl s) .none)
theorem pe_name {x : Str} {d : D} {pos : Pos} (hx : ρ.nm x = some d) : PE prog w B n sc ρ (.Name x pos) d := fun A env E s X Q r o c v h => by
  obtain ⟨a, hd, hc⟩ := v.nm x d hx
  have hk : env.scope.kind = .function := by rw [o.iss]; exact o.kind
  refine wpAny_Name ?_ hd
  rcases a with ⟨a1, a2, m, u, a3, a4, a5⟩ | ⟨cc, u, a1, a2, a3, a4, a5⟩
  · exact wpAny_loadName_local hk a1 a3 a4 (h _ _ (Ks.refl s) a5)
  · rcases a1 with a1 | a1
    · exact wpAny_loadName_cell hk a1 a2 a4 (h _ _ (Ks.refl s) a5)
    · exact wpAny_loadName_free hk a1 a2 a4 (h _ _ (Ks.refl s) a5) hc
theorem pes_nil : PEs prog w B n sc ρ [] [] := fun _ _ _ _ s _ _ _ _ _ _ h => wpAny_pure (h _ _ (Ks.refl s) .nil)
end

end Mine
end

section
open PySem PySem.W PySem.Calls PyProof.Rows
set_option Elab.async false
set_option linter.unusedVariables false
set_option linter.unusedSectionVars false
set_option maxRecDepth 10000
namespace Mine
variable [Star]

section
variable (prog : Program) (w : World) (B : Heap)
noncomputable def BO (f : Value → Value → Sem Value) (a b d : D) : Prop :=
  ∀ (A : Around) (E : Value → Shared → Prop) (s : Shared) (X : Nat → Prop) (Q : Value → Shared → Prop) (u v : Value),
    Room 0 A → Cx B X s → Tl s.heap X u a → Tl s.heap X v b → (∀ r s', Ks X s s' → Tl s'.heap X r d → Q r s') → wpAny (model prog w) A (f u v) Q E s
noncomputable def TO (a : D) (b : Bool) : Prop :=
  ∀ (A : Around) (E : Value → Shared → Prop) (s : Shared) (X : Nat → Prop) (Q : Bool → Shared → Prop) (u : Value),
    Room 0 A → Cx B X s → Tl s.heap X u a → (∀ s', Ks X s s' → Q b s') → wpAny (model prog w) A (truthy u) Q E s
noncomputable def UO (f : Value → Sem Value) (a d : D) : Prop :=
  ∀ (A : Around) (E : Value → Shared → Prop) (s : Shared) (X : Nat → Prop) (Q : Value → Shared → Prop) (u : Value),
    Room 0 A → Cx B X s → Tl s.heap X u a → (∀ r s', Ks X s s' → Tl s'.heap X r d → Q r s') → wpAny (model prog w) A (f u) Q E s
end

section
variable {prog : Program} {w : World} {B : Heap} {n : Nat} {sc : Scope} {ρ : Rho}

theorem pes_cons {e : Expr} {es : List Expr} {d : D} {ds : List D} (h1 : PE prog w B n sc ρ e d) (h2 : PEs prog w B n sc ρ es ds)
    (he : ∀ env, starEach (e :: es) env = (false, eval e env) :: starEach es env := by intro _; with_unfolding_all rfl) : PEs prog w B n sc ρ (e :: es) (d :: ds) := fun A env pos E s X Q r o c v h =>
  spliced_more (h1 A env E s X _ r o c v fun u s1 k t => h2 A env pos E s1 X _ r o (k.cx c) (k.vs c v) fun us s2 k2 t2 => h _ _ (k.trans k2) (.cons (k2.tl (k.cx c) t) t2)) (he env)

theorem PE.mono {n m : Nat} {e : Expr} {d : D} (h : PE prog w B n sc ρ e d) (l : n ≤ m) : PE prog w B m sc ρ e d := fun A env E s X Q r => h A env E s X Q (r.mono l)

theorem pe_list {es : List Expr} {ds : List D} {pos} (h : PEs prog w B n sc ρ es ds) (hz : ds.length ≤ 100000 := by with_unfolding_all exact Nat.le_of_ble_eq_true rfl) : PE prog w B n sc ρ (.List es pos) (.list ds) := fun A env E s X Q r o c v k => by
  refine List_ (h A env pos E s X _ r o c v fun vs s1 k1 t => ?_)
  have hl := t.length
  refine wpAny_newObj_type (k _ _ (k1.trans (Ks.push s1 _ _)) ?_) (by show vs.toArray.size ≤ sizeLine; rw [List.size_toArray, sizeLine_eq]; lia)
  have e0 : (s1.heap.push { cls := .type "list", data := .seq vs.toArray }).PlainList s1.heap.objs.size vs.toArray := ⟨0, Heap.get?_push_size _ rfl⟩
  refine .list e0 (fun q => Nat.lt_irrefl _ ((k1.cx c).xlt _ q)) (by lia) (t.move (fun b o _ e => Heap.get?_push_of_some _ e) fun _ q => .inl q)

theorem pe_binop {op l r pos} {a b d : D} (hl : PE prog w B n sc ρ l a) (hr : PE prog w B n sc ρ r b) (ho : BO prog w B (binaryOp op) a b d) : PE prog w B n sc ρ (.BinOp l op r pos) d := fun A env E s X Q rm o c v k =>
  wpAny_BinOp (hl A env E s X _ rm o c v fun u s1 k1 t1 => hr A env E s1 X _ rm o (k1.cx c) (k1.vs c v) fun u2 s2 k2 t2 =>
    ho A E s2 X _ u u2 (rm.mono (Nat.zero_le _)) (k2.cx (k1.cx c)) (k2.tl (k1.cx c) t1) t2 fun x s3 k3 t3 => k _ _ ((k1.trans k2).trans k3) t3)

theorem pe_cmp {op l r pos} {a b d : D} (hl : PE prog w B n sc ρ l a) (hr : PE prog w B n sc ρ r b) (ho : BO prog w B (compareOp op) a b d) (hm : behindInMarks op r = false := by with_unfolding_all rfl) :
    PE prog w B n sc ρ (.Compare l [op] [r] pos) d := fun A env E s X Q rm o c v k =>
  wpAny_Compare1 (hl A env E s X _ rm o c v fun u s1 k1 t1 => hr A env E s1 X _ rm o (k1.cx c) (k1.vs c v) fun u2 s2 k2 t2 =>
    ho A E s2 X _ u u2 (rm.mono (Nat.zero_le _)) (k2.cx (k1.cx c)) (k2.tl (k1.cx c) t1) t2 fun x s3 k3 t3 => k _ _ ((k1.trans k2).trans k3) t3) hm

theorem pt_cmp {op l r pos} {a b : D} {c : Bool} (hl : PE prog w B n sc ρ l a) (hr : PE prog w B n sc ρ r b) (ho : BO prog w B (compareOp op) a b (.bool c)) (hm : behindInMarks op r = false := by with_unfolding_all rfl) :
    PT prog w B n sc ρ (.Compare l [op] [r] pos) c := fun A env E s X Q rm o cx v k =>
  wpAny_isTrue_Compare1 (hl A env E s X _ rm o cx v fun u s1 k1 t1 => hr A env E s1 X _ rm o (k1.cx cx) (k1.vs cx v) fun u2 s2 k2 t2 =>
    ho A E s2 X _ u u2 (rm.mono (Nat.zero_le _)) (k2.cx (k1.cx cx)) (k2.tl (k1.cx cx) t1) t2 fun x s3 k3 t3 => by
      cases t3 using Tl.boolE; exact wpAny_truthy_bool (k _ ((k1.trans k2).trans k3))) hm

theorem pt_not {x pos} {b : Bool} (h : PT prog w B n sc ρ x b) : PT prog w B n sc ρ (.UnaryOp .Not x pos) (!b) := fun A env E s X Q rm o c v k =>
  isTrue_not (h A env E s X _ rm o c v fun s' k1 => k s' k1)

theorem pt_plain {e} {a : D} {b : Bool} (h : PE prog w B n sc ρ e a) (ht : TO prog w B a b)
    (hp : ∀ env whole, PySem.isTrue e env whole = (do let v ← whole; standAt e.pos; holding [v] (truthy v)) := by intro _ _; with_unfolding_all rfl) : PT prog w B n sc ρ e b := fun A env E s X Q rm o c v k =>
  isTrue_plain (h A env E s X _ rm o c v fun u s1 k1 t1 => ht A E s1 X _ u (rm.mono (Nat.zero_le _)) (k1.cx c) t1 fun s2 k2 => k _ (k1.trans k2)) (hp _ _)

theorem pe_not {x pos} {a : D} {b : Bool} (h : PE prog w B n sc ρ x a) (ht : TO prog w B a b) : PE prog w B n sc ρ (.UnaryOp .Not x pos) (.bool !b) := fun A env E s X Q rm o c v k => by
  show wpAny _ _ (do let v ← eval x env; standAt pos; holding [v] (unaryOp .Not v)) _ _ _
  refine wpAny_bind (h A env E s X _ rm o c v fun u s1 k1 t1 => wpAny_bind (wpAny_standAt (wpAny_holding (not_of (ht A E s1 X _ u (rm.mono (Nat.zero_le _)) (k1.cx c) t1 fun s2 k2 => ?_)))))
  exact k _ _ (k1.trans k2) (.bool _)

theorem pe_neg {x pos} {i : Int} (h : PE prog w B n sc ρ x (.int i)) : PE prog w B n sc ρ (.UnaryOp .USub x pos) (.int (-i)) := fun A env E s X Q rm o c v k => by
  show wpAny _ _ (do let v ← eval x env; standAt pos; holding [v] (unaryOp .USub v)) _ _ _
  refine wpAny_bind (h A env E s X _ rm o c v fun u s1 k1 t1 => wpAny_bind (wpAny_standAt (wpAny_holding ?_)))
  cases t1 using Tl.intE
  exact neg_int (k _ _ (k1.trans (Ks.tok s1 _)) (.int _ _))

theorem pe_if_t {t b e pos} {d : D} (ht : PT prog w B n sc ρ t true) (hb : PE prog w B n sc ρ b d) : PE prog w B n sc ρ (.IfExp t b e pos) d := fun A env E s X Q rm o c v k => by
  show wpAny _ _ (do if ← PySem.isTrue t env (eval t env) then eval b env else eval e env) _ _ _
  refine wpAny_bind (ht A env E s X _ rm o c v fun s1 k1 => ?_)
  exact hb A env E s1 X _ rm o (k1.cx c) (k1.vs c v) fun u s2 k2 t2 => k _ _ (k1.trans k2) t2
theorem pe_if_f {t b e pos} {d : D} (ht : PT prog w B n sc ρ t false) (hb : PE prog w B n sc ρ e d) : PE prog w B n sc ρ (.IfExp t b e pos) d := fun A env E s X Q rm o c v k => by
  show wpAny _ _ (do if ← PySem.isTrue t env (eval t env) then eval b env else eval e env) _ _ _
  refine wpAny_bind (ht A env E s X _ rm o c v fun s1 k1 => ?_)
  exact hb A env E s1 X _ rm o (k1.cx c) (k1.vs c v) fun u s2 k2 t2 => k _ _ (k1.trans k2) t2
theorem pe_if {t b e pos} {q : Bool} {d1 d2 : D} (ht : PT prog w B n sc ρ t q) (h1 : q = true → PE prog w B n sc ρ b d1) (h2 : q = false → PE prog w B n sc ρ e d2) : PE prog w B n sc ρ (.IfExp t b e pos) (if q then d1 else d2) := by
  cases q
  · exact pe_if_f ht (h2 rfl)
  · exact pe_if_t ht (h1 rfl)

theorem pt_and_nil {pos} : PT prog w B n sc ρ (.BoolOp .And [] pos) true := fun A env E s X Q rm o c v k => by
  show wpAny _ _ (allTrue .And [] env) _ _ _
  exact wpAny_pure (k _ (Ks.refl s))
theorem pt_and {x rest pos} {a b : Bool} (h1 : PT prog w B n sc ρ x a) (h2 : a = true → PT prog w B n sc ρ (.BoolOp .And rest pos) b) : PT prog w B n sc ρ (.BoolOp .And (x :: rest) pos) (a && b) := fun A env E s X Q rm o c v k => by
  show wpAny _ _ (do match BoolOp.And, ← PySem.isTrue x env (eval x env) with | .And, false => pure false | .Or, true => pure true | _, _ => allTrue .And rest env) _ _ _
  refine wpAny_bind (h1 A env E s X _ rm o c v fun s1 k1 => ?_)
  cases a
  · exact wpAny_pure (k _ k1)
  · exact h2 rfl A env E s1 X _ rm o (k1.cx c) (k1.vs c v) fun s2 k2 => k _ (k1.trans k2)
theorem pt_or_nil {pos} : PT prog w B n sc ρ (.BoolOp .Or [] pos) false := fun A env E s X Q rm o c v k => by
  show wpAny _ _ (allTrue .Or [] env) _ _ _
  exact wpAny_pure (k _ (Ks.refl s))
theorem pt_or {x rest pos} {a b : Bool} (h1 : PT prog w B n sc ρ x a) (h2 : a = false → PT prog w B n sc ρ (.BoolOp .Or rest pos) b) : PT prog w B n sc ρ (.BoolOp .Or (x :: rest) pos) (a || b) := fun A env E s X Q rm o c v k => by
  show wpAny _ _ (do match BoolOp.Or, ← PySem.isTrue x env (eval x env) with | .And, false => pure false | .Or, true => pure true | _, _ => allTrue .Or rest env) _ _ _
  refine wpAny_bind (h1 A env E s X _ rm o c v fun s1 k1 => ?_)
  cases a
  · exact h2 rfl A env E s1 X _ rm o (k1.cx c) (k1.vs c v) fun s2 k2 => k _ (k1.trans k2)
  · exact wpAny_pure (k _ k1)

theorem pe_or_one {x pos} {d : D} (h : PE prog w B n sc ρ x d) : PE prog w B n sc ρ (.BoolOp .Or [x] pos) d := fun A env E s X Q rm o c v k => h A env E s X _ rm o c v k
theorem pe_and_one {x pos} {d : D} (h : PE prog w B n sc ρ x d) : PE prog w B n sc ρ (.BoolOp .And [x] pos) d := fun A env E s X Q rm o c v k => h A env E s X _ rm o c v k
theorem pe_or {x y rest pos} {a d : D} {q : Bool} (h1 : PE prog w B n sc ρ x a) (ht : TO prog w B a q) (h2 : q = false → PE prog w B n sc ρ (.BoolOp .Or (y :: rest) pos) d) : PE prog w B n sc ρ (.BoolOp .Or (x :: y :: rest) pos) (if q then a else d) := fun A env E s X Q rm o c v k => by
  show wpAny _ _ (do
    let v ← eval x env
    standAt pos
    let t ← holding [v] (truthy v)
    match BoolOp.Or, t with
    | .And, false | .Or, true => pure v
    | _, _ => boolOp pos .Or (eval y env :: evalEach rest env)) _ _ _
  refine wpAny_bind (h1 A env E s X _ rm o c v fun u s1 k1 t1 => wpAny_bind (wpAny_standAt (wpAny_bind (wpAny_holding (ht A E s1 X _ u (rm.mono (Nat.zero_le _)) (k1.cx c) t1 fun s2 k2 => ?_)))))
  cases q
  · exact h2 rfl A env E s2 X _ rm o (k2.cx (k1.cx c)) ((k1.trans k2).vs c v) fun r s3 k3 t3 => k _ _ ((k1.trans k2).trans k3) t3
  · exact wpAny_pure (k _ _ (k1.trans k2) (k2.tl (k1.cx c) t1))
theorem pe_and {x y rest pos} {a d : D} {q : Bool} (h1 : PE prog w B n sc ρ x a) (ht : TO prog w B a q) (h2 : q = true → PE prog w B n sc ρ (.BoolOp .And (y :: rest) pos) d) : PE prog w B n sc ρ (.BoolOp .And (x :: y :: rest) pos) (if q then d else a) := fun A env E s X Q rm o c v k => by
  show wpAny _ _ (do
    let v ← eval x env
    standAt pos
    let t ← holding [v] (truthy v)
    match BoolOp.And, t with
    | .And, false | .Or, true => pure v
    | _, _ => boolOp pos .And (eval y env :: evalEach rest env)) _ _ _
  refine wpAny_bind (h1 A env E s X _ rm o c v fun u s1 k1 t1 => wpAny_bind (wpAny_standAt (wpAny_bind (wpAny_holding (ht A E s1 X _ u (rm.mono (Nat.zero_le _)) (k1.cx c) t1 fun s2 k2 => ?_)))))
  cases q
  · exact wpAny_pure (k _ _ (k1.trans k2) (k2.tl (k1.cx c) t1))
  · exact h2 rfl A env E s2 X _ rm o (k2.cx (k1.cx c)) ((k1.trans k2).vs c v) fun r s3 k3 t3 => k _ _ ((k1.trans k2).trans k3) t3

theorem to_bool {b : Bool} : TO prog w B (.bool b) b := fun A E s X Q u _ _ t k => by cases t using Tl.boolE; exact wpAny_truthy_bool (k _ (Ks.refl s))
theorem to_int {i : Int} : TO prog w B (.int i) (i != 0) := fun A E s X Q u _ _ t k => by cases t using Tl.intE; exact truthy_int (k _ (Ks.refl s))
theorem to_list {l : List D} : TO prog w B (.list l) (!l.isEmpty) := fun A E s X Q u _ _ t k => by
  cases t using Tl.listE with
  | list p nx z ts =>
    rename_i vs
    have hl := ts.length
    refine wpAny_truthy_list p.isList (by rw [List.size_toArray]; lia) ?_
    have e : vs.toArray.isEmpty = l.isEmpty := by cases ts <;> rfl
    rw [e]
    exact k _ (Ks.tok s _)

theorem bo_add_int {a b : Int} : BO prog w B (binaryOp .Add) (.int a) (.int b) (.int (a + b)) := fun A E s X Q u v _ _ t1 t2 k => by cases t1 using Tl.intE; cases t2 using Tl.intE; exact add_int (k _ _ (Ks.tok s _) (.int _ _))
theorem bo_sub_int {a b : Int} : BO prog w B (binaryOp .Sub) (.int a) (.int b) (.int (a - b)) := fun A E s X Q u v _ _ t1 t2 k => by cases t1 using Tl.intE; cases t2 using Tl.intE; exact sub_int (k _ _ (Ks.tok s _) (.int _ _))
theorem bo_mod_int {a b : Int} (hb : b ≠ 0) : BO prog w B (binaryOp .Mod) (.int a) (.int b) (.int (a.fmod b)) := fun A E s X Q u v _ _ t1 t2 k => by cases t1 using Tl.intE; cases t2 using Tl.intE; exact mod_int' hb (k _ _ (Ks.tok s _) (.int _ _))
theorem bo_div_int {a b : Int} (hb : b ≠ 0) (hp : Builtin.divisionGoesByPylong a b = false) : BO prog w B (binaryOp .FloorDiv) (.int a) (.int b) (.int (a.fdiv b)) := fun A E s X Q u v _ _ t1 t2 k => by cases t1 using Tl.intE; cases t2 using Tl.intE; exact floordiv_int hb (k _ _ (Ks.tok s _) (.int _ _)) (.inl hp)
theorem bo_pow_int {a b : Int} (h0 : 0 ≤ b) (hs : (Builtin.Int.intBits a : Int) * b ≤ 2 ^ 27) : BO prog w B (binaryOp .Pow) (.int a) (.int b) (.int (a ^ b.toNat)) := fun A E s X Q u v _ _ t1 t2 k => by cases t1 using Tl.intE; cases t2 using Tl.intE; exact pow_int h0 hs (k _ _ (Ks.tok s _) (.int _ _))
theorem bo_add_str {a b : Str} (h : a.length + b.length ≤ sizeLine) : BO prog w B (binaryOp .Add) (.str a) (.str b) (.str (a ++ b)) := fun A E s X Q u v _ _ t1 t2 k => by cases t1 using Tl.strE; cases t2 using Tl.strE; exact add_str (fun t tk => k _ _ (Ks.tok s _) (.str _ _)) h
theorem bo_add_list {a b : List D} (h : a.length + b.length ≤ 100000) : BO prog w B (binaryOp .Add) (.list a) (.list b) (.list (a ++ b)) := fun A E s X Q u v _ c t1 t2 k => by
  cases t1 using Tl.listE with
  | list p1 n1 z1 ts1 =>
  cases t2 using Tl.listE with
  | list p2 n2 z2 ts2 =>
    rename_i vs _ ws
    obtain ⟨n, ho⟩ := p1
    obtain ⟨m, ho2⟩ := p2
    have hl := ts1.length
    have hl2 := ts2.length
    have e : vs.toArray ++ ws.toArray = (vs ++ ws).toArray := by simp
    refine concat_meets ⟨_, ho, rfl⟩ ⟨_, ho2, rfl⟩ noFill_list_add seq_list_add PySem.F.slot_list_add PySem.F.entry_list_add (PySem.F.args_list_add_2 _ _) (list_addW _ _ vs.toArray ws.toArray n m none none #[] #[] (by simp only [List.size_toArray]; rw [sizeLine_eq]; grind)) ⟨ho, ho2, ?_⟩
    rw [e]
    refine k _ _ (Ks.push s _ _) (.list ⟨0, Heap.get?_push_size _ rfl⟩ (fun q => Nat.lt_irrefl _ (c.xlt _ q)) (by rw [List.length_append]; grind) ?_)
    exact (ts1.append ts2).move (fun b o _ e => Heap.get?_push_of_some _ e) fun _ q => .inl q

theorem bo_eq_int {a b : Int} : BO prog w B (compareOp .Eq) (.int a) (.int b) (.bool (a == b)) := fun A E s X Q u v _ _ t1 t2 k => by cases t1 using Tl.intE; cases t2 using Tl.intE; exact eq_int (k _ _ (Ks.refl s) (.bool _))
theorem bo_ne_int {a b : Int} : BO prog w B (compareOp .NotEq) (.int a) (.int b) (.bool (a != b)) := fun A E s X Q u v _ _ t1 t2 k => by cases t1 using Tl.intE; cases t2 using Tl.intE; exact ne_int (k _ _ (Ks.refl s) (.bool _))
theorem bo_lt_int {a b : Int} : BO prog w B (compareOp .Lt) (.int a) (.int b) (.bool (decide (a < b))) := fun A E s X Q u v _ _ t1 t2 k => by cases t1 using Tl.intE; cases t2 using Tl.intE; exact lt_int (k _ _ (Ks.refl s) (.bool _))
theorem bo_gt_int {a b : Int} : BO prog w B (compareOp .Gt) (.int a) (.int b) (.bool (decide (b < a))) := fun A E s X Q u v _ _ t1 t2 k => by cases t1 using Tl.intE; cases t2 using Tl.intE; exact gt_int (k _ _ (Ks.refl s) (.bool _))
theorem bo_ge_int {a b : Int} : BO prog w B (compareOp .GtE) (.int a) (.int b) (.bool (decide (b ≤ a))) := fun A E s X Q u v _ _ t1 t2 k => by cases t1 using Tl.intE; cases t2 using Tl.intE; exact ge_int (k _ _ (Ks.refl s) (.bool _))
theorem bo_eq_str {a b : Str} : BO prog w B (compareOp .Eq) (.str a) (.str b) (.bool (a == b)) := fun A E s X Q u v _ _ t1 t2 k => by cases t1 using Tl.strE; cases t2 using Tl.strE; exact eq_str (k _ _ (Ks.refl s) (.bool _))
theorem bo_ne_str {a b : Str} : BO prog w B (compareOp .NotEq) (.str a) (.str b) (.bool (a != b)) := fun A E s X Q u v _ _ t1 t2 k => by cases t1 using Tl.strE; cases t2 using Tl.strE; exact ne_str (k _ _ (Ks.refl s) (.bool _))
theorem bo_ne_bool {a b : Bool} : BO prog w B (compareOp .NotEq) (.bool a) (.bool b) (.bool (a != b)) := fun A E s X Q u v _ _ t1 t2 k => by cases t1 using Tl.boolE; cases t2 using Tl.boolE; exact ne_bool (k _ _ (Ks.refl s) (.bool _))
theorem bo_in_str {a b : Str} : BO prog w B (compareOp .In) (.str a) (.str b) (.bool (!List.isEmpty (Builtin.Str.occurrences b a 0 b.length 1))) := fun A E s X Q u v _ _ t1 t2 k => by cases t1 using Tl.strE; cases t2 using Tl.strE; exact in_str (k _ _ (Ks.refl s) (.bool _))
end
end Mine
end

section
open PySem PySem.W PySem.Calls PyProof.Rows
set_option Elab.async false
set_option linter.unusedVariables false
set_option linter.unusedSectionVars false
set_option maxRecDepth 10000
namespace Mine
theorem neg1 : ∀ n : Nat, ((-1 : Int) + (n : Int)).toNat = n - 1
  | 0 => rfl
  | m + 1 => by rw [Int.natCast_succ, Int.add_comm, Int.add_neg_cancel_right, Int.toNat_natCast]; rfl
variable [Star]

noncomputable def atD {α : Type} (ds : List α) (i : Int) : Option α := if 0 ≤ i then ds[i.toNat]? else if -(ds.length : Int) ≤ i then ds[(i + ds.length).toNat]? else none

noncomputable def pickD {α : Type} (ds : List α) (lo hi st : Option Int) : List α :=
  (sliceRange (sliceBounds lo hi st ds.length).1 (sliceBounds lo hi st ds.length).2.1 (sliceBounds lo hi st ds.length).2.2).filterMap (ds[·]?)

theorem Tls.pick {h : Heap} {X : Nat → Prop} {vs : List Value} {ds : List D} (t : Tls h X vs ds) : ∀ l : List Nat, Tls h X (l.filterMap (vs[·]?)) (l.filterMap (ds[·]?))
  | [] => .nil
  | i :: l => by
    have ih := Tls.pick t l
    have hl := t.length
    cases e : ds[i]? with
    | none =>
      have e2 : vs[i]? = none := by rw [List.getElem?_eq_none_iff] at e ⊢; lia
      simpa [List.filterMap_cons, e, e2] using ih
    | some d =>
      obtain ⟨v, e2, tv⟩ := t.get e
      simpa [List.filterMap_cons, e, e2] using Tls.cons tv ih

section
variable (prog : Program) (w : World) (B : Heap)
noncomputable def PO (n : Nat) (sc : Scope) (ρ : Rho) : Option Expr → Option Int → Prop
  | none, none => True
  | some e, some i => PE prog w B n sc ρ e (.int i)
  | _, _ => False
end

section
variable {prog : Program} {w : World} {B : Heap} {n : Nat} {sc : Scope} {ρ : Rho}

theorem pe_item_list {value slice pos} {ds : List D} {i : Int} {d : D} (hv : PE prog w B n sc ρ value (.list ds)) (hi : PE prog w B n sc ρ slice (.int i)) (hd : atD ds i = some d)
    (hs : ∀ o j, subscripted slice false o j = operate [o, j] (getItem o j) := by intro _ _; with_unfolding_all rfl) : PE prog w B n sc ρ (.Subscript value slice pos) d := fun A env E s X Q r o c v k => by
  refine Subscript_ (hv A env E s X _ r o c v fun u s1 k1 t1 => hi A env E s1 X _ r o (k1.cx c) (k1.vs c v) fun j s2 k2 t2 => ?_)
  have t1' := k2.tl (k1.cx c) t1
  cases t1' using Tl.listE with
  | list p nx z ts =>
    cases t2 using Tl.intE with
    | int tk =>
      rename_i a vs
      have hl := ts.length
      refine tail_any p.isList.typeIs slot_list_getitem.lookup ?_ (hs _ _)
      unfold atD at hd
      by_cases h0 : 0 ≤ i
      · rw [if_pos h0] at hd
        obtain ⟨x, ex, tx⟩ := ts.get hd
        have hlt : i.toNat < vs.length := (List.getElem?_eq_some_iff.mp ex).1
        exact wpAny_getItem_list p.isList h0 (by grind) (by simpa using ex) (k _ _ (k1.trans k2) tx)
      · rw [if_neg h0] at hd
        by_cases h1 : -(ds.length : Int) ≤ i
        · rw [if_pos h1] at hd
          obtain ⟨x, ex, tx⟩ := ts.get hd
          refine wpAny_getItem_list_neg p.isList (by lia) (by rw [List.size_toArray]; lia) (by lia) ?_ (k _ _ (k1.trans k2) tx)
          rw [List.size_toArray, hl]; simpa using ex
        · rw [if_neg h1] at hd; cases hd

theorem pe_item_str {value slice pos} {x : Str} {i : Int} {c : Nat} (hv : PE prog w B n sc ρ value (.str x)) (hi : PE prog w B n sc ρ slice (.int i)) (hd : atD x.cps.toList i = some c) (hz : x.length ≤ 1000000)
    (hs : ∀ o j, subscripted slice false o j = operate [o, j] (getItem o j) := by intro _ _; with_unfolding_all rfl) : PE prog w B n sc ρ (.Subscript value slice pos) (.str ⟨#[c]⟩) := fun A env E s X Q r o cx v k => by
  refine Subscript_ (hv A env E s X _ r o cx v fun u s1 k1 t1 => hi A env E s1 X _ r o (k1.cx cx) (k1.vs cx v) fun j s2 k2 t2 => ?_)
  cases t1 using Tl.strE with
  | str tk =>
    cases t2 using Tl.intE with
    | int tk2 =>
      refine tail_any (typeIs_str _ _ _) PySem.F.slot_str_getitem.lookup ?_ (hs _ _)
      have hlen : x.length = x.cps.toList.length := by show x.cps.size = _; simp
      have hb : -(x.length : Int) ≤ i ∧ i < x.length := by
        unfold atD at hd
        by_cases h0 : 0 ≤ i
        · rw [if_pos h0] at hd
          have := (List.getElem?_eq_some_iff.mp hd).1
          lia
        · rw [if_neg h0] at hd
          by_cases h1 : -(x.cps.toList.length : Int) ≤ i
          · lia
          · rw [if_neg h1] at hd; cases hd
      refine getItem_str (c := c) (by rw [Bool.or_eq_false_iff]; exact ⟨decide_eq_false (by lia), decide_eq_false (by lia)⟩) ?_ (k _ _ ((k1.trans k2).trans (Ks.tok s2 _)) (.str _ _))
      unfold atD at hd
      unfold seqIndex?
      by_cases h0 : 0 ≤ i
      · rw [if_pos h0] at hd
        have hn : ¬ i < 0 := by lia
        have e1 : ¬ ((if i < 0 then i + (x.length : Int) else i) < 0 ∨ (if i < 0 then i + (x.length : Int) else i) ≥ x.length) := by rw [if_neg hn]; lia
        simp only [hn, if_false] at e1 ⊢
        simp [hb.2, h0] at *
        exact hd
      · rw [if_neg h0] at hd
        rw [if_pos (by lia)] at hd
        have hn : i < 0 := by lia
        simp only [hn, if_true]
        have h2 : 0 ≤ i + (x.length : Int) := by grind
        have h3 : i + (x.length : Int) < x.length := by lia
        rw [← hlen] at hd
        simp [h2, h3] at *
        exact hd

theorem po_walk {e : Option Expr} {i : Option Int} (h : PO prog w B n sc ρ e i) {A : Around} {env : Env} {E : Value → Shared → Prop} {s : Shared} {X : Nat → Prop} {Q : Value → Shared → Prop}
    (r : Room n A) (o : Eo sc env) (c : Cx B X s) (v : Vs env s.heap X ρ) (k : ∀ tk s', Ks X s s' → Q (partValue (i.map fun i => (i, tk))) s') : wpAny (model prog w) A (evalPart e env) Q E s := by
  cases e with
  | none =>
    cases i with
    | none => exact wpAny_pure (k 0 _ (Ks.refl s))
    | some i => exact h.elim
  | some e =>
    cases i with
    | none => exact h.elim
    | some i =>
      rw [evalPart_some]
      exact h A env E s X _ r o c v fun u s1 k1 t1 => by cases t1 using Tl.intE with | int tk => exact k tk _ k1

theorem isPart_of (i : Option Int) (tk : Tok) : IsPart (partValue (i.map fun i => (i, tk))) i := by
  cases i with
  | none => exact .none
  | some i => exact .int i tk

theorem pe_slice_list {value pos p} {lower upper step : Option Expr} {ds : List D} {lo hi st : Option Int} (hv : PE prog w B n sc ρ value (.list ds))
    (h1 : PO prog w B n sc ρ lower lo) (h2 : PO prog w B n sc ρ upper hi) (h3 : PO prog w B n sc ρ step st) (h0 : st ≠ some 0) (hl : (pickD ds lo hi st).length ≤ ds.length) :
    PE prog w B n sc ρ (.Subscript value (.Slice lower upper step p) pos) (.list (pickD ds lo hi st)) := fun A env E s X Q r o c v k => by
  refine Subscript_ (hv A env E s X _ r o c v fun u s1 k1 t1 => wpAny_Slice (po_walk h1 r o (k1.cx c) (k1.vs c v) fun a1 s2 k2 => po_walk h2 r o ((k1.trans k2).cx c) ((k1.trans k2).vs c v) fun a2 s3 k3 => po_walk h3 r o (((k1.trans k2).trans k3).cx c) (((k1.trans k2).trans k3).vs c v) fun a3 s4 k4 => ?_))
  have kk := ((k1.trans k2).trans k3).trans k4
  have t4 := (((k2.trans k3).trans k4).tl (k1.cx c) t1)
  cases t4 using Tl.listE with
  | list q nx z ts =>
    rename_i a vs
    have hlen := ts.length
    have hsl : (s4.heap.push { cls := .type "slice", data := .fields #[partValue (lo.map fun i => (i, a1)), partValue (hi.map fun i => (i, a2)), partValue (st.map fun i => (i, a3))] }).IsSliceOf s4.heap.objs.size (partValue (lo.map fun i => (i, a1))) (partValue (hi.map fun i => (i, a2))) (partValue (st.map fun i => (i, a3))) :=
      ⟨_, Heap.get?_push_size _ rfl, rfl, rfl⟩
    have hli : (s4.heap.push { cls := .type "slice", data := .fields #[partValue (lo.map fun i => (i, a1)), partValue (hi.map fun i => (i, a2)), partValue (st.map fun i => (i, a3))] }).IsList a vs.toArray := q.isList.push _
    have key : ∀ ops, subscripted (.Slice lower upper step p) false (.ref a) (.ref s4.heap.objs.size) = operate ops (getItem (.ref a) (.ref s4.heap.objs.size)) →
        wpAny (model prog w) A (subscriptTail value (.Slice lower upper step p) (.ref a) (.ref s4.heap.objs.size)) Q E { s4 with heap := s4.heap.push { cls := .type "slice", data := .fields #[partValue (lo.map fun i => (i, a1)), partValue (hi.map fun i => (i, a2)), partValue (st.map fun i => (i, a3))] } } := fun ops hops => by
      refine tail_any hli.typeIs slot_list_getitem.lookup ?_ hops
      refine wpAny_getItem_list_slice hli hsl (isPart_of _ _) (isPart_of _ _) (isPart_of _ _) h0 ?_ (by rw [List.size_toArray, sizeLine_eq]; grind)
      have kq := kk.trans (Ks.push s4 { cls := .type "slice", data := .fields #[partValue (lo.map fun i => (i, a1)), partValue (hi.map fun i => (i, a2)), partValue (st.map fun i => (i, a3))] } s4.toks)
      refine k _ _ (kq.trans (Ks.push _ _ _)) ?_
      have e : slicePick vs.toArray lo hi st = (pickD vs lo hi st).toArray := by
        unfold slicePick pickD; simp
      have hp : Tls s4.heap X (pickD vs lo hi st) (pickD ds lo hi st) := by
        unfold pickD; rw [hlen]; exact ts.pick _
      refine .list (vs := pickD vs lo hi st) ?_ (fun z => ?_) (by rw [hp.length]; lia) (hp.move (fun b o _ e => Heap.get?_push_of_some _ (Heap.get?_push_of_some _ e)) fun _ q => .inl q)
      · exact ⟨0, by rw [← e]; exact Heap.get?_push_size _ rfl⟩
      · have := (kq.cx c).xlt _ z
        exact Nat.lt_irrefl _ this
    cases step with
    | none => exact key _ rfl
    | some e => exact key _ rfl

theorem pe_slice_str {value pos p} {lower upper : Option Expr} {x : Str} {lo hi : Option Int} (hv : PE prog w B n sc ρ value (.str x))
    (h1 : PO prog w B n sc ρ lower lo) (h2 : PO prog w B n sc ρ upper hi) (hz : x.length ≤ sizeLine) :
    PE prog w B n sc ρ (.Subscript value (.Slice lower upper none p) pos) (.str (Txt.slice x lo hi)) := fun A env E s X Q r o c v k => by
  refine Subscript_ (hv A env E s X _ r o c v fun u s1 k1 t1 => wpAny_Slice (po_walk h1 r o (k1.cx c) (k1.vs c v) fun a1 s2 k2 => po_walk h2 r o ((k1.trans k2).cx c) ((k1.trans k2).vs c v) fun a2 s3 k3 => wpAny_pure ?_))
  have kk := (k1.trans k2).trans k3
  cases t1 using Tl.strE with
  | str tk =>
    refine tail_any (typeIs_str _ _ _) PySem.F.slot_str_getitem.lookup ?_ rfl
    refine wpAny_getItem_str_slice (l := lo.map fun i => (i, a1)) (u := hi.map fun i => (i, a2)) (st := none) ⟨_, Heap.get?_push_size _ rfl, rfl, rfl⟩ rfl ?_
    have e1 : (lo.map fun i => (i, a1)).map (·.1) = lo := by cases lo <;> rfl
    have e2 : (hi.map fun i => (i, a2)).map (·.1) = hi := by cases hi <;> rfl
    unfold sliceMade slicePicked
    rw [e1, e2]
    refine post_val_or_str ⟨Nat.le_trans (Txt.slice_le x lo hi) hz, fun t' kt => ?_⟩
    exact k _ _ (kk.trans (Ks.push s3 _ kt)) (.str _ _)

end
end Mine
end

section
open PySem PySem.W PySem.Calls PyProof.Rows
set_option Elab.async false
set_option linter.unusedVariables false
set_option linter.unusedSectionVars false
set_option maxRecDepth 10000
namespace Mine
variable [Star]

theorem Cx.turn {B : Heap} {X : Nat → Prop} {s s' : Shared} (c : Cx B X s) (k : ∀ b o, ¬ X b ∨ b = Mine.tb → s.heap.get? b = some o → s'.heap.get? b = some o) (z : s.heap.objs.size ≤ s'.heap.objs.size) (g : s'.gens = s.gens) : Cx B X s' :=
  ⟨fun b o e => k b o (.inl fun q => by rw [c.xb b q] at e; cases e) (c.base b o e), fun b q => Nat.lt_of_lt_of_le (c.xlt b q) z, c.xb, c.tb, c.ti.move k fun _ q => .inl q, g ▸ c.gn⟩
theorem Cx.more {B : Heap} {X X' : Nat → Prop} {s s' : Shared} (c : Cx B X s) (m : ∀ b, X b → X' b) (m' : ∀ b, X' b → X b ∨ s.heap.objs.size ≤ b) (lt : ∀ b, X' b → b < s'.heap.objs.size)
    (k : ∀ b o, s.heap.get? b = some o → s'.heap.get? b = some o) (g : s'.gens = s.gens) : Cx B X' s' :=
  ⟨fun b o e => k b o (c.base b o e), lt, fun b q => (m' b q).elim (c.xb b) fun z => by
      cases e : B.get? b with
      | none => rfl
      | some o => exact absurd (Heap.lt_size (c.base b o e)) (Nat.not_lt.mpr z),
    m _ c.tb, c.ti.move (fun b o _ e => k b o e) m', g ▸ c.gn⟩

structure GlobFn (B : Heap) (f : Str) (a : Nat) : Prop where
  at_ : ∃ mg o fd, B.Ns mainGlobals mg ∧ mg f = some (.ref a) ∧ B.get? a = some o ∧ o.data = .func fd
structure GlobBlt (B : Heap) (f : Str) (v : Value) : Prop where
  at_ : ∃ mg mb, B.Ns mainGlobals mg ∧ mg f = none ∧ B.Ns builtinsNs mb ∧ mb f = some v

noncomputable def IsIt (h : Heap) (I : Nat) : Prop := ∃ o vs t, h.get? I = some o ∧ o.cls = .type t ∧ o.data = .fields vs ∧ ["enumerate", "zip", "dict_itemiterator", "dict_reverseitemiterator", "odict_iterator", "itertools.zip_longest", "itertools.pairwise"].contains t = false

section
variable (prog : Program) (w : World) (B : Heap)
noncomputable def FA (n : Nat) (a : Nat) (ds : List D) (d : D) : Prop :=
  ∀ (A : Around) (E : Value → Shared → Prop) (s : Shared) (X : Nat → Prop) (Q : Value → Shared → Prop) (vs : List Value),
    Room n A → Cx B X s → Tls s.heap X vs ds → (∀ v s', Ks X s s' → Tl s'.heap X v d → Q v s') → wpAny (model prog w) A (call (.ref a) vs) Q E s
noncomputable def PI (z : Bool) (n : Nat) (sc : Scope) (ρ : Rho) (e : Expr) (ds : List D) : Prop :=
  ∀ (A : Around) (env : Env) (E : Value → Shared → Prop) (s : Shared) (X : Nat → Prop) (Q : Value → Shared → Prop),
    Room n A → Eo sc env → Cx B X s → Vs env s.heap X ρ →
    (∀ (I : Nat) (fp wr : List Nat) (P : Nat → Value → Prop) (St : Nat → Heap → Prop) (s2 : Shared), Ks X s s2 → Walks prog w A I fp wr ds.length P St → St 0 s2.heap → ((∀ b ∈ fp, b < s2.heap.objs.size ∧ b ≠ tb ∧ (b ∈ wr ∨ ¬ X b)) ∧ (z = true → wr = [I] ∧ ∀ i h, St i h → IsIt h I)) → (∀ b ∈ wr, s.heap.objs.size ≤ b ∧ b < s2.heap.objs.size) →
      Cx B (fun b => X b ∨ b ∈ wr) s2 → (∀ i v, i < ds.length → P i v → ∃ d, ds[i]? = some d ∧ Tl s2.heap (fun b => X b ∨ b ∈ wr) v d) → Q (.ref I) s2) →
    wpAny (model prog w) A (eval e env) (fun x s1 => wpAny (model prog w) A (pyIter x) Q E s1) E s
noncomputable def PTs (n : Nat) (sc : Scope) (ρ : Rho) (ifs : List Expr) (b : Bool) : Prop :=
  ∀ (A : Around) (env : Env) (E : Value → Shared → Prop) (s : Shared) (X : Nat → Prop) (Q : Bool → Shared → Prop),
    Room n A → Eo sc env → Cx B X s → Vs env s.heap X ρ → (∀ s', Ks X s s' → Q b s') →
    wpAny (model prog w) A (forIn ifs true fun c r => if r = true then do let ok ← PySem.isTrue c env (eval c env); pure (ForInStep.yield ok) else pure (ForInStep.yield r)) Q E s
end

section
variable {prog : Program} {w : World} {B : Heap} {z : Bool} {n : Nat} {sc : Scope} {ρ : Rho}

theorem pts_nil : PTs prog w B n sc ρ [] true := fun A env E s X Q r o c v k => by
  rw [List.forIn_nil]; exact wpAny_pure (k _ (Ks.refl s))
theorem pts_one {e : Expr} {b : Bool} (h : PT prog w B n sc ρ e b) : PTs prog w B n sc ρ [e] b := fun A env E s X Q r o c v k => by
  rw [List.forIn_cons]
  simp only [if_true]
  refine wpAny_bind (wpAny_bind (h A env E s X _ r o c v fun s1 k1 => wpAny_pure ?_))
  show wpAny _ _ (forIn [] b _) _ _ _
  rw [List.forIn_nil]; exact wpAny_pure (k _ k1)

theorem name_global {f : Str} {v : Value} {env : Env} {A : Around} {E : Value → Shared → Prop} {s : Shared} {X : Nat → Prop} {Q : Value → Shared → Prop} {pos : Pos}
    (o : Eo sc env) (c : Cx B X s) (hk : sc.names.lookup f = some .globalImplicit) {mg : Str → Option Value} (hg : B.Ns mainGlobals mg) (hv : mg f = some v) (h : Q v s) (hd : (f == ("__debug__" : Str)) = false) :
    wpAny (model prog w) A (eval (.Name f pos) env) Q E s := by
  refine Calls.Name_function_global (by rw [o.iss]; exact o.kind) (by unfold Env.kindOf; rw [o.iss]; exact hk) (Calls.loadGlobal_global (mg := mg) ?_ hv h) hd
  rw [o.glob]; exact hg.keeps c.base
theorem name_builtin {f : Str} {v : Value} {env : Env} {A : Around} {E : Value → Shared → Prop} {s : Shared} {X : Nat → Prop} {Q : Value → Shared → Prop} {pos : Pos}
    (o : Eo sc env) (c : Cx B X s) (hk : sc.names.lookup f = some .globalImplicit) (hg : GlobBlt B f v) (h : Q v s) (hd : (f == ("__debug__" : Str)) = false) :
    wpAny (model prog w) A (eval (.Name f pos) env) Q E s := by
  obtain ⟨mg, mb, h1, h2, h3, h4⟩ := hg.at_
  refine Calls.Name_function_global (by rw [o.iss]; exact o.kind) (by unfold Env.kindOf; rw [o.iss]; exact hk) (Calls.loadGlobal_builtin (mg := mg) (mb := mb) ?_ h2 ?_ h4 h) hd
  · rw [o.glob]; exact h1.keeps c.base
  · rw [o.blt]; exact h3.keeps c.base

theorem pe_call {f : Str} {a : Nat} {np pos : Pos} {e : Expr} {es : List Expr} {ds : List D} {d : D} (hg : GlobFn B f a) (hk : sc.names.lookup f = some .globalImplicit) (ha : PEs prog w B n sc ρ (e :: es) ds) (hf : FA prog w B n a ds d)
    (he : ∀ env, starEach (e :: es) env = (false, eval e env) :: starEach es env := by intro _; with_unfolding_all rfl) (hd : (f == ("__debug__" : Str)) = false := by decide +kernel) : PE prog w B n sc ρ (.Call (.Name f np) (e :: es) [] pos) d := fun A env E s X Q r o c v k => by
  obtain ⟨mg, ob, fd, h1, h2, h3, h4⟩ := hg.at_
  refine wpAny_Call_NameR (name_global o c hk h1 h2 (Calls.callWith_function (o := ob) (fd := fd) ?_) hd)
  have hs : backTo pos (starEach (e :: es) env) = (false, eval e env) :: backTo pos (starEach es env) := by rw [he env]; rfl
  have := ha A env pos E s X (fun vs s' => (s'.heap.get? a = some ob ∧ ob.data = .func fd) ∧ wpAny (model prog w) A (call (.ref a) ([] ++ vs) []) Q E s') r o c v fun vs s1 k1 t1 =>
    ⟨⟨(k1.cx c).base _ _ h3, h4⟩, hf A E s1 X Q vs r (k1.cx c) t1 fun u s2 k2 t2 => k _ _ (k1.trans k2) t2⟩
  rw [hs] at this ⊢
  exact Calls.evalArgs_plain this

theorem pe_b1 {f : Str} {id : String} {np pos : Pos} {e : Expr} {a d : D} (hg : GlobBlt B f (.builtin id)) (hk : sc.names.lookup f = some .globalImplicit) (ha : PE prog w B n sc ρ e a) (hf : UO prog w B (fun v => call (.builtin id) [v]) a d)
    (he : ∀ env, starEach [e] env = [(false, eval e env)] := by intro _; with_unfolding_all rfl) (hd : (f == ("__debug__" : Str)) = false := by decide +kernel) : PE prog w B n sc ρ (.Call (.Name f np) [e] [] pos) d := fun A env E s X Q r o c v k => by
  refine wpAny_Call_NameR (name_builtin o c hk hg ?_ hd)
  have hs : backTo pos (starEach [e] env) = [(false, eval e env)] := by rw [he env]; rfl
  rw [hs]
  refine Calls.callWith_builtin rfl (Calls.evalArgs_plain (Calls.spliced_cons (ha A env E s X _ r o c v fun u s1 k1 t1 => Calls.spliced_nil ?_)))
  exact hf A E s1 X _ u (r.mono (Nat.zero_le _)) (k1.cx c) t1 fun x s2 k2 t2 => k _ _ (k1.trans k2) t2
theorem pe_t1 {f : Str} {T : String} {np pos : Pos} {e : Expr} {a d : D} (hg : GlobBlt B f (.type T)) (hk : sc.names.lookup f = some .globalImplicit) (ha : PE prog w B n sc ρ e a) (hf : UO prog w B (fun v => call (.type T) [v]) a d)
    (he : ∀ env, starEach [e] env = [(false, eval e env)] := by intro _; with_unfolding_all rfl) (hd : (f == ("__debug__" : Str)) = false := by decide +kernel) : PE prog w B n sc ρ (.Call (.Name f np) [e] [] pos) d := fun A env E s X Q r o c v k => by
  refine wpAny_Call_NameR (name_builtin o c hk hg ?_ hd)
  have hs : backTo pos (starEach [e] env) = [(false, eval e env)] := by rw [he env]; rfl
  rw [hs]
  refine PyProof.Rows.callWith_type rfl (Calls.evalArgs_plain (Calls.spliced_cons (ha A env E s X _ r o c v fun u s1 k1 t1 => Calls.spliced_nil ?_)))
  exact hf A E s1 X _ u (r.mono (Nat.zero_le _)) (k1.cx c) t1 fun x s2 k2 t2 => k _ _ (k1.trans k2) t2

theorem uo_len_list {l : List D} : UO prog w B (fun v => call (.builtin "len") [v]) (.list l) (.int l.length) := fun A E s X Q u _ c t k => by
  cases t using Tl.listE with
  | list p nx z ts =>
    rename_i vs
    have hl := ts.length
    have e : ((vs.toArray.size : Nat) : Int) = (l.length : Int) := by rw [List.size_toArray, hl]
    have := len_list (prog := prog) (w := w) (A := A) (E := E) (Q := Q) p.isList (by rw [List.size_toArray]; grind) (by rw [e]; exact k _ _ (Ks.tok s _) (.int _ _))
    exact this
theorem uo_len_str {x : Str} (h : x.length ≤ 100000000) : UO prog w B (fun v => call (.builtin "len") [v]) (.str x) (.int x.length) := fun A E s X Q u _ c t k => by
  cases t using Tl.strE with
  | str tk => exact SBL.len (by lia) (k _ _ (Ks.tok s _) (.int _ _))
theorem uo_chr {i : Int} (h : 0 ≤ i ∧ i ≤ 1114111) : UO prog w B (fun v => call (.builtin "chr") [v]) (.int i) (.str ⟨#[i.toNat]⟩) := fun A E s X Q u _ c t k => by
  cases t using Tl.intE with
  | int tk => exact P.chr_of_int (by rw [Bool.or_eq_false_iff]; exact ⟨decide_eq_false (by lia), decide_eq_false (by lia)⟩) (k _ _ (Ks.tok s _) (.str _ _))
theorem uo_ord {q : Nat} : UO prog w B (fun v => call (.builtin "ord") [v]) (.str ⟨#[q]⟩) (.int q) := fun A E s X Q u _ c t k => by
  cases t using Tl.strE with
  | str tk => exact P.ord_of_char (k _ _ (Ks.tok s _) (.int _ _))

theorem pi_list {e : Expr} {ds : List D} (h : PE prog w B n sc ρ e (.list ds)) : PI prog w B z n sc ρ e ds := fun A env E s X Q r o c v k =>
  h A env E s X _ r o c v fun u s1 k1 t1 => by
    have c1 := k1.cx c
    cases t1 using Tl.listE with
    | list p nx z ts =>
      rename_i a vs
      have hl := ts.length
      refine wpAny_pyIter_list p.isList ?_
      have hlt : a < s1.heap.objs.size := let ⟨_, e⟩ := p; Heap.lt_size e
      have hW := Walks.list (prog := prog) (w := w) r.hand s1.heap.objs.size a (Nat.ne_of_lt hlt) vs.toArray
      rw [show vs.toArray.size = ds.length by simp [hl]] at hW
      have kp : ∀ b o, s1.heap.get? b = some o → (s1.heap.push { cls := .type "list_iterator", data := .fields #[.ref a, .int 0 0] }).get? b = some o := fun b o e => Heap.get?_push_of_some _ e
      refine k _ _ _ _ _ _ (k1.trans (Ks.push s1 _ _)) hW ⟨⟨_, Heap.get?_push_size _ rfl, rfl, rfl⟩, p.isList.push _⟩ ⟨?_, fun _ => ⟨rfl, fun i h st => let ⟨⟨o, q1, q2, q3⟩, _⟩ := st; ⟨o, _, _, q1, q2, q3, by decide⟩⟩⟩ ?_ ?_ ?_
      · intro b hb
        rw [Heap.size_push]
        simp at hb
        have := c1.xlt _ c1.tb
        rcases hb with rfl | rfl
        · exact ⟨Nat.lt_succ_self _, Nat.ne_of_gt this, .inl (by simp)⟩
        · exact ⟨Nat.lt_succ_of_lt hlt, fun q => nx (q ▸ c1.tb), .inr nx⟩
      · intro b hb
        simp at hb; subst hb
        rw [Heap.size_push]
        exact ⟨k1.sz, Nat.lt_succ_self _⟩
      · refine c1.more (fun b q => .inl q) (fun b q => q.imp_right fun q => ?_) (fun b q => ?_) kp rfl
        · simp at q; exact Nat.le_of_eq q.symm
        · rw [Heap.size_push]
          rcases q with q | q
          · exact Nat.lt_succ_of_lt (c1.xlt _ q)
          · simp at q; subst q; exact Nat.lt_succ_self _
      · intro i u _ hu
        obtain ⟨d, e1, t⟩ := ts.get' (i := i) (v := u) (by simpa using hu)
        exact ⟨d, e1, t.move (fun b o _ e => kp b o e) fun b q => q.imp_right fun q => by simp at q; exact Nat.le_of_eq q.symm⟩

theorem pi_fresh {s1 : Shared} {ds : List D} {A : Around} {X : Nat → Prop} {s : Shared} (k1 : Ks X s s1) (c1 : Cx B X s1) (ob : Obj) (tk : Nat) (P : Nat → Value → Prop) (St : Nat → Heap → Prop) (Q : Value → Shared → Prop)
    (hz : z = true → ∀ i h, St i h → IsIt h s1.heap.objs.size) (W : Walks prog w A s1.heap.objs.size [s1.heap.objs.size] [s1.heap.objs.size] ds.length P St) (st : St 0 (s1.heap.push ob)) (hP : ∀ i v, i < ds.length → P i v → ∃ d, ds[i]? = some d ∧ ∀ h Y, Tl h Y v d)
    (k : ∀ (I : Nat) (fp wr : List Nat) (P : Nat → Value → Prop) (St : Nat → Heap → Prop) (s2 : Shared), Ks X s s2 → Walks prog w A I fp wr ds.length P St → St 0 s2.heap → ((∀ b ∈ fp, b < s2.heap.objs.size ∧ b ≠ tb ∧ (b ∈ wr ∨ ¬ X b)) ∧ (z = true → wr = [I] ∧ ∀ i h, St i h → IsIt h I)) → (∀ b ∈ wr, s.heap.objs.size ≤ b ∧ b < s2.heap.objs.size) →
      Cx B (fun b => X b ∨ b ∈ wr) s2 → (∀ i v, i < ds.length → P i v → ∃ d, ds[i]? = some d ∧ Tl s2.heap (fun b => X b ∨ b ∈ wr) v d) → Q (.ref I) s2) :
    Q (.ref s1.heap.objs.size) { s1 with heap := s1.heap.push ob, toks := tk } := by
  refine k _ _ _ _ _ _ (k1.trans (Ks.push s1 _ _)) W st ⟨?_, fun q => ⟨rfl, hz q⟩⟩ ?_ ?_ fun i v hi hv => let ⟨d, e, t⟩ := hP i v hi hv; ⟨d, e, t _ _⟩
  · intro b hb
    simp at hb; subst hb
    rw [Heap.size_push]
    exact ⟨Nat.lt_succ_self _, Nat.ne_of_gt (c1.xlt _ c1.tb), .inl (by simp)⟩
  · intro b hb
    simp at hb; subst hb
    rw [Heap.size_push]
    exact ⟨k1.sz, Nat.lt_succ_self _⟩
  · refine c1.more (fun b q => .inl q) (fun b q => q.imp_right fun q => ?_) (fun b q => ?_) (fun b o e => Heap.get?_push_of_some _ e) rfl
    · simp at q; exact Nat.le_of_eq q.symm
    · rw [Heap.size_push]
      rcases q with q | q
      · exact Nat.lt_succ_of_lt (c1.xlt _ q)
      · simp at q; subst q; exact Nat.lt_succ_self _

theorem pi_str {e : Expr} {x : Str} (h : PE prog w B n sc ρ e (.str x)) : PI prog w B false n sc ρ e (x.cps.toList.map fun c => .str ⟨#[c]⟩) := fun A env E s X Q r o c v k =>
  h A env E s X _ r o c v fun u s1 k1 t1 => by
    cases t1 using Tl.strE with
    | str tk =>
      refine wpAny_pyIter_str fun ob St hW hSt => ?_
      refine pi_fresh k1 (k1.cx c) ob s1.toks (SignAt x) St Q (fun q => by cases q) ?_ hSt ?_ k
      · have := hW A r.hand
        rw [List.length_map, Array.length_toList]; exact this
      · rintro i v _ ⟨q, u, e1, rfl⟩
        exact ⟨.str ⟨#[q]⟩, by simp [e1], fun _ _ => .str _ _⟩

theorem isIt_range {h : Heap} {I : Nat} {a b c : Int} (st : IsRangeIter h I a b c) : IsIt h I := ⟨_, _, "range_iterator", st, rfl, rfl, by decide⟩

theorem pi_range1 {f : Str} {np pos : Pos} {e : Expr} {N : Int} (hg : GlobBlt B f (.type "range")) (hk : sc.names.lookup f = some .globalImplicit) (h : PE prog w B n sc ρ e (.int N)) (h0 : 0 ≤ N) (hN : N ≤ 100000000)
    (he : ∀ env, starEach [e] env = [(false, eval e env)] := by intro _; with_unfolding_all rfl) (hd : (f == ("__debug__" : Str)) = false := by decide +kernel) :
    PI prog w B z n sc ρ (.Call (.Name f np) [e] [] pos) ((List.range N.toNat).map fun (i : Nat) => .int (i : Int)) := fun A env E s X Q r o c v k => by
  refine wpAny_Call_NameR (name_builtin o c hk hg ?_ hd)
  have hs : backTo pos (starEach [e] env) = [(false, eval e env)] := by rw [he env]; rfl
  rw [hs]
  refine PyProof.Rows.callWith_type rfl (Calls.evalArgs_plain (Calls.spliced_cons (h A env E s X _ r o c v fun u s1 k1 t1 => Calls.spliced_nil ?_)))
  cases t1 using Tl.intE with
  | int tk =>
    refine call_range_1 ?_
    refine wpAny_pyIter_range (IsRange.new ..) (small_one (by decide) (by decide) (by lia) (by lia)) ?_
    have k2 : Ks X s { s1 with heap := s1.heap.push { cls := .type "range", data := .fields #[.int 0 s1.toks, .int N tk, .int 1 (s1.toks + 1)] }, toks := s1.toks + 1 + 1 } := k1.trans (Ks.push s1 _ _)
    refine pi_fresh (s1 := { s1 with heap := s1.heap.push { cls := .type "range", data := .fields #[.int 0 s1.toks, .int N tk, .int 1 (s1.toks + 1)] }, toks := s1.toks + 1 + 1 }) k2 (k2.cx c) _ (s1.toks + 1 + 1) _ _ Q (fun _ i h st => isIt_range st)
      (by rw [List.length_map, List.length_range]; exact Walks.range r.hand _ 0 1 N.toNat) ?_ ?_ k
    · have hsz : Builtin.Range.rangeSize 0 N 1 = (N.toNat : Int) := by rw [rangeSize_one]; split <;> grind
      have e1 : (0 + ((0 : Nat) : Int) * 1) = 0 := by simp
      have e2 : ((N.toNat : Int) - ((0 : Nat) : Int)) = Builtin.Range.rangeSize 0 N 1 := by rw [hsz]; simp
      show IsRangeIter _ _ (0 + ((0 : Nat) : Int) * 1) ((N.toNat : Int) - ((0 : Nat) : Int)) 1
      rw [e1, e2]
      exact Heap.get?_push_size _ rfl
    · rintro i v hi ⟨t, rfl⟩
      refine ⟨.int i, ?_, fun _ _ => ?_⟩
      · rw [List.length_map, List.length_range] at hi
        simp [hi]
      · have e : (0 + (i : Int) * 1) = (i : Int) := by lia
        rw [e]; exact .int _ _

theorem small_any {a b c : Int} (h1 : -1000000 ≤ a ∧ a ≤ 1000000) (h2 : -1000000 ≤ b ∧ b ≤ 1000000) (h3 : c = 1 ∨ c = -1) : Builtin.Range.small a b c = true := by
  rcases h3 with rfl | rfl
  · exact small_one (by lia) (by omega) (by lia) (by omega)
  · unfold Builtin.Range.small Builtin.Range.rangeFitsLong Builtin.Range.rangeSize
    simp
    omega

theorem pi_range2 {f : Str} {np pos : Pos} {e1 e2 : Expr} {lo hi : Int} (hg : GlobBlt B f (.type "range")) (hk : sc.names.lookup f = some .globalImplicit) (h1 : PE prog w B n sc ρ e1 (.int lo)) (h2 : PE prog w B n sc ρ e2 (.int hi))
    (hl : -1000000 ≤ lo ∧ lo ≤ 1000000) (hh : -1000000 ≤ hi ∧ hi ≤ 1000000)
    (he : ∀ env, starEach [e1, e2] env = [(false, eval e1 env), (false, eval e2 env)] := by intro _; with_unfolding_all rfl) (hd : (f == ("__debug__" : Str)) = false := by decide +kernel) :
    PI prog w B z n sc ρ (.Call (.Name f np) [e1, e2] [] pos) ((List.range (hi - lo).toNat).map fun (i : Nat) => .int (lo + i)) := fun A env E s X Q r o c v k => by
  refine wpAny_Call_NameR (name_builtin o c hk hg ?_ hd)
  have hs : backTo pos (starEach [e1, e2] env) = [(false, eval e1 env), (false, eval e2 env)] := by rw [he env]; rfl
  rw [hs]
  refine PyProof.Rows.callWith_type rfl (Calls.evalArgs_plain (Calls.spliced_cons (h1 A env E s X _ r o c v fun u s1 k1 t1 => Calls.spliced_cons (h2 A env E s1 X _ r o (k1.cx c) (k1.vs c v) fun u2 s2 k2 t2 => Calls.spliced_nil ?_))))
  have kk := k1.trans k2
  cases t1 using Tl.intE with
  | int tk =>
  cases t2 using Tl.intE with
  | int tk2 =>
    refine call_range_2 ?_
    refine wpAny_pyIter_range (IsRange.new ..) (small_any hl hh (.inl rfl)) ?_
    have k3 : Ks X s { s2 with heap := s2.heap.push { cls := .type "range", data := .fields #[.int lo tk, .int hi tk2, .int 1 s2.toks] }, toks := s2.toks + 1 } := kk.trans (Ks.push s2 _ _)
    refine pi_fresh (s1 := { s2 with heap := s2.heap.push { cls := .type "range", data := .fields #[.int lo tk, .int hi tk2, .int 1 s2.toks] }, toks := s2.toks + 1 }) k3 (k3.cx c) _ (s2.toks + 1) _ _ Q (fun _ i h st => isIt_range st)
      (by rw [List.length_map, List.length_range]; exact Walks.range r.hand _ lo 1 (hi - lo).toNat) ?_ ?_ k
    · have hsz : Builtin.Range.rangeSize lo hi 1 = ((hi - lo).toNat : Int) := by rw [rangeSize_one]; split <;> grind
      have e1 : (lo + ((0 : Nat) : Int) * 1) = lo := by simp
      have e2 : (((hi - lo).toNat : Int) - ((0 : Nat) : Int)) = Builtin.Range.rangeSize lo hi 1 := by rw [hsz]; simp
      show IsRangeIter _ _ (lo + ((0 : Nat) : Int) * 1) (((hi - lo).toNat : Int) - ((0 : Nat) : Int)) 1
      rw [e1, e2]
      exact Heap.get?_push_size _ rfl
    · rintro i v hi' ⟨t, rfl⟩
      refine ⟨.int (lo + i), ?_, fun _ _ => ?_⟩
      · rw [List.length_map, List.length_range] at hi'
        simp [hi']
      · have e : (lo + (i : Int) * 1) = lo + (i : Int) := by lia
        rw [e]; exact .int _ _

end
end Mine
end

section
open PySem PySem.W PySem.Calls PyProof.Rows
set_option Elab.async false
set_option linter.unusedVariables false
set_option linter.unusedSectionVars false
set_option maxRecDepth 10000
namespace Mine
variable [Star]

noncomputable def relS (scope sc : Scope) : Scope :=
  { scope with names := scope.names.map fun (n, k) => if (k == .free && sc.kind == .function && sc.names.lookup n == some .cell) then (n, .cell) else (n, k) }
theorem relS_eq (scope : Scope) (env : Env) : relabel scope env = relS scope env.scope := rfl

noncomputable def clOf (env : Env) : List (Str × NameKind) → List (Str × Nat) → List (Str × Nat)
  | [], acc => acc
  | (x, k) :: r, acc => if k == .free then clOf env r ((x, (env.cells.lookup x).getD 0) :: acc) else clOf env r acc

theorem closure_go (env : Env) (f : Str × NameKind → List (Str × Nat) → Sem (ForInStep (List (Str × Nat))))
    (hf : ∀ x k acc, f (x, k) acc = if k == .free then (do let c ← cellOf env x; pure (.yield ((x, c) :: acc))) else pure (.yield acc)) :
    ∀ (names : List (Str × NameKind)) (acc : List (Str × Nat)), (∀ x, (x, NameKind.free) ∈ names → (env.cells.lookup x).isSome = true) → (forIn names acc f : Sem (List (Str × Nat))) = pure (clOf env names acc)
  | [], acc, _ => by rw [List.forIn_nil]; rfl
  | (x, k) :: r, acc, h => by
    rw [List.forIn_cons, hf]
    have hr := closure_go env f hf r
    unfold clOf
    by_cases hk : (k == NameKind.free) = true
    · rw [if_pos hk, if_pos hk]
      have hk' : k = .free := by simpa using hk
      subst hk'
      obtain ⟨c, hc⟩ := Option.isSome_iff_exists.mp (h x (.head _))
      have e : cellOf env x = pure c := by unfold cellOf; rw [hc]
      rw [e, pure_bind, pure_bind, hc]
      exact hr _ fun y hy => h y (.tail _ hy)
    · rw [if_neg hk, if_neg hk]
      rw [pure_bind]
      exact hr _ fun y hy => h y (.tail _ hy)

theorem closure_eq {scope : Scope} {env : Env} (h : ∀ x, (x, NameKind.free) ∈ scope.names → (env.cells.lookup x).isSome = true) : closureFor scope env = pure (clOf env scope.names []) := by
  unfold closureFor
  have := closure_go env (fun x r => if (x.2 == NameKind.free) = true then (do let c ← cellOf env x.1; pure (ForInStep.yield ((x.1, c) :: r))) else pure (ForInStep.yield r)) (fun _ _ _ => rfl) scope.names [] h
  first
    | exact this
    | (simp only [] at *; rw [this]; rfl)
    | (refine Eq.trans ?_ (congrArg (· >>= fun cs => pure cs) this |>.trans (pure_bind _ _)); rfl)

theorem clOf_lookup {env : Env} {x : Str} {c : Nat} (hc : env.cells.lookup x = some c) : ∀ (names : List (Str × NameKind)) (acc : List (Str × Nat)),
    ((x, NameKind.free) ∈ names ∨ acc.lookup x = some c) → (∀ c', acc.lookup x = some c' → c' = c) → (clOf env names acc).lookup x = some c
  | [], acc, h, _ => by
    rcases h with h | h
    · cases h
    · exact h
  | (y, k) :: r, acc, h, ha => by
    unfold clOf
    by_cases hk : (k == NameKind.free) = true
    · rw [if_pos hk]
      have hk' : k = .free := by simpa using hk
      subst hk'
      by_cases hy : (x == y) = true
      · have hy' : x = y := eq_of_beq hy
        subst hy'
        refine clOf_lookup hc r _ (.inr ?_) fun c' e => ?_
        · rw [List.lookup_cons, hy, hc]; rfl
        · rw [List.lookup_cons, hy, hc] at e; exact (Option.some.inj e).symm
      · have hy2 : (x == y) = false := by simpa using hy
        refine clOf_lookup hc r _ ?_ fun c' e => ?_
        · rcases h with h | h
          · cases h with
            | head => simp at hy
            | tail _ h => exact .inl h
          · exact .inr (by rw [List.lookup_cons, hy2]; exact h)
        · rw [List.lookup_cons, hy2] at e; exact ha c' e
    · rw [if_neg hk]
      refine clOf_lookup hc r _ ?_ ha
      rcases h with h | h
      · cases h with
        | head => simp at hk
        | tail _ h => exact .inl h
      · exact .inr h

noncomputable def compOk (scope sc : Scope) (x : Str) : Bool :=
  scope.kind == .function && scope.names.all (fun y => y.2 != .cell) && scope.names.all (fun y => y.2 != .local || scope.names.lookup y.1 == some .local) && scope.names.lookup x == some .local &&
  scope.names.all (fun y => y.2 != .free || (sc.names.lookup y.1 == some .cell || sc.names.lookup y.1 == some .free)) && scope.names.all (fun y => y.2 != .free || scope.names.lookup y.1 == some .free) && (scope.names.lookup ("QUESTION_MARK" : Str) != some .local)

noncomputable def rhoC (scope : Scope) (ρ : Rho) (x : Str) (d : D) : Rho := { nm := fun y => if y = x then some d else if scope.names.lookup y = some .free then ρ.nm y else none }

theorem lookup_map_rel {sc : Scope} {y : Str} : ∀ {names : List (Str × NameKind)}, (names.map fun (n, k) => if (k == NameKind.free && sc.kind == .function && sc.names.lookup n == some .cell) then (n, NameKind.cell) else (n, k)).lookup y =
    (names.lookup y).map fun k => if (k == NameKind.free && sc.kind == .function && sc.names.lookup y == some .cell) then NameKind.cell else k
  | [] => rfl
  | (n, k) :: r => by
    have ih := @lookup_map_rel sc y r
    rw [List.map_cons]
    show List.lookup y ((if (k == NameKind.free && sc.kind == .function && sc.names.lookup n == some .cell) = true then (n, NameKind.cell) else (n, k)) :: _) = _
    by_cases hy : (y == n) = true
    · have hy' : y = n := eq_of_beq hy
      subst hy'
      by_cases hc : (k == NameKind.free && sc.kind == .function && sc.names.lookup y == some .cell) = true
      · simp only [if_pos hc, List.lookup_cons, beq_self_eq_true, Option.map_some]
      · simp only [if_neg hc, List.lookup_cons, beq_self_eq_true, Option.map_some]
    · have hy2 : (y == n) = false := by simpa using hy
      by_cases hc : (k == NameKind.free && sc.kind == .function && sc.names.lookup n == some .cell) = true
      · rw [if_pos hc]; simp only [List.lookup_cons, hy2]; exact ih
      · rw [if_neg hc]; simp only [List.lookup_cons, hy2]; exact ih
theorem relS_lookup (scope sc : Scope) (y : Str) : (relS scope sc).names.lookup y = (scope.names.lookup y).map fun k => if (k == NameKind.free && sc.kind == .function && sc.names.lookup y == some .cell) then NameKind.cell else k := lookup_map_rel

theorem mem_of_lookup_free {y : Str} {names : List (Str × NameKind)} (h : names.lookup y = some .free) : (y, NameKind.free) ∈ names := mem_of_lookup h

section
variable {scope sc : Scope} {x : Str}
theorem compOk.kind (h : compOk scope sc x = true) : scope.kind = .function := by simp [compOk] at h; exact h.1.1.1.1.1.1
theorem compOk.cell (h : compOk scope sc x = true) : ∀ y ∈ scope.names, y.2 ≠ .cell := by
  simp only [compOk, Bool.and_eq_true] at h
  intro y hy
  have := List.all_eq_true.mp h.1.1.1.1.1.2 y hy
  simpa using this
theorem compOk.loc (h : compOk scope sc x = true) : ∀ y ∈ scope.names, y.2 = .local → scope.names.lookup y.1 = some .local := by
  simp only [compOk, Bool.and_eq_true] at h
  intro y hy e
  have := List.all_eq_true.mp h.1.1.1.1.2 y hy
  rw [e] at this
  simpa using this
theorem compOk.name (h : compOk scope sc x = true) : scope.names.lookup x = some .local := by
  simp only [compOk, Bool.and_eq_true] at h
  simpa using h.1.1.1.2
theorem compOk.free (h : compOk scope sc x = true) : ∀ y, (y, NameKind.free) ∈ scope.names → sc.names.lookup y = some .cell ∨ sc.names.lookup y = some .free := by
  simp only [compOk, Bool.and_eq_true] at h
  intro y hy
  have := List.all_eq_true.mp h.1.1.2 _ hy
  simpa using this
theorem compOk.qm (h : compOk scope sc x = true) : scope.names.lookup ("QUESTION_MARK" : Str) ≠ some .local := by
  simp only [compOk, Bool.and_eq_true] at h
  simpa using h.2
end

theorem comp_qm {scope sc : Scope} {x : Str} (h : compOk scope sc x = true) (hq : (relS scope sc).names.lookup ("QUESTION_MARK" : Str) = some .local) : False := by
  rw [relS_lookup] at hq
  have hqm := compOk.qm h
  cases e : scope.names.lookup ("QUESTION_MARK" : Str) with
  | none => rw [e] at hq; cases hq
  | some k =>
    rw [e] at hq hqm
    rw [Option.map_some] at hq
    have hq' := Option.some.inj hq
    split at hq'
    · cases hq'
    · exact hqm (by rw [hq'])

theorem comp_eo {scope sc : Scope} {x : Str} {env : Env} {C : Nat} (h : compOk scope sc x = true) (o : Eo sc env) : Eo (relS scope sc) (compEnvC scope (clOf env scope.names []) C env) := by
  refine ⟨by show relabel scope env = _; rw [relS_eq, o.iss], (by show scope.kind = _; exact compOk.kind h), o.glob, o.blt, fun y hy => ?_, fun hq => (comp_qm h hq).elim⟩
  rw [relS_lookup] at hy
  have hf : scope.names.lookup y = some .free := by
    cases e : scope.names.lookup y with
    | none => rw [e] at hy; simp at hy
    | some k =>
      rw [e] at hy
      cases k with
      | free => rfl
      | cell => exact absurd rfl (compOk.cell h (y, .cell) (mem_of_lookup e))
      | «local» => simp at hy
      | globalImplicit => simp at hy
      | globalExplicit => simp at hy
  have hm := mem_of_lookup_free hf
  obtain ⟨c, hc, hn⟩ := o.cells y (compOk.free h y hm)
  exact ⟨c, clOf_lookup hc _ _ (.inl hm) (fun c' e => by cases e), hn⟩

theorem comp_vs {scope sc : Scope} {x : Str} {env : Env} {C : Nat} {h h' : Heap} {X X' : Nat → Prop} {ρ : Rho} {d : D} {u : Value} {m : Str → Option Value} (ok : compOk scope sc x = true) (o : Eo sc env) (v : Vs env h X ρ)
    (k : ∀ b o, b < h.objs.size → (¬ X b ∨ ∃ w, h.IsCell b w) → b ≠ tb → h.get? b = some o → h'.get? b = some o) (hx : ∀ b, X' b → X b ∨ h.objs.size ≤ b) (htb : X tb) (hC : C ≠ tb) (hm : h'.Ns C m) (hmx : m x = some u) (t : Tl h' X' u d)
    (hxd : (x == ("__debug__" : Str)) = false) (hxc : (x == ("__classdict__" : Str)) = false) :
    Vs (compEnvC scope (clOf env scope.names []) C env) h' X' (rhoC scope ρ x d) := by
  refine ⟨fun y e hy => ?_, fun p hp => by cases hp⟩
  have hkind : ∀ y, (compEnvC scope (clOf env scope.names []) C env).kindOf y = (relS scope sc).names.lookup y := fun y => by
    show (relabel scope env).names.lookup y = _
    rw [relS_eq, o.iss]
  unfold rhoC at hy
  dsimp only at hy
  by_cases hyx : y = x
  · rw [if_pos hyx] at hy
    cases hy
    subst hyx
    refine ⟨.inl ⟨?_, hC, m, u, hm, hmx, t⟩, hxd, hxc⟩
    rw [hkind, relS_lookup, compOk.name ok]; rfl
  · rw [if_neg hyx] at hy
    by_cases hf : scope.names.lookup y = some .free
    · rw [if_pos hf] at hy
      obtain ⟨a, b1, b2⟩ := v.nm y e hy
      refine ⟨.inr ?_, b1, b2⟩
      have hmem := mem_of_lookup_free hf
      have hsc := compOk.free ok y hmem
      rcases a with ⟨a1, _⟩ | ⟨c, w, a1, a2, a3, a4, a5⟩
      · have a1' : sc.names.lookup y = some .local := by rw [← o.iss]; exact a1
        rw [a1'] at hsc
        simp at hsc
      · refine ⟨c, w, ?_, clOf_lookup a2 _ _ (.inl hmem) (fun c' e => by cases e), a3, ?_, a5.move (fun b ob nb eb => k b ob (Heap.lt_size eb) (.inl nb) (fun z => nb (z ▸ htb)) eb) hx⟩
        · rw [hkind, relS_lookup, hf, Option.map_some]
          split
          · exact .inl rfl
          · exact .inr rfl
        · obtain ⟨ob, e1, e2⟩ := a4
          exact ⟨ob, k c ob (Heap.lt_size e1) (.inr ⟨_, ob, e1, e2⟩) a3 e1, e2⟩
    · rw [if_neg hf] at hy; cases hy

end Mine
end

section
open PySem PySem.W PySem.Calls PyProof.Rows
set_option Elab.async false
set_option linter.unusedVariables false
set_option linter.unusedSectionVars false
set_option maxRecDepth 10000
namespace Mine
variable [Star]

theorem Cx.turn' {B : Heap} {X : Nat → Prop} {s s' : Shared} (c : Cx B X s) (k : ∀ b o, ¬ X b ∨ b = Mine.tb → s.heap.get? b = some o → s'.heap.get? b = some o) (z : ∀ b, X b → b < s'.heap.objs.size) (g : s'.gens = s.gens) : Cx B X s' :=
  ⟨fun b o e => k b o (.inl fun q => by rw [c.xb b q] at e; cases e) (c.base b o e), z, c.xb, c.tb, c.ti.move k fun _ q => .inl q, g ▸ c.gn⟩

theorem take_succ_eq {α : Type} {ds : List α} {i : Nat} {d : α} (h : ds[i]? = some d) : ds.take (i + 1) = ds.take i ++ [d] := by
  rw [List.take_add_one, h]; rfl

section
variable {prog : Program} {w : World} {B : Heap} {z : Bool} {n : Nat} {sc : Scope} {ρ : Rho}

theorem comp_core {elt iter : Expr} {x : Str} {px : Pos} {ifs : List Expr} {scope : Scope} {pos : Pos} {ds : List D} (p : D → Bool) (F : D → D) (ok : compOk scope sc x = true)
    (hxd : (x == ("__debug__" : Str)) = false) (hxc : (x == ("__classdict__" : Str)) = false)
    (hsrc : PI prog w B z n sc ρ iter ds) (htest : ∀ d ∈ ds, PTs prog w B n (relS scope sc) (rhoC scope ρ x d) ifs (p d)) (helt : ∀ d ∈ ds, p d = true → PE prog w B n (relS scope sc) (rhoC scope ρ x d) elt (F d)) (hz : ds.length ≤ 100000)
    {A : Around} {env : Env} {E : Value → Shared → Prop} {s : Shared} {X : Nat → Prop} {RR : Value → Nat → Result → Shared → Prop} (r : Room n A) (o : Eo sc env) (c : Cx B X s) (v : Vs env s.heap X ρ)
    (hRR : ∀ D C s' m vs, Ks X s s' → TI s'.heap (fun b => X b ∨ b = D ∨ b = C) → s.heap.objs.size ≤ D → s.heap.objs.size ≤ C → D ≠ C → s'.heap.Ns C m → s'.heap.PlainList D vs.toArray → Tls s'.heap (fun b => X b ∨ b = D ∨ b = C) vs ((ds.filter p).map F) → RR (.ref D) C (.ok .next) s') :
    wpAny (model prog w) A (eval iter env) (fun xv s1 => wpAny (model prog w) A (pyIter xv) (fun it s2 => wpAny (model prog w) A (newList []) (fun acc s3 =>
      wpAny (model prog w) A (newFunctionEnv scope env.globals (clOf env scope.names []) [] env.qual none .none (some env)) (fun cenv s4 =>
        codeAny (model prog w) A (.compStart (.ListComp elt [⟨.Name x px, iter, ifs, 0⟩] scope pos) 0 it acc { cenv with scope := relabel scope env }) (RR acc cenv.locals) s4) E s3) E s2) E s1) E s := by
  refine hsrc A env E s X _ r o c v fun I fp wr P St s2 k2 W st ⟨hfp, _⟩ hwr c2 hP => ?_
  refine wpAny_newObj_type (wpAny_newFunctionEnv (compOk.cell ok) (by intro y hy; simp at hy) (fun h₁ hns hsb => ?_) (compOk.kind ok))
  dsimp only at hns hsb ⊢
  generalize hH2 : s2.heap.push { cls := .type "list", dict := none, data := .seq ([] : List Value).toArray } = H2 at hns hsb ⊢
  generalize hD : s2.heap.objs.size = D at *
  have hC : H2.objs.size = D + 1 := by rw [← hH2, Heap.size_push, hD]
  generalize hCe : H2.objs.size = C at *
  have hDC : D ≠ C := by lia
  have old : ∀ b ob, s2.heap.get? b = some ob → h₁.get? b = some ob := fun b ob e => by
    have hb := ltz e
    rw [hD] at hb
    refine hsb.extBut b ob (nen (by lia)) (Heap.get?_push_of_some _ ?_)
    rw [← hH2]; exact Heap.get?_push_of_some _ e
  have hDl : h₁.PlainList D #[] := by
    refine ⟨0, hsb.extBut D _ hDC (Heap.get?_push_of_some _ ?_)⟩
    rw [← hH2, ← hD]; exact Heap.get?_push_size _ rfl
  have htbD : tb < D := by have := c2.xlt _ c2.tb; lia
  have hwD : ∀ b ∈ wr, b < D := fun b hb => by have := (hwr b hb).2; assumption
  have hsD : s.heap.objs.size ≤ D := by rw [← hD]; exact k2.sz
  have hXD : ∀ b, X b → b < D := fun b hb => Nat.lt_of_lt_of_le (c.xlt b hb) hsD
  let X₂ : Nat → Prop := fun b => (X b ∨ b ∈ wr) ∨ b = D ∨ b = C
  have hX₂C : ∀ b, X₂ b → b ≤ C := fun b hb => by
    rcases hb with (hb | hb) | hb | hb
    · have := hXD b hb; lia
    · have := hwD b hb; lia
    · lia
    · lia
  have cX : ∀ b, X₂ b → (X b ∨ b ∈ wr) ∨ s2.heap.objs.size ≤ b := fun b hb => hb.imp_right fun q => by rw [hD]; rcases q with q | q <;> lia
  have c4 : Cx B X₂ { s2 with heap := h₁, toks := s2.toks + ([] : List (Str × Value)).length } :=
    c2.more (fun b q => .inl q) cX (fun b q => Nat.lt_of_le_of_lt (hX₂C b q) (nsz hns)) old rfl
  -- the invariant
  let Inv : Nat → Shared → Prop := fun i s' => St i s'.heap ∧ i ≤ ds.length ∧ Cx B X₂ s' ∧ s'.os = s.os ∧ s'.drawn = s.drawn ∧
    (∀ b ob, b ≠ tb → b ∉ wr → b ≠ D → b ≠ C → s2.heap.get? b = some ob → s'.heap.get? b = some ob) ∧
    (∃ ys : List Value, s'.heap.PlainList D ys.toArray ∧ Tls s'.heap X₂ ys (((ds.take i).filter p).map F)) ∧ ∃ m, s'.heap.Ns C m
  have st1 : St 0 h₁ := W.frame _ _ _ st fun b _ ob e => old b ob e
  have inv0 : Inv 0 { s2 with heap := h₁, toks := s2.toks + ([] : List (Str × Value)).length } :=
    ⟨st1, Nat.zero_le _, c4, k2.os, k2.dr, fun b ob _ _ _ _ e => old b ob e, ⟨[], hDl, by simpa using Tls.nil⟩, _, hns⟩
  have key : ∀ s0 : Shared, Inv 0 s0 → codeAny (model prog w) A (.compLoop (.ListComp elt [⟨.Name x px, iter, ifs, 0⟩] scope pos) 0 (.ref I) (.ref D) (compEnvC scope (clOf env scope.names []) C env)) (RR (.ref D) C) s0 := fun s0 h0 => by
    refine codeAny_compLoop_tests (fun k s' => ∃ i, Inv i s' ∧ k = ds.length + 1 - i) ?_ (ds.length + 1) ⟨0, h0, rfl⟩
    rintro k s' ⟨i, ⟨hst, hi, hc, hos, hdr, hkp, ⟨ys, hys, hts⟩, m, hm⟩, rfl⟩
    by_cases hlt : i < ds.length
    · refine W.item i _ _ _ hlt hst fun u h1 tk1 hPu hst1 hk1 => ?_
      obtain ⟨d, hd, htu⟩ := hP i u hlt hPu
      have hdm : d ∈ ds := List.mem_of_getElem? hd
      have htb1 : tb ∉ wr := fun q => by have := (hwr _ q).1; have := c.xlt _ c.tb; lia
      have hCw : C ∉ wr := fun q => by have := hwD _ q; lia
      have hDw : D ∉ wr := fun q => by have := hwD _ q; lia
      have hm1 : h1.Ns C m := hm.at' fun ob e => hk1 C ob hCw e
      refine wpAny_assign_Name (wpAny_storeName_local (env := compEnvC scope (clOf env scope.names []) C env) ?_ hm1 (fun h2 hn2 hs2 => ?_) ?_)
      · show (relabel scope env).names.lookup x = _
        rw [relS_eq, o.iss, relS_lookup, compOk.name ok]; rfl
      · -- the state of the turn
        have up : ∀ b ob, b ≠ C → b ∉ wr → s'.heap.get? b = some ob → h2.get? b = some ob := fun b ob hb hw e => hs2.extBut b ob hb (hk1 b ob hw e)
        have cT : Cx B X₂ { s' with heap := h2, toks := tk1 + 1 } := hc.turn' (fun b ob hb e => by
          rcases hb with hb | hb
          · exact up b ob (fun z => hb (.inr (.inr z))) (fun z => hb (.inl (.inr z))) e
          · exact up b ob (by lia) (hb ▸ htb1) e) (fun b q => Nat.lt_of_le_of_lt (hX₂C b q) (nsz hn2)) rfl
        have hall : ∀ b ob, b < s.heap.objs.size → b ≠ tb → s.heap.get? b = some ob → h2.get? b = some ob := fun b ob hb ht e => by
          have e2 := k2.kp b ob ht e
          have hbw : b ∉ wr := fun q => by have := (hwr _ q).1; lia
          exact up b ob (by lia) hbw (hkp b ob ht hbw (by lia) (by lia) e2)
        have ht2 : Tl h2 X₂ u d := by
          refine htu.move (fun b ob nb e => ?_) fun b q => by rw [hD]; exact q.imp_right fun q => by rcases q with q | q <;> lia
          have hb := ltz e
          rw [hD] at hb
          exact up b ob (by lia) (fun z => nb (.inr z)) (hkp b ob (fun z => nb (.inl (z ▸ c.tb))) (fun z => nb (.inr z)) (by lia) (by lia) e)
        have vT : Vs (compEnvC scope (clOf env scope.names []) C env) h2 X₂ (rhoC scope ρ x d) :=
          comp_vs ok o v (fun b ob hb _ ht e => hall b ob hb ht e) (fun b q => by
            rcases q with (q | q) | q
            · exact .inl q
            · exact .inr (hwr b q).1
            · right; rcases q with q | q <;> lia) c.tb (by lia) hn2 (by simp) ht2 hxd hxc
        have oT := comp_eo (C := C) ok o
        refine htest d hdm A _ _ _ X₂ _ r oT cT vT fun s3 k3 => ?_
        have c3 := k3.cx cT
        have nC : C ≠ tb := by lia
        have nD : D ≠ tb := by lia
        have fin : ∀ s5 : Shared, s5.os = s3.os → s5.drawn = s3.drawn → Cx B X₂ s5 → (∀ b ob, b ≠ tb → b ≠ D → s3.heap.get? b = some ob → s5.heap.get? b = some ob) →
            (∃ ys' : List Value, s5.heap.PlainList D ys'.toArray ∧ Tls s5.heap X₂ ys' (((ds.take (i + 1)).filter p).map F)) → ∃ m', m' < ds.length + 1 - i ∧ ∃ j, Inv j s5 ∧ m' = ds.length + 1 - j := fun s5 e1 e2 e3 e4 e5 => by
          have hkp5 : ∀ b ob, b ≠ tb → b ≠ D → b ≠ C → b ∉ wr → s'.heap.get? b = some ob → s5.heap.get? b = some ob := fun b ob b1 b2 b3 b4 e => e4 b ob b1 b2 (k3.kp b ob b1 (up b ob b3 b4 e))
          refine ⟨ds.length + 1 - (i + 1), by grind, i + 1, ⟨?_, hlt, e3, e1.trans (k3.os.trans hos), e2.trans (k3.dr.trans hdr), fun b ob b1 b2 b3 b4 e => hkp5 b ob b1 b3 b4 b2 (hkp b ob b1 b2 b3 b4 e), e5, ⟨_, hn2.at' (h' := s5.heap) fun ob e => e4 C ob nC (Ne.symm hDC) (k3.kp C ob nC e)⟩⟩, rfl⟩
          · refine W.frame _ _ _ hst1 fun b hb ob e => ?_
            have hb' := hfp b hb
            exact e4 b ob hb'.2.1 (by lia) (k3.kp b ob hb'.2.1 (hs2.extBut b ob (nen (a := b) (b := C) (by lia)) e))
        have hys3 : s3.heap.PlainList D ys.toArray := hys.at fun ob e => k3.kp D ob nD (up D ob hDC hDw e)
        have hts3 : Tls s3.heap X₂ ys (((ds.take i).filter p).map F) := k3.tls cT (hts.move (fun b ob nb e => up b ob (fun z => nb (.inr (.inr z))) (fun z => nb (.inl (.inr z))) e) fun b q => .inl q)
        cases hpd : p d with
        | false =>
          simp only [Bool.false_eq_true, if_false]
          refine fin s3 rfl rfl c3 (fun b ob _ _ e => e) ⟨ys, hys3, ?_⟩
          rw [take_succ_eq hd, List.filter_append]
          simpa [hpd] using hts3
        | true =>
          simp only [if_true]
          refine helt d hdm hpd A _ _ s3 X₂ _ r oT c3 (k3.vs cT vT) fun y s4 k4 ty => ?_
          have hys4 : s4.heap.PlainList D ys.toArray := hys3.at fun ob e => k4.kp D ob nD e
          have hlen : ys.length ≤ 100000 := by
            have h1 := hts.length
            rw [List.length_map] at h1
            have h2 := List.length_filter_le p (ds.take i)
            rw [List.length_take] at h2
            lia
          refine wpAny_list_append_plain hys4 (fun h5 hl5 hs5 => ?_) (by rw [List.size_toArray, sizeLine_eq]; lia)
          have c5 : Cx B X₂ { s4 with heap := h5 } := (k4.cx c3).turn' (fun b ob hb e => hs5.extBut b ob (by
            rcases hb with hb | hb
            · exact fun z => hb (.inr (.inl z))
            · exact nen (by lia)) e) (fun b q => Nat.lt_of_lt_of_le ((k4.cx c3).xlt b q) (Nat.le_of_eq hs5.1.symm)) rfl
          refine fin { s4 with heap := h5 } k4.os k4.dr c5 (fun b ob b1 b2 e => hs5.extBut b ob b2 (k4.kp b ob b1 e)) ⟨ys ++ [y], by simpa using hl5, ?_⟩
          rw [take_succ_eq hd, List.filter_append, List.map_append]
          have mv : ∀ b ob, ¬ X₂ b → s4.heap.get? b = some ob → h5.get? b = some ob := fun b ob nb e => hs5.extBut b ob (fun z => nb (.inr (.inl z))) e
          have t1 := (k4.tls c3 hts3).move mv fun b q => .inl q
          have t2 := ty.move mv fun b q => .inl q
          simpa [hpd] using t1.append (.cons t2 .nil)
      · have : (compEnvC scope (clOf env scope.names []) C env).scope.kind = .function := by show scope.kind = _; exact compOk.kind ok
        rw [this]; rfl
    · have hin : i = ds.length := by lia
      subst hin
      refine W.done _ _ _ hst fun h1 tk1 hk1 => ?_
      have htb1 : tb ∉ wr := fun q => by have := (hwr _ q).1; have := c.xlt _ c.tb; lia
      have hCw : C ∉ wr := fun q => by have := hwD _ q; lia
      have hDw : D ∉ wr := fun q => by have := hwD _ q; lia
      have hm1 : h1.Ns C m := hm.at' fun ob e => hk1 C ob hCw e
      have cT : Cx B X₂ { s' with heap := h1, toks := tk1 } := hc.turn' (fun b ob hb e => by
          rcases hb with hb | hb
          · exact hk1 b ob (fun z => hb (.inl (.inr z))) e
          · exact hk1 b ob (hb ▸ htb1) e) (fun b q => Nat.lt_of_le_of_lt (hX₂C b q) (nsz hm1)) rfl
      refine hRR D C _ m ys ⟨hos, hdr, fun b ob bt e => ?_, ?_, fun _ => cT.ti.move (fun _ _ _ e => e) fun b q => .inl (.inl (.inl q)), fun _ => cT.gn⟩ (cT.ti.move (fun _ _ _ e => e) fun b q => .inl (by rcases q with q | q; exact .inl (.inl q); exact .inr q)) hsD (by lia) hDC hm1 (hys.at fun ob e => hk1 D ob hDw e) ?_
      · have hb := ltz e
        have hbw : b ∉ wr := fun q => by have := (hwr _ q).1; lia
        exact hk1 b ob hbw (hkp b ob bt hbw (by lia) (by lia) (k2.kp b ob bt e))
      · have := nsz hm1
        show s.heap.objs.size ≤ h1.objs.size
        lia
      · have := hts.move (h' := h1) (X' := fun b => X b ∨ b = D ∨ b = C) (fun b ob nb e => hk1 b ob (fun z => nb (.inl (.inr z))) e) fun b q => .inl (by rcases q with q | q; exact .inl (.inl q); exact .inr q)
        simpa using this
  show codeAny _ _ (.compStart _ 0 _ _ (compEnvC scope (clOf env scope.names []) C env)) _ _
  exact codeAny_compStart_list (key _ inv0) (W.self 0 _ _ _ st1 (key _ inv0))

end
end Mine
end

section
open PySem PySem.W PySem.Calls PyProof.Rows
set_option Elab.async false
set_option linter.unusedVariables false
set_option linter.unusedSectionVars false
set_option maxRecDepth 10000
namespace Mine
variable [Star]

noncomputable def Rho.set (ρ : Rho) (x : Str) (d : D) : Rho := { nm := fun y => if y = x then some d else ρ.nm y, own := ρ.own.filter fun p => p.1 != x }
noncomputable def Rho.new (ρ : Rho) (x : Str) (a : Nat) (l : List D) : Rho := { nm := fun y => if y = x then some (.rf a) else ρ.nm y, own := (x, a, l) :: ρ.own.filter fun p => p.1 != x }
noncomputable def Rho.put (ρ : Rho) (x : Str) (l : List D) : Rho := { ρ with own := ρ.own.map fun p => if p.1 = x then (p.1, p.2.1, l) else p }

structure Fs (B : Heap) (env : Env) (X : Nat → Prop) (s : Shared) (ρ : Rho) : Prop where
  cx : Cx B X s
  vs : Vs env s.heap X ρ
  lx : X env.locals
  ln : env.locals ≠ tb
  lm : ∃ m, s.heap.Ns env.locals m
  cel : ∀ x c, env.cells.lookup x = some c → X c ∧ c ≠ tb ∧ ∃ v, s.heap.IsCell c v
  inj : ∀ x y c, env.cells.lookup x = some c → env.cells.lookup y = some c → x = y
  dis : ρ.own.Pairwise fun p q => p.1 ≠ q.1 ∧ p.2.1 ≠ q.2.1

noncomputable def Mut (env : Env) (ρ : Rho) (b : Nat) : Prop := b = env.locals ∨ (∃ y, env.cells.lookup y = some b) ∨ ∃ p ∈ ρ.own, p.2.1 = b
structure Tn (M : Nat → Prop) (s s' : Shared) : Prop where
  os : s'.os = s.os
  dr : s'.drawn = s.drawn
  kp : ∀ b o, ¬ M b → b ≠ tb → s.heap.get? b = some o → s'.heap.get? b = some o
  sz : s.heap.objs.size ≤ s'.heap.objs.size
theorem Tn.refl {M : Nat → Prop} (s : Shared) : Tn M s s := ⟨rfl, rfl, fun _ _ _ _ e => e, Nat.le_refl _⟩
theorem Tn.trans {M M' : Nat → Prop} {s s' s'' : Shared} (a : Tn M s s') (b : Tn M' s' s'') (h : ∀ b, M' b → M b ∨ s.heap.objs.size ≤ b) : Tn M s s'' :=
  ⟨b.os.trans a.os, b.dr.trans a.dr, fun x o n e q => b.kp x o (fun z => (h x z).elim n fun z => by have := ltz q; lia) e (a.kp x o n e q), Nat.le_trans a.sz b.sz⟩
theorem Ks.tn {X M : Nat → Prop} {s s' : Shared} (k : Ks X s s') : Tn M s s' := ⟨k.os, k.dr, fun b o _ n e => k.kp b o n e, k.sz⟩
theorem Tn.same {M : Nat → Prop} {s s' : Shared} {a : Nat} (ha : M a) (h : Heap.SameBut a s.heap s'.heap) (e1 : s'.os = s.os) (e2 : s'.drawn = s.drawn) : Tn M s s' :=
  ⟨e1, e2, fun b o n _ e => h.extBut b o (fun z => n (z ▸ ha)) e, Nat.le_of_eq h.1.symm⟩

theorem Ks.fs {B : Heap} {env : Env} {X : Nat → Prop} {s s' : Shared} {ρ : Rho} (k : Ks X s s') (f : Fs B env X s ρ) : Fs B env X s' ρ where
  cx := k.cx f.cx
  vs := k.vs f.cx f.vs
  lx := f.lx
  ln := f.ln
  lm := let ⟨m, h⟩ := f.lm; ⟨m, h.at' fun o e => k.kp _ _ f.ln e⟩
  cel := fun x c e => let ⟨a, b, v, o, h1, h2⟩ := f.cel x c e; ⟨a, b, v, o, k.kp _ _ b h1, h2⟩
  inj := f.inj
  dis := f.dis
structure Rho.Le (ρ ρ' : Rho) : Prop where
  nm : ∀ x d, ρ.nm x = some d → ρ'.nm x = some d
  own : ∀ p ∈ ρ.own, p ∈ ρ'.own
  dis : (ρ'.own.Pairwise fun p q => p.1 ≠ q.1 ∧ p.2.1 ≠ q.2.1) → ρ.own.Pairwise fun p q => p.1 ≠ q.1 ∧ p.2.1 ≠ q.2.1
theorem Fs.weak {B : Heap} {env : Env} {X : Nat → Prop} {s : Shared} {ρ ρ' : Rho} (f : Fs B env X s ρ') (h : ρ.Le ρ') (ho : ∀ p ∈ ρ.own, ρ.nm p.1 = some (.rf p.2.1)) : Fs B env X s ρ :=
  { f with vs := ⟨fun x d e => f.vs.nm x d (h.nm x d e), fun p hp => ⟨(f.vs.own p (h.own p hp)).1, ho p hp⟩⟩, dis := h.dis f.dis }
theorem Rho.Le.refl (ρ : Rho) : ρ.Le ρ := ⟨fun _ _ e => e, fun _ h => h, id⟩

structure Post where
  nx : Rho → Prop
  ct : Rho → Prop := fun _ => False
  bk : Rho → Prop := fun _ => False
  rt : D → Prop := fun _ => False
noncomputable def Post.to (R : Post) (P : Rho → Prop) : Post := { R with nx := P }

noncomputable def OwnIn (ρ ρ' : Rho) (s : Shared) : Prop := ∀ p ∈ ρ'.own, (∃ q ∈ ρ.own, q.2.1 = p.2.1) ∨ s.heap.objs.size ≤ p.2.1
theorem OwnIn.refl (ρ : Rho) (s : Shared) : OwnIn ρ ρ s := fun p hp => .inl ⟨p, hp, rfl⟩
theorem OwnIn.sub {ρ ρ' : Rho} {s : Shared} (h : ∀ p ∈ ρ'.own, ∃ q ∈ ρ.own, q.2.1 = p.2.1) : OwnIn ρ ρ' s := fun p hp => .inl (h p hp)
theorem OwnIn.trans {ρ ρ1 ρ2 : Rho} {s s1 : Shared} (a : OwnIn ρ ρ1 s) (b : OwnIn ρ1 ρ2 s1) (h : s.heap.objs.size ≤ s1.heap.objs.size) : OwnIn ρ ρ2 s := fun p hp => by
  rcases b p hp with ⟨q, hq, e⟩ | z
  · rcases a q hq with ⟨r, hr, e2⟩ | z
    · exact .inl ⟨r, hr, e2.trans e⟩
    · exact .inr (e ▸ z)
  · exact .inr (Nat.le_trans h z)

section
variable (prog : Program) (w : World) (B : Heap)
noncomputable def Post.ok (R : Post) (env : Env) (ρ0 : Rho) (X0 X : Nat → Prop) (s0 : Shared) (fl : Flow) (s : Shared) : Prop :=
  match fl with
  | .next => ∃ ρ, R.nx ρ ∧ Fs B env X s ρ ∧ OwnIn ρ0 ρ s0
  | .cont => ∃ ρ, R.ct ρ ∧ Fs B env X s ρ ∧ OwnIn ρ0 ρ s0
  | .brk => ∃ ρ, R.bk ρ ∧ Fs B env X s ρ ∧ OwnIn ρ0 ρ s0
  | .ret v => ∃ d Y, R.rt d ∧ Tl s.heap Y v d ∧ TI s.heap Y ∧ AllBare s.gens ∧ ∀ b, X0 b → (∃ p ∈ ρ0.own, p.2.1 = b) ∨ Y b
noncomputable def PX (n : Nat) (sc : Scope) (ρ : Rho) (ss : List Stmt) (R : Post) : Prop :=
  ∀ (A : Around) (env : Env) (E : Value → Shared → Prop) (s : Shared) (X : Nat → Prop) (Q : Flow → Shared → Prop),
    Room n A → Eo sc env → Fs B env X s ρ → (∀ fl s' X', Tn (Mut env ρ) s s' → (∀ b, X b → X' b) → (∀ b, X' b → X b ∨ s.heap.objs.size ≤ b) → R.ok B env ρ X X' s fl s' → Q fl s') → wpAny (model prog w) A (execs ss env) Q E s
end

theorem Mut.le {env : Env} {ρ ρ' : Rho} {s : Shared} (h : OwnIn ρ ρ' s) {b : Nat} (m : Mut env ρ' b) : Mut env ρ b ∨ s.heap.objs.size ≤ b := by
  rcases m with m | m | ⟨p, hp, e⟩
  · exact .inl (.inl m)
  · exact .inl (.inr (.inl m))
  · rcases h p hp with ⟨q, hq, e2⟩ | z
    · exact .inl (.inr (.inr ⟨q, hq, e2.trans e⟩))
    · exact .inr (e ▸ z)

theorem Post.ok.step {R : Post} {B : Heap} {env : Env} {ρ0 ρ1 : Rho} {X0 X1 X2 : Nat → Prop} {s0 s1 s2 : Shared} {fl : Flow} (h : R.ok B env ρ1 X1 X2 s1 fl s2) (x1 : ∀ b, X0 b → X1 b) (xl : ∀ b, X0 b → b < s0.heap.objs.size)
    (oi : OwnIn ρ0 ρ1 s0) (sz : s0.heap.objs.size ≤ s1.heap.objs.size) : R.ok B env ρ0 X0 X2 s0 fl s2 := by
  cases fl with
  | next => obtain ⟨ρ, a, b, c⟩ := h; exact ⟨ρ, a, b, oi.trans c sz⟩
  | cont => obtain ⟨ρ, a, b, c⟩ := h; exact ⟨ρ, a, b, oi.trans c sz⟩
  | brk => obtain ⟨ρ, a, b, c⟩ := h; exact ⟨ρ, a, b, oi.trans c sz⟩
  | ret v =>
    obtain ⟨d, Y, a, b, c, e, f⟩ := h
    refine ⟨d, Y, a, b, c, e, fun b hb => ?_⟩
    rcases f b (x1 b hb) with ⟨p, hp, q⟩ | z
    · rcases oi p hp with ⟨r, hr, e2⟩ | z
      · exact .inl ⟨r, hr, e2.trans q⟩
      · have := xl b hb
        rw [q] at z
        grind
    · exact .inr z

theorem Cx.same {B : Heap} {X : Nat → Prop} {s s' : Shared} (c : Cx B X s) {a : Nat} (hs : Heap.SameBut a s.heap s'.heap) (ha : X a) (hn : a ≠ Mine.tb) (g : s'.gens = s.gens) : Cx B X s' :=
  c.turn (fun b o q e => hs.extBut b o (fun z => q.elim (fun q => q (z ▸ ha)) fun q => hn (z.symm.trans q)) e) (Nat.le_of_eq hs.1.symm) g
theorem Tl.same {h h' : Heap} {X : Nat → Prop} {v : Value} {d : D} (t : Tl h X v d) {a : Nat} (hs : Heap.SameBut a h h') (ha : X a) : Tl h' X v d :=
  t.move (fun b o q e => hs.extBut b o (fun z => q (z ▸ ha)) e) fun _ q => .inl q
theorem Tls.same {h h' : Heap} {X : Nat → Prop} {v : List Value} {d : List D} (t : Tls h X v d) {a : Nat} (hs : Heap.SameBut a h h') (ha : X a) : Tls h' X v d :=
  t.move (fun b o q e => hs.extBut b o (fun z => q (z ▸ ha)) e) fun _ q => .inl q

section
variable {prog : Program} {w : World} {B : Heap} {n : Nat} {sc : Scope} {ρ : Rho}

theorem store_name {A : Around} {env : Env} {E : Value → Shared → Prop} {s : Shared} {X : Nat → Prop} {Q : Unit → Shared → Prop} {x : Str} {v : Value} {d : D} (o : Eo sc env) (f : Fs B env X s ρ)
    (hx : sc.names.lookup x = some .local ∨ sc.names.lookup x = some .cell)
    (t : Tl s.heap X v d) (hd : (x == ("__debug__" : Str)) = false) (hc : (x == ("__classdict__" : Str)) = false)
    (k : ∀ s', Fs B env X s' (ρ.set x d) → Tn (Mut env ρ) s s' → Q () s') : wpAny (model prog w) A (storeName env x v) Q E s := by
  have hk : env.scope.kind = .function := by rw [o.iss]; exact o.kind
  rcases hx with hx | hx
  · have hl : env.kindOf x = some .local := by unfold Env.kindOf; rw [o.iss]; exact hx
    obtain ⟨m, hm⟩ := f.lm
    refine wpAny_storeName_local hl hm (fun h' hn' hs' => ?_) (by rw [hk]; rfl)
    refine k _ ⟨f.cx.same (s' := { s with heap := h', toks := s.toks + 1 }) hs' f.lx f.ln rfl, ⟨fun y e he => ?_, fun p hp => ?_⟩, f.lx, f.ln, ⟨_, hn'⟩, fun y c e => ?_, f.inj, f.dis.sublist List.filter_sublist⟩ (Tn.same (s' := { s with heap := h', toks := s.toks + 1 }) (.inl rfl) hs' rfl rfl)
    · unfold Rho.set at he
      dsimp only at he
      by_cases hy : y = x
      · rw [if_pos hy] at he
        cases he
        subst hy
        exact ⟨.inl ⟨hl, f.ln, _, v, hn', by simp, t.same hs' f.lx⟩, hd, hc⟩
      · rw [if_neg hy] at he
        obtain ⟨a, b1⟩ := f.vs.nm y e he
        refine ⟨?_, b1⟩
        rcases a with ⟨a1, a2, m2, u, a3, a4, a5⟩ | ⟨c, u, a1, a2, a3, a4, a5⟩
        · refine .inl ⟨a1, a2, _, u, hn', ?_, a5.same hs' f.lx⟩
          rw [if_neg hy]
          obtain ⟨o1, es1, ep1, b1, b2, b3, b4⟩ := a3
          obtain ⟨o2, es2, ep2, c1, c2, c3, c4⟩ := hm
          rw [b1] at c1; cases c1
          rw [b2] at c2; cases c2
          rw [← c4, b4]; exact a4
        · refine .inr ⟨c, u, a1, a2, a3, ?_, a5.same hs' f.lx⟩
          obtain ⟨ob, e1, e2⟩ := a4
          refine ⟨ob, hs'.extBut c ob (fun q => ?_) e1, e2⟩
          obtain ⟨o2, es2, ep2, c1, c2, _⟩ := hm
          rw [q] at e1; rw [e1] at c1; cases c1
          rw [e2] at c2; cases c2
    · have hp2 := List.mem_filter.mp hp
      have hpx : p.1 ≠ x := by simpa using hp2.2
      obtain ⟨⟨q1, q2, us, q3, q4, q5⟩, q6⟩ := f.vs.own p hp2.1
      refine ⟨?_, by show (if p.1 = x then some d else ρ.nm p.1) = _; rw [if_neg hpx]; exact q6⟩
      refine ⟨q1, q2, us, q3.at fun ob e => hs'.extBut _ ob (fun q => ?_) e, q4, q5.same hs' f.lx⟩
      obtain ⟨o2, es2, ep2, c1, c2, _⟩ := hm
      obtain ⟨n3, e3⟩ := q3
      rw [q] at e3; rw [e3] at c1; cases c1
      cases c2
    · obtain ⟨q1, q2, u, ob, e1, e2⟩ := f.cel y c e
      refine ⟨q1, q2, u, ob, hs'.extBut c ob (fun q => ?_) e1, e2⟩
      obtain ⟨o2, es2, ep2, c1, c2, _⟩ := hm
      rw [q] at e1; rw [e1] at c1; cases c1
      rw [e2] at c2; cases c2
  · have hl : env.kindOf x = some .cell := by unfold Env.kindOf; rw [o.iss]; exact hx
    obtain ⟨cc, hcc, _⟩ := o.cells x (.inl hx)
    obtain ⟨g1, g2, v0, hv0⟩ := f.cel x cc hcc
    refine wpAny_storeName_cell hk hl hcc hv0 (fun h' hc' hs' => ?_)
    have hne : env.locals ≠ cc := fun q => by
      obtain ⟨m, o2, es2, ep2, c1, c2, _⟩ := f.lm
      obtain ⟨ob, e1, e2⟩ := hv0
      rw [q] at c1; rw [e1] at c1; cases c1
      rw [e2] at c2; cases c2
    refine k _ ⟨f.cx.same (s' := { s with heap := h' }) hs' g1 g2 rfl, ⟨fun y e he => ?_, fun p hp => ?_⟩, f.lx, f.ln, ?_, fun y c e => ?_, f.inj, f.dis.sublist List.filter_sublist⟩ (Tn.same (s' := { s with heap := h' }) (.inr (.inl ⟨x, hcc⟩)) hs' rfl rfl)
    · unfold Rho.set at he
      dsimp only at he
      by_cases hy : y = x
      · rw [if_pos hy] at he
        cases he
        subst hy
        exact ⟨.inr ⟨cc, v, .inl hl, hcc, g2, hc', t.same hs' g1⟩, hd, hc⟩
      · rw [if_neg hy] at he
        obtain ⟨a, b1⟩ := f.vs.nm y e he
        refine ⟨?_, b1⟩
        rcases a with ⟨a1, a2, m2, u, a3, a4, a5⟩ | ⟨c, u, a1, a2, a3, a4, a5⟩
        · exact .inl ⟨a1, a2, m2, u, a3.at' fun ob e => hs'.extBut _ ob hne e, a4, a5.same hs' g1⟩
        · refine .inr ⟨c, u, a1, a2, a3, ?_, a5.same hs' g1⟩
          obtain ⟨ob, e1, e2⟩ := a4
          exact ⟨ob, hs'.extBut c ob (fun q => hy (f.inj y x cc (q ▸ a2) hcc)) e1, e2⟩
    · have hp2 := List.mem_filter.mp hp
      have hpx : p.1 ≠ x := by simpa using hp2.2
      obtain ⟨⟨q1, q2, us, q3, q4, q5⟩, q6⟩ := f.vs.own p hp2.1
      refine ⟨?_, by show (if p.1 = x then some d else ρ.nm p.1) = _; rw [if_neg hpx]; exact q6⟩
      refine ⟨q1, q2, us, q3.at fun ob e => hs'.extBut _ ob (fun q => ?_) e, q4, q5.same hs' g1⟩
      obtain ⟨n3, e3⟩ := q3
      obtain ⟨ob, e1, e2⟩ := hv0
      rw [q] at e3; rw [e3] at e1; cases e1
      cases e2
    · obtain ⟨m, hm⟩ := f.lm
      exact ⟨m, hm.at' fun ob e => hs'.extBut _ ob hne e⟩
    · obtain ⟨q1, q2, u, ob, e1, e2⟩ := f.cel y c e
      by_cases hy : c = cc
      · subst hy; exact ⟨q1, q2, _, hc'⟩
      · exact ⟨q1, q2, u, ob, hs'.extBut c ob hy e1, e2⟩
end
end Mine
end

section
open PySem PySem.W PySem.Calls PyProof.Rows
set_option Elab.async false
set_option linter.unusedVariables false
set_option linter.unusedSectionVars false
set_option maxRecDepth 10000
namespace Mine
variable [Star]

section
variable {prog : Program} {w : World} {A : Around} {E : Value → Shared → Prop} {s : Shared}

noncomputable def Left (I : Nat) (s : Shared) (Q : Option Value → Shared → Prop) : Prop := ∀ h', Heap.ExtBut I s.heap h' → s.heap.objs.size ≤ h'.objs.size → Q none { s with heap := h' }

theorem stop_list {it l : Nat} {i : Nat} {items : Array Value} {Q : Option Value → Shared → Prop} (hh : A.handled = none)
    (hit : s.heap.IsListIter it l i) (hl : s.heap.IsList l items) (hx : items[i]? = none) (hQ : Left it s Q) : wpAny (model prog w) A (pyNext (.ref it)) Q E s := by
  obtain ⟨o, ho, hc, hd⟩ := id hit
  obtain ⟨ol, hol, _, nl, hdl⟩ := hl
  unfold pyNext
  refine wpAny_bind (wpAny_attempt (wpAny_callSpecial?_slot (name := Str.ofString "__next__") hit.typeIs slot_listiter_next (wpAny_call_entry slot_listiter_next hit.typeIs entry_listiter_next ?_ (args_listiter_next _))))
  show wpAny _ _ (field (.ref it) 0 >>= _) _ _ s
  refine wpAny_bind (wpAny_field ho hd (x := .ref l) rfl ?_)
  show wpAny _ _ (if (Value.ref l == Value.none) = true then _ else _) _ _ s
  rw [if_neg (show ¬ ((Value.ref l == Value.none) = true) from Bool.false_ne_true)]
  show wpAny _ _ (field (.ref it) 1 >>= _) _ _ s
  refine wpAny_bind (wpAny_field ho hd (x := .int i 0) rfl ?_)
  refine wpAny_bind (wpAny_seqItems hol hdl ?_)
  simp only [Int.toNat_natCast, hx]
  refine wpAny_bind (wpAny_rule (wpAny_bind (wpAny_setField ho hd (by simp) ?_)))
  refine wpAny_bind (m := newExc (.type "StopIteration") []) ?_
  simp only [newExc, newTuple]
  refine wpAny_bind (wpAny_newObj_type ?_ (by size_fits))
  refine wpAny_bind (m := firstArgMember _ _) (wpAny_of_eq (a := Value.none) (by first | rfl | (simp only [firstArgMember]; rfl)) ?_)
  refine wpAny_newObj_type ?_ (by size_fits)
  simp only [raiseNew]
  refine wpAny_bind (wpAny_handled ?_)
  rw [show A.in1.handled = none from hh]
  refine wpAny_bind (wpAny_pure (wpAny_throw ?_))
  refine wpAny_bind (wpAny_isInstance (T := "StopIteration") (b := true) ⟨_, Heap.get?_push_size _ rfl, rfl⟩ isSubtype_stop ?_)
  refine wpAny_pure (hQ _ (((Heap.SameBut.update ..).extBut.push _).push _) ?_)
  rw [Heap.size_push, Heap.size_push, (Heap.SameBut.update ..).1]
  exact Nat.le_succ_of_le (Nat.le_succ _)

theorem stop_tuple {it l : Nat} {i : Nat} {items : Array Value} {Q : Option Value → Shared → Prop} (hh : A.handled = none)
    (hit : s.heap.IsTupleIter it l i) (hl : s.heap.IsTuple l items) (hx : items[i]? = none) (hQ : Left it s Q) : wpAny (model prog w) A (pyNext (.ref it)) Q E s := by
  obtain ⟨o, ho, hc, hd⟩ := id hit
  obtain ⟨ol, hol, _, nl, hdl⟩ := hl
  unfold pyNext
  refine wpAny_bind (wpAny_attempt (wpAny_callSpecial?_slot (name := Str.ofString "__next__") hit.typeIs F.slot_tuple_iterator_next (wpAny_call_entry F.slot_tuple_iterator_next hit.typeIs F.entry_tuple_iterator_next ?_ (F.args_tuple_iterator_next_1 _))))
  show wpAny _ _ (field (.ref it) 0 >>= _) _ _ s
  refine wpAny_bind (wpAny_field ho hd (x := .ref l) rfl ?_)
  show wpAny _ _ (if (Value.ref l == Value.none) = true then _ else _) _ _ s
  rw [if_neg (show ¬ ((Value.ref l == Value.none) = true) from Bool.false_ne_true)]
  show wpAny _ _ (field (.ref it) 1 >>= _) _ _ s
  refine wpAny_bind (wpAny_field ho hd (x := .int i 0) rfl ?_)
  refine wpAny_bind (wpAny_seqItems hol hdl ?_)
  simp only [Int.toNat_natCast, hx]
  refine wpAny_bind (wpAny_rule (wpAny_bind (wpAny_setField ho hd (by simp) ?_)))
  refine wpAny_bind (m := newExc (.type "StopIteration") []) ?_
  simp only [newExc, newTuple]
  refine wpAny_bind (wpAny_newObj_type ?_ (by size_fits))
  refine wpAny_bind (m := firstArgMember _ _) (wpAny_of_eq (a := Value.none) (by first | rfl | (simp only [firstArgMember]; rfl)) ?_)
  refine wpAny_newObj_type ?_ (by size_fits)
  simp only [raiseNew]
  refine wpAny_bind (wpAny_handled ?_)
  rw [show A.in1.handled = none from hh]
  refine wpAny_bind (wpAny_pure (wpAny_throw ?_))
  refine wpAny_bind (wpAny_isInstance (T := "StopIteration") (b := true) ⟨_, Heap.get?_push_size _ rfl, rfl⟩ isSubtype_stop ?_)
  refine wpAny_pure (hQ _ (((Heap.SameBut.update ..).extBut.push _).push _) ?_)
  rw [Heap.size_push, Heap.size_push, (Heap.SameBut.update ..).1]
  exact Nat.le_succ_of_le (Nat.le_succ _)

theorem stop_range {it : Nat} {x left step : Int} {Q : Option Value → Shared → Prop} (hh : A.handled = none) (hit : IsRangeIter s.heap it x left step) (hleft : left ≤ 0) (hQ : Left it s Q) :
    wpAny (model prog w) A (pyNext (.ref it)) Q E s := by
  have hT : s.TypeIs (.ref it) "range_iterator" := ⟨_, hit, rfl⟩
  unfold pyNext
  refine wpAny_bind (wpAny_attempt (wpAny_callSpecial?_slot (name := Str.ofString "__next__") hT F.slot_range_iterator_next (wpAny_call_entry F.slot_range_iterator_next hT F.entry_range_iterator_next ?_ (F.args_range_iterator_next_1 _))))
  show wpAny _ _ (field (.ref it) 0 >>= _) _ _ s
  refine wpAny_bind (wpAny_field hit rfl (x := rawInt x) rfl ?_)
  show wpAny _ _ (field (.ref it) 1 >>= _) _ _ s
  refine wpAny_bind (wpAny_field hit rfl (x := rawInt left) rfl ?_)
  show wpAny _ _ (field (.ref it) 2 >>= _) _ _ s
  refine wpAny_bind (wpAny_field hit rfl (x := rawInt step) rfl ?_)
  show wpAny _ _ (if left ≤ 0 then _ else _) _ _ s
  rw [if_pos hleft]
  refine wpAny_bind (wpAny_rule (wpAny_bind (wpAny_bind (m := newExc (.type "StopIteration") []) ?_)))
  simp only [newExc, newTuple]
  refine wpAny_bind (wpAny_newObj_type ?_ (by size_fits))
  refine wpAny_bind (m := firstArgMember _ _) (wpAny_of_eq (a := Value.none) (by first | rfl | (simp only [firstArgMember]; rfl)) ?_)
  refine wpAny_newObj_type ?_ (by size_fits)
  simp only [raiseNew]
  refine wpAny_bind (wpAny_handled ?_)
  rw [show A.in1.handled = none from hh]
  refine wpAny_bind (wpAny_pure (wpAny_throw ?_))
  refine wpAny_bind (wpAny_isInstance (T := "StopIteration") (b := true) ⟨_, Heap.get?_push_size _ rfl, rfl⟩ isSubtype_stop ?_)
  refine wpAny_pure (hQ _ (((Heap.ExtBut.refl it s.heap).push _).push _) ?_)
  rw [Heap.size_push, Heap.size_push]
  exact Nat.le_succ_of_le (Nat.le_succ _)

structure Wk (prog : Program) (w : World) (A : Around) (I : Nat) (n : Nat) (P : Nat → Value → Prop) (St : Nat → Heap → Prop) : Prop where
  item : ∀ i (s : Shared) (Q : Option Value → Shared → Prop) (E : Value → Shared → Prop), i < n → St i s.heap →
    (∀ v h' tk, P i v → St (i + 1) h' → Heap.SameBut I s.heap h' → Q (some v) { s with heap := h', toks := tk }) → wpAny (model prog w) A (pyNext (.ref I)) Q E s
  done : ∀ (s : Shared) (Q : Option Value → Shared → Prop) (E : Value → Shared → Prop), St n s.heap → Left I s Q → wpAny (model prog w) A (pyNext (.ref I)) Q E s
end
end Mine
end

section
open PySem PySem.W PySem.Calls PyProof.Rows
set_option Elab.async false
set_option linter.unusedVariables false
set_option linter.unusedSectionVars false
set_option maxRecDepth 10000
namespace Mine
variable [Star]

section
variable (prog : Program) (w : World) (B : Heap)
noncomputable def PW (n : Nat) (sc : Scope) (ρ : Rho) (e : Expr) (ds : List D) : Prop :=
  ∀ (A : Around) (env : Env) (E : Value → Shared → Prop) (s : Shared) (X : Nat → Prop) (Q : Value → Shared → Prop),
    Room n A → Eo sc env → Cx B X s → Vs env s.heap X ρ →
    (∀ (I : Nat) (P : Nat → Value → Prop) (St : Nat → Heap → Prop) (s2 : Shared), Ks X s s2 → Wk prog w A I ds.length P St → St 0 s2.heap → s.heap.objs.size ≤ I → I < s2.heap.objs.size →
      (∀ i h h', St i h → (∀ b o, (b = I ∨ (¬ X b ∧ b < s2.heap.objs.size)) → h.get? b = some o → h'.get? b = some o) → St i h') → (∀ i h, St i h → IsIt h I) →
      Cx B (fun b => X b ∨ b = I) s2 → (∀ i v, i < ds.length → P i v → ∃ d, ds[i]? = some d ∧ Tl s2.heap (fun b => X b ∨ b = I) v d) → Q (.ref I) s2) →
    wpAny (model prog w) A (eval e env) (fun x s1 => wpAny (model prog w) A (pyIter x) Q E s1) E s
end

section
variable {prog : Program} {w : World} {B : Heap} {n : Nat} {sc : Scope} {ρ : Rho}

theorem Cx.moreI {X : Nat → Prop} {s1 : Shared} (c1 : Cx B X s1) (o : Obj) (t : Nat) : Cx B (fun b => X b ∨ b = s1.heap.objs.size) { s1 with heap := s1.heap.push o, toks := t } := by
  refine c1.more (fun b q => .inl q) (fun b q => q.imp_right fun q => Nat.le_of_eq q.symm) (fun b q => ?_) (fun b o e => Heap.get?_push_of_some _ e) rfl
  show b < (s1.heap.push o).objs.size
  rw [Heap.size_push]
  rcases q with q | q
  · exact Nat.lt_succ_of_lt (c1.xlt _ q)
  · subst q; exact Nat.lt_succ_self _

theorem pw_list {e : Expr} {ds : List D} (h : PE prog w B n sc ρ e (.list ds)) : PW prog w B n sc ρ e ds := fun A env E s X Q r o c v k =>
  h A env E s X _ r o c v fun u s1 k1 t1 => by
    have c1 := k1.cx c
    cases t1 using Tl.listE with
    | list p nx z ts =>
      rename_i a vs
      have hl := ts.length
      refine wpAny_pyIter_list p.isList ?_
      have hlt : a < s1.heap.objs.size := let ⟨_, e⟩ := p; Heap.lt_size e
      have kp : ∀ b o, s1.heap.get? b = some o → (s1.heap.push { cls := .type "list_iterator", data := .fields #[.ref a, .int 0 0] }).get? b = some o := fun b o e => Heap.get?_push_of_some _ e
      refine k s1.heap.objs.size (fun i v => vs.toArray[i]? = some v) (fun i h => h.IsListIter s1.heap.objs.size a i ∧ h.IsList a vs.toArray) _ (k1.trans (Ks.push s1 _ _)) ⟨fun i s' Q' E' hi st hQ => ?_, fun s' Q' E' st hQ => ?_⟩ ⟨⟨_, Heap.get?_push_size _ rfl, rfl, rfl⟩, p.isList.push _⟩ k1.sz
        (by show _ < (s1.heap.push _).objs.size; rw [Heap.size_push]; exact Nat.lt_succ_self _) (fun i h h' st kk => ⟨st.1.at fun ob e => kk _ ob (.inl rfl) e, st.2.at fun ob e => kk _ ob (.inr ⟨nx, by show _ < (s1.heap.push _).objs.size; rw [Heap.size_push]; exact Nat.lt_succ_of_lt hlt⟩) e⟩)
        (fun i h st => let ⟨⟨o, q1, q2, q3⟩, _⟩ := st; ⟨o, _, _, q1, q2, q3, by decide⟩) (c1.moreI _ _) ?_
      · obtain ⟨x, hx⟩ : ∃ x, vs.toArray[i]? = some x := by
          refine ⟨_, Array.getElem?_eq_getElem (by simp; lia)⟩
        exact wpAny_pyNext_list_item st.1 st.2 hx fun h' h1 h2 => hQ x h' _ hx ⟨h1, st.2.at fun ob e => h2.extBut _ ob (nen (by lia)) e⟩ h2
      · exact stop_list r.hand st.1 st.2 (by rw [Array.getElem?_eq_none]; simp [hl]) hQ
      · intro i u _ hu
        obtain ⟨d, e1, t⟩ := ts.get' (i := i) (v := u) (by simpa using hu)
        exact ⟨d, e1, t.move (fun b o _ e => kp b o e) fun b q => q.imp_right fun q => Nat.le_of_eq q.symm⟩

theorem pw_tup {e : Expr} {ds : List D} (h : PE prog w B n sc ρ e (.tup ds)) : PW prog w B n sc ρ e ds := fun A env E s X Q r o c v k =>
  h A env E s X _ r o c v fun u s1 k1 t1 => by
    have c1 := k1.cx c
    cases t1 using Tl.tupE with
    | tup p nx z ts =>
      rename_i a vs
      have hl := ts.length
      refine wpAny_pyIter_tuple p ?_
      have hlt : a < s1.heap.objs.size := let ⟨_, e, _⟩ := p; Heap.lt_size e
      have kp : ∀ b o, s1.heap.get? b = some o → (s1.heap.push { cls := .type "tuple_iterator", data := .fields #[.ref a, .int 0 0] }).get? b = some o := fun b o e => Heap.get?_push_of_some _ e
      have ta : ∀ {h h' : Heap}, h.IsTuple a vs.toArray → (∀ o, h.get? a = some o → h'.get? a = some o) → h'.IsTuple a vs.toArray := fun ⟨o, e, r⟩ k => ⟨o, k o e, r⟩
      refine k s1.heap.objs.size (fun i v => vs.toArray[i]? = some v) (fun i h => h.IsTupleIter s1.heap.objs.size a i ∧ h.IsTuple a vs.toArray) _ (k1.trans (Ks.push s1 _ _)) ⟨fun i s' Q' E' hi st hQ => ?_, fun s' Q' E' st hQ => ?_⟩ ⟨⟨_, Heap.get?_push_size _ rfl, rfl, rfl⟩, p.push _⟩ k1.sz
        (by show _ < (s1.heap.push _).objs.size; rw [Heap.size_push]; exact Nat.lt_succ_self _) (fun i h h' st kk => ⟨let ⟨o, e, r⟩ := st.1; ⟨o, kk _ o (.inl rfl) e, r⟩, ta st.2 fun ob e => kk _ ob (.inr ⟨nx, by show _ < (s1.heap.push _).objs.size; rw [Heap.size_push]; exact Nat.lt_succ_of_lt hlt⟩) e⟩)
        (fun i h st => let ⟨⟨o, q1, q2, q3⟩, _⟩ := st; ⟨o, _, _, q1, q2, q3, by decide⟩) (c1.moreI _ _) ?_
      · obtain ⟨x, hx⟩ : ∃ x, vs.toArray[i]? = some x := by
          refine ⟨_, Array.getElem?_eq_getElem (by simp; lia)⟩
        exact wpAny_pyNext_tuple_item st.1 st.2 hx fun h' h1 h2 => hQ x h' _ hx ⟨h1, ta st.2 fun ob e => h2.extBut _ ob (nen (by lia)) e⟩ h2
      · exact stop_tuple r.hand st.1 st.2 (by rw [Array.getElem?_eq_none]; simp [hl]) hQ
      · intro i u _ hu
        obtain ⟨d, e1, t⟩ := ts.get' (i := i) (v := u) (by simpa using hu)
        exact ⟨d, e1, t.move (fun b o _ e => kp b o e) fun b q => q.imp_right fun q => Nat.le_of_eq q.symm⟩

theorem pw_range_core {A : Around} {E : Value → Shared → Prop} {s s1 : Shared} {X : Nat → Prop} {Q : Value → Shared → Prop} {R : Nat} {lo hi st : Int} {t1 t2 t3 : Tok} {ds : List D} (r : Room n A) (k1 : Ks X s s1) (c1 : Cx B X s1)
    (hr : IsRange s1.heap R lo hi st t1 t2 t3) (hsm : Builtin.Range.small lo hi st = true) (hsz : Builtin.Range.rangeSize lo hi st = (ds.length : Int)) (hds : ∀ i, i < ds.length → ds[i]? = some (.int (lo + i * st)))
    (k : ∀ (I : Nat) (P : Nat → Value → Prop) (St : Nat → Heap → Prop) (s2 : Shared), Ks X s s2 → Wk prog w A I ds.length P St → St 0 s2.heap → s.heap.objs.size ≤ I → I < s2.heap.objs.size →
      (∀ i h h', St i h → (∀ b o, (b = I ∨ (¬ X b ∧ b < s2.heap.objs.size)) → h.get? b = some o → h'.get? b = some o) → St i h') → (∀ i h, St i h → IsIt h I) →
      Cx B (fun b => X b ∨ b = I) s2 → (∀ i v, i < ds.length → P i v → ∃ d, ds[i]? = some d ∧ Tl s2.heap (fun b => X b ∨ b = I) v d) → Q (.ref I) s2) : wpAny (model prog w) A (pyIter (.ref R)) Q E s1 := by
  refine wpAny_pyIter_range hr hsm ?_
  refine k s1.heap.objs.size (fun i v => ∃ t, v = .int (lo + i * st) t) (fun i h => IsRangeIter h s1.heap.objs.size (lo + i * st) ((ds.length : Int) - i) st) _ (k1.trans (Ks.push s1 _ _)) ⟨fun i s' Q' E' hi st' hQ => ?_, fun s' Q' E' st' hQ => ?_⟩ ?_ k1.sz
    (by show _ < (s1.heap.push _).objs.size; rw [Heap.size_push]; exact Nat.lt_succ_self _) (fun i h h' st' kk => kk _ _ (.inl rfl) st') (fun i h st' => isIt_range st') (c1.moreI _ _) ?_
  · refine wpAny_pyNext_range_item st' (by lia) fun h' h1 h2 => hQ _ h' _ ⟨_, rfl⟩ ?_ h2
    have e1 : lo + ((i + 1 : Nat) : Int) * st = lo + (i : Int) * st + st := by push_cast; rw [Int.add_mul]; lia
    have e2 : (ds.length : Int) - ((i + 1 : Nat) : Int) = (ds.length : Int) - i - 1 := by lia
    rw [e1, e2]
    exact h1
  · exact stop_range r.hand st' (by lia) hQ
  · show IsRangeIter _ _ _ _ _
    have e1 : lo + ((0 : Nat) : Int) * st = lo := by simp
    have e2 : (ds.length : Int) - ((0 : Nat) : Int) = Builtin.Range.rangeSize lo hi st := by rw [hsz]; simp
    rw [e1, e2]
    exact Heap.get?_push_size _ rfl
  · rintro i v hi ⟨t, rfl⟩
    exact ⟨_, hds i hi, .int _ _⟩

theorem pw_range1 {f : Str} {np pos : Pos} {e : Expr} {N : Int} (hg : GlobBlt B f (.type "range")) (hk : sc.names.lookup f = some .globalImplicit) (h : PE prog w B n sc ρ e (.int N)) (h0 : 0 ≤ N) (hN : N ≤ 100000000)
    (he : ∀ env, starEach [e] env = [(false, eval e env)] := by intro _; with_unfolding_all rfl) (hd : (f == ("__debug__" : Str)) = false := by decide +kernel) :
    PW prog w B n sc ρ (.Call (.Name f np) [e] [] pos) ((List.range N.toNat).map fun (i : Nat) => .int (i : Int)) := fun A env E s X Q r o c v k => by
  refine wpAny_Call_NameR (name_builtin o c hk hg ?_ hd)
  have hs : backTo pos (starEach [e] env) = [(false, eval e env)] := by rw [he env]; rfl
  rw [hs]
  refine PyProof.Rows.callWith_type rfl (Calls.evalArgs_plain (Calls.spliced_cons (h A env E s X _ r o c v fun u s1 k1 t1 => Calls.spliced_nil ?_)))
  cases t1 using Tl.intE with
  | int tk =>
    refine call_range_1 ?_
    have k2 : Ks X s { s1 with heap := s1.heap.push { cls := .type "range", data := .fields #[.int 0 s1.toks, .int N tk, .int 1 (s1.toks + 1)] }, toks := s1.toks + 1 + 1 } := k1.trans (Ks.push s1 _ _)
    refine pw_range_core r k2 (k2.cx c) (IsRange.new ..) (small_one (by decide) (by decide) (by lia) (by lia)) ?_ ?_ k
    · rw [rangeSize_one, List.length_map, List.length_range]; split <;> grind
    · intro i hi
      rw [List.length_map, List.length_range] at hi
      simp [hi]

theorem pw_range3 {f : Str} {np pos : Pos} {e1 e2 e3 : Expr} {lo hi st : Int} (hg : GlobBlt B f (.type "range")) (hk : sc.names.lookup f = some .globalImplicit) (h1 : PE prog w B n sc ρ e1 (.int lo)) (h2 : PE prog w B n sc ρ e2 (.int hi)) (h3 : PE prog w B n sc ρ e3 (.int st))
    (hl : -1000000 ≤ lo ∧ lo ≤ 1000000) (hh : -1000000 ≤ hi ∧ hi ≤ 1000000) (hst : st = -1)
    (he : ∀ env, starEach [e1, e2, e3] env = [(false, eval e1 env), (false, eval e2 env), (false, eval e3 env)] := by intro _; with_unfolding_all rfl) (hd : (f == ("__debug__" : Str)) = false := by decide +kernel) :
    PW prog w B n sc ρ (.Call (.Name f np) [e1, e2, e3] [] pos) ((List.range (lo - hi).toNat).map fun (i : Nat) => .int (lo - i)) := fun A env E s X Q r o c v k => by
  subst hst
  refine wpAny_Call_NameR (name_builtin o c hk hg ?_ hd)
  have hs : backTo pos (starEach [e1, e2, e3] env) = [(false, eval e1 env), (false, eval e2 env), (false, eval e3 env)] := by rw [he env]; rfl
  rw [hs]
  refine PyProof.Rows.callWith_type rfl (Calls.evalArgs_plain (Calls.spliced_cons (h1 A env E s X _ r o c v fun u s1 k1 t1 => Calls.spliced_cons (h2 A env E s1 X _ r o (k1.cx c) (k1.vs c v) fun u2 s2 k2 t2 =>
    Calls.spliced_cons (h3 A env E s2 X _ r o (k2.cx (k1.cx c)) (k2.vs (k1.cx c) (k1.vs c v)) fun u3 s3 k3 t3 => Calls.spliced_nil ?_)))))
  have kk := (k1.trans k2).trans k3
  cases t1 using Tl.intE with
  | int tk =>
  cases t2 using Tl.intE with
  | int tk2 =>
  cases t3 using Tl.intE with
  | int tk3 =>
    refine call_range_3 (by decide) ?_
    have k4 : Ks X s { s3 with heap := s3.heap.push { cls := .type "range", data := .fields #[.int lo tk, .int hi tk2, .int (-1) tk3] } } := kk.trans (Ks.push s3 _ _)
    refine pw_range_core r k4 (k4.cx c) (IsRange.new ..) (small_any hl hh (.inr rfl)) ?_ ?_ k
    · rw [List.length_map, List.length_range]; unfold Builtin.Range.rangeSize; simp; split <;> grind
    · intro i hi
      rw [List.length_map, List.length_range] at hi
      simp [hi]; lia
end
end Mine
end

section
open PySem PySem.W PySem.Calls PyProof.Rows
set_option Elab.async false
set_option linter.unusedVariables false
set_option linter.unusedSectionVars false
set_option maxRecDepth 10000
namespace Mine
variable [Star]

theorem execs_app (env : Env) (rest : List Stmt) : ∀ ss : List Stmt, execs (ss ++ rest) env = (do match ← execs ss env with | .next => execs rest env | f => pure f)
  | [] => by
    show execs rest env = (do let f ← (pure .next : Sem Flow); match f with | .next => execs rest env | f => pure f)
    rw [pure_bind]
  | st :: ss => by
    rw [List.cons_append, execs_cons, execs_cons, bind_assoc]
    refine congrArg (exec st env >>= ·) (funext fun f => ?_)
    cases f with
    | next => exact execs_app env rest ss
    | brk => rw [pure_bind]
    | cont => rw [pure_bind]
    | ret v => rw [pure_bind]

section
variable {prog : Program} {w : World} {B : Heap} {n : Nat} {sc : Scope} {ρ : Rho}

theorem wp_app {A : Around} {E : Value → Shared → Prop} {s : Shared} {env : Env} {ss rest : List Stmt} {Q : Flow → Shared → Prop}
    (h : wpAny (model prog w) A (execs ss env) (fun f s' => match f with | .next => wpAny (model prog w) A (execs rest env) Q E s' | f => Q f s') E s) : wpAny (model prog w) A (execs (ss ++ rest) env) Q E s := fun Γ p hΓ => by
  rw [execs_app, Sem.wp_bind']
  refine Sem.wp_mono _ Γ _ (fun f p' s' h' => ?_) (fun _ _ _ h' => h') _ _ (h Γ p hΓ)
  cases f <;> first | exact h' Γ p' hΓ | exact h'
theorem wp_one {A : Around} {E : Value → Shared → Prop} {s : Shared} {env : Env} {st : Stmt} {Q : Flow → Shared → Prop} (h : wpAny (model prog w) A (execs [st] env) Q E s) : wpAny (model prog w) A (exec st env) Q E s := fun Γ p hΓ => by
  have h' := h Γ p hΓ
  rw [execs_cons, Sem.wp_bind'] at h'
  refine Sem.wp_mono _ Γ _ (fun fl p' s' q => ?_) (fun _ _ _ q => q) _ _ h'
  cases fl <;> exact q

theorem px_nil {R : Post} (h : R.nx ρ) : PX prog w B n sc ρ [] R := fun A env E s X Q r o f k => wpAny_execs_nil (k _ _ X (Tn.refl s) (fun _ h => h) (fun _ h => .inl h) ⟨ρ, h, f, OwnIn.refl ρ s⟩)

theorem PX.mono {ss : List Stmt} {R R' : Post} (h : PX prog w B n sc ρ ss R) (a : ∀ ρ, R.nx ρ → R'.nx ρ) (b : ∀ ρ, R.ct ρ → R'.ct ρ) (c : ∀ ρ, R.bk ρ → R'.bk ρ) (d : ∀ x, R.rt x → R'.rt x) : PX prog w B n sc ρ ss R' := fun A env E s X Q r o f k =>
  h A env E s X Q r o f fun fl s' X' t x1 x2 ok => k fl s' X' t x1 x2 (by
    cases fl with
    | next => obtain ⟨ρ, p, q⟩ := ok; exact ⟨ρ, a ρ p, q⟩
    | cont => obtain ⟨ρ, p, q⟩ := ok; exact ⟨ρ, b ρ p, q⟩
    | brk => obtain ⟨ρ, p, q⟩ := ok; exact ⟨ρ, c ρ p, q⟩
    | ret v => obtain ⟨x, Y, p, q⟩ := ok; exact ⟨x, Y, d x p, q⟩)

theorem px_then {R : Post} {P : Rho → Prop} {rest : List Stmt} {A : Around} {env : Env} {E : Value → Shared → Prop} {s : Shared} {X : Nat → Prop} {Q : Flow → Shared → Prop} (h2 : ∀ ρ1, P ρ1 → PX prog w B n sc ρ1 rest R) (rm : Room n A) (o : Eo sc env) (f : Fs B env X s ρ)
    (k : ∀ fl s' X', Tn (Mut env ρ) s s' → (∀ b, X b → X' b) → (∀ b, X' b → X b ∨ s.heap.objs.size ≤ b) → R.ok B env ρ X X' s fl s' → Q fl s') {fl : Flow} {s1 : Shared} {X1 : Nat → Prop} (t1 : Tn (Mut env ρ) s s1) (x1 : ∀ b, X b → X1 b) (x2 : ∀ b, X1 b → X b ∨ s.heap.objs.size ≤ b)
    (ok : (R.to P).ok B env ρ X X1 s fl s1) : match (generalizing := false) fl with | .next => wpAny (model prog w) A (execs rest env) Q E s1 | f => Q f s1 := by
  cases fl with
  | next =>
    obtain ⟨ρ1, p1, f1, oi⟩ := ok
    exact h2 ρ1 p1 A env E s1 X1 Q rm o f1 fun fl s2 X2 t2 y1 y2 ok2 => k fl s2 X2 (t1.trans t2 fun b m => Mut.le oi m) (fun b h => y1 b (x1 b h))
      (fun b h => (y2 b h).elim (x2 b) fun z => .inr (Nat.le_trans t1.sz z)) (ok2.step x1 f.cx.xlt oi t1.sz)
  | brk => exact k _ _ X1 t1 x1 x2 ok
  | cont => exact k _ _ X1 t1 x1 x2 ok
  | ret v => exact k _ _ X1 t1 x1 x2 ok

theorem px_app {ss rest : List Stmt} {R : Post} (P : Rho → Prop) (h1 : PX prog w B n sc ρ ss (R.to P)) (h2 : ∀ ρ1, P ρ1 → PX prog w B n sc ρ1 rest R) : PX prog w B n sc ρ (ss ++ rest) R := fun A env E s X Q rm o f k =>
  wp_app (h1 A env E s X _ rm o f fun fl s1 X1 t1 x1 x2 ok => px_then h2 rm o f k t1 x1 x2 ok)
theorem px_cons {st : Stmt} {rest : List Stmt} {R : Post} (P : Rho → Prop) (h1 : PX prog w B n sc ρ [st] (R.to P)) (h2 : ∀ ρ1, P ρ1 → PX prog w B n sc ρ1 rest R) : PX prog w B n sc ρ (st :: rest) R := px_app (ss := [st]) P h1 h2
theorem px_line {st : Stmt} {R : Post} (h : ∀ (A : Around) (env : Env) (E : Value → Shared → Prop) (s : Shared) (X : Nat → Prop) (Q : Flow → Shared → Prop),
    Room n A → Eo sc env → Fs B env X s ρ → (∀ fl s' X', Tn (Mut env ρ) s s' → (∀ b, X b → X' b) → (∀ b, X' b → X b ∨ s.heap.objs.size ≤ b) → R.ok B env ρ X X' s fl s' → Q fl s') → wpAny (model prog w) A (exec st env) Q E s) : PX prog w B n sc ρ [st] R := fun A env E s X Q rm o f k => by
  refine wpAny_execs_cons (h A env E s X _ rm o f fun fl s' X' t x1 x2 ok => ?_)
  cases fl with
  | next => exact wpAny_execs_nil (k _ _ X' t x1 x2 ok)
  | brk => exact k _ _ X' t x1 x2 ok
  | cont => exact k _ _ X' t x1 x2 ok
  | ret v => exact k _ _ X' t x1 x2 ok
theorem px_step {st : Stmt} {rest : List Stmt} {R : Post} {ρ1 : Rho} (h : ∀ (A : Around) (env : Env) (E : Value → Shared → Prop) (s : Shared) (X : Nat → Prop) (Q : Flow → Shared → Prop),
    Room n A → Eo sc env → Fs B env X s ρ → (∀ s', Tn (Mut env ρ) s s' → OwnIn ρ ρ1 s → Fs B env X s' ρ1 → Q .next s') → wpAny (model prog w) A (exec st env) Q E s) (h2 : PX prog w B n sc ρ1 rest R) : PX prog w B n sc ρ (st :: rest) R :=
  px_cons (· = ρ1) (px_line fun A env E s X Q rm o f k => h A env E s X Q rm o f fun s' t oi f1 => k _ _ X t (fun _ h => h) (fun _ h => .inl h) ⟨ρ1, rfl, f1, oi⟩) (by rintro _ rfl; exact h2)

theorem Rho.set_own {ρ : Rho} {x : Str} {d : D} (s : Shared) : OwnIn ρ (ρ.set x d) s := fun p hp => .inl ⟨p, (List.mem_filter.mp hp).1, rfl⟩

theorem px_return {e : Expr} {pos} {d : D} {rest : List Stmt} {R : Post} (h : PE prog w B n sc ρ e d) (hr : R.rt d) : PX prog w B n sc ρ (.Return (some e) pos :: rest) R :=
  px_cons (fun _ => False) (px_line fun A env E s X Q rm o f k =>
    wpAny_Return_some (h A env E s X _ rm o f.cx f.vs fun v s1 k1 t1 => k _ _ X k1.tn (fun _ h => h) (fun _ h => .inl h) ⟨d, X, hr, t1, (k1.cx f.cx).ti, (k1.cx f.cx).gn, fun b hb => .inr hb⟩)) (fun _ h => h.elim)

noncomputable def AS (prog : Program) (w : World) (B : Heap) (n : Nat) (sc : Scope) (t : Expr) (d : D) (g : Rho → Rho) : Prop :=
  ∀ (A : Around) (env : Env) (E : Value → Shared → Prop) (s : Shared) (X : Nat → Prop) (Q : Unit → Shared → Prop) (ρ : Rho) (v : Value), Room n A → Eo sc env → Fs B env X s ρ → Tl s.heap X v d →
    (∀ s', Tn (Mut env ρ) s s' → OwnIn ρ (g ρ) s → Fs B env X s' (g ρ) → Q () s') → wpAny (model prog w) A (assign t env v) Q E s
theorem as_name {x : Str} {px : Pos} {d : D} (hx : sc.names.lookup x = some .local ∨ sc.names.lookup x = some .cell) (hd : (x == ("__debug__" : Str)) = false) (hc : (x == ("__classdict__" : Str)) = false) : AS prog w B n sc (.Name x px) d (·.set x d) := fun A env E s X Q ρ v r o f t k =>
  wpAny_assign_Name (store_name o f hx t hd hc fun s' f' tn => k s' tn (Rho.set_own s) f')

theorem px_assign {x : Str} {e : Expr} {p pos : Pos} {d : D} {rest : List Stmt} {R : Post} (he : PE prog w B n sc ρ e d) (hx : sc.names.lookup x = some .local ∨ sc.names.lookup x = some .cell)
    (hs : ∀ env, Eo sc env → swapsWith e (some (.Name x p)) pos.line env = pure false) (hd : (x == ("__debug__" : Str)) = false) (hc : (x == ("__classdict__" : Str)) = false)
    (h2 : PX prog w B n sc (ρ.set x d) rest R) : PX prog w B n sc ρ (.Assign [.Name x p] e pos :: rest) R := px_step (fun A env E s X Q rm o f k =>
  wpAny_Assign_Name (he A env E s X _ rm o f.cx f.vs fun v s1 k1 t1 => store_name o (k1.fs f) hx t1 hd hc fun s2 f2 t2 =>
    k _ (k1.tn.trans t2 fun b m => .inl m) (Rho.set_own s) f2) (hs env o)) h2

theorem execs_if (env : Env) {t : Expr} {body orelse rest : List Stmt} {pos : Pos} : execs (.If t body orelse pos :: rest) env = (do standAt pos; let b ← PySem.isTrue t env (eval t env); execs ((if b then body else orelse) ++ rest) env) := by
  rw [execs_cons]
  show (do let f ← (do standAt pos; let b ← PySem.isTrue t env (eval t env); if b then execs body env else execs orelse env); match f with | .next => execs rest env | f => pure f) = _
  rw [bind_assoc]
  refine congrArg (standAt pos >>= ·) (funext fun _ => ?_)
  rw [bind_assoc]
  refine congrArg (PySem.isTrue t env (eval t env) >>= ·) (funext fun b => ?_)
  cases b
  · exact (execs_app env rest orelse).symm
  · exact (execs_app env rest body).symm

theorem px_if {t : Expr} {body orelse rest : List Stmt} {pos} {R : Post} {b : Bool} (ht : PT prog w B n sc ρ t b) (h : PX prog w B n sc ρ ((if b then body else orelse) ++ rest) R) : PX prog w B n sc ρ (.If t body orelse pos :: rest) R := fun A env E s X Q rm o f k => by
  rw [execs_if]
  refine wpAny_bind (wpAny_standAt (wpAny_bind (ht A env E s X _ rm o f.cx f.vs fun s1 k1 => ?_)))
  exact h A env E s1 X Q rm o (k1.fs f) fun fl s2 X2 t2 x1 x2 ok => k fl s2 X2 (k1.tn.trans t2 fun b m => .inl m) x1 (fun b hb => (x2 b hb).imp_right fun z => Nat.le_trans k1.sz z) (ok.step (fun _ h => h) f.cx.xlt (OwnIn.refl ρ s) k1.sz)
theorem px_cont {R : Post} {pos} {rest : List Stmt} (h : R.ct ρ) : PX prog w B n sc ρ (.Continue pos :: rest) R := fun A env E s X Q rm o f k =>
  wpAny_execs_cons (by
    show wpAny _ _ (do standAt pos; pure Flow.cont) _ _ _
    exact wpAny_bind (wpAny_standAt (wpAny_pure (k .cont s X (Tn.refl s) (fun _ h => h) (fun _ h => .inl h) ⟨ρ, h, f, OwnIn.refl ρ s⟩))))
theorem px_brk {R : Post} {pos} {rest : List Stmt} (h : R.bk ρ) : PX prog w B n sc ρ (.Break pos :: rest) R := fun A env E s X Q rm o f k =>
  wpAny_execs_cons (by
    show wpAny _ _ (do standAt pos; pure Flow.brk) _ _ _
    exact wpAny_bind (wpAny_standAt (wpAny_pure (k .brk s X (Tn.refl s) (fun _ h => h) (fun _ h => .inl h) ⟨ρ, h, f, OwnIn.refl ρ s⟩))))

theorem Fs.up {env : Env} {X X' : Nat → Prop} {s s' : Shared} (f : Fs B env X s ρ) (kp : ∀ b o, b ≠ Mine.tb → s.heap.get? b = some o → s'.heap.get? b = some o) (c' : Cx B X' s') (x1 : ∀ b, X b → X' b) (x2 : ∀ b, X' b → X b ∨ s.heap.objs.size ≤ b) : Fs B env X' s' ρ := by
  have tl : ∀ {v d}, Tl s.heap X v d → Tl s'.heap X' v d := fun t => t.move (fun b o nb e => kp b o (fun z => nb (z ▸ f.cx.tb)) e) x2
  refine ⟨c', ⟨fun y d e => ?_, fun p hp => ?_⟩, x1 _ f.lx, f.ln, let ⟨m, hm⟩ := f.lm; ⟨m, hm.at' fun o e => kp _ o f.ln e⟩, fun y c e => ?_, f.inj, f.dis⟩
  · obtain ⟨a, b1⟩ := f.vs.nm y d e
    refine ⟨?_, b1⟩
    rcases a with ⟨a1, a2, m, u, a3, a4, a5⟩ | ⟨c, u, a1, a2, a3, a4, a5⟩
    · exact .inl ⟨a1, a2, m, u, a3.at' fun o e => kp _ o a2 e, a4, tl a5⟩
    · exact .inr ⟨c, u, a1, a2, a3, let ⟨ob, e1, e2⟩ := a4; ⟨ob, kp _ ob a3 e1, e2⟩, tl a5⟩
  · obtain ⟨⟨q1, q2, us, q3, q4, q5⟩, q6⟩ := f.vs.own p hp
    exact ⟨⟨x1 _ q1, q2, us, q3.at fun ob e => kp _ ob q2 e, q4, q5.move (fun b o nb e => kp b o (fun z => nb (z ▸ f.cx.tb)) e) x2⟩, q6⟩
  · obtain ⟨q1, q2, u, ob, e1, e2⟩ := f.cel y c e
    exact ⟨x1 _ q1, q2, u, ob, kp _ ob q2 e1, e2⟩
theorem Fs.turn {env : Env} {X X' : Nat → Prop} {s s' : Shared} {I : Nat} (f : Fs B env X s ρ) (kp : ∀ b o, b ≠ I → s.heap.get? b = some o → s'.heap.get? b = some o) (hI : X I) (c' : Cx B X' s') (x1 : ∀ b, X' b → X b) (x2 : ∀ b, X b → b ≠ I → X' b)
    (nl : env.locals ≠ I) (nc : ∀ x c, env.cells.lookup x = some c → c ≠ I) (no : ∀ p ∈ ρ.own, p.2.1 ≠ I) (tl : ∀ {v d}, Tl s.heap X v d → Tl s'.heap X' v d) : Fs B env X' s' ρ := by
  refine ⟨c', ⟨fun y d e => ?_, fun p hp => ?_⟩, x2 _ f.lx nl, f.ln, let ⟨m, hm⟩ := f.lm; ⟨m, hm.at' fun o e => kp _ o nl e⟩, fun y c e => ?_, f.inj, f.dis⟩
  · obtain ⟨a, b1⟩ := f.vs.nm y d e
    refine ⟨?_, b1⟩
    rcases a with ⟨a1, a2, m, u, a3, a4, a5⟩ | ⟨c, u, a1, a2, a3, a4, a5⟩
    · exact .inl ⟨a1, a2, m, u, a3.at' fun o e => kp _ o nl e, a4, tl a5⟩
    · exact .inr ⟨c, u, a1, a2, a3, let ⟨ob, e1, e2⟩ := a4; ⟨ob, kp _ ob (nc y c a2) e1, e2⟩, tl a5⟩
  · obtain ⟨⟨q1, q2, us, q3, q4, q5⟩, q6⟩ := f.vs.own p hp
    refine ⟨⟨x2 _ q1 (no p hp), q2, us, q3.at fun ob e => kp _ ob (no p hp) e, q4, ?_⟩, q6⟩
    have key : ∀ {vs : List Value} {ds : List D}, Tls s.heap X vs ds → Tls s'.heap X' vs ds := by
      intro vs ds t
      exact t.move (fun b o nb e => kp b o (fun z => nb (z ▸ hI)) e) fun b q => .inl (x1 b q)
    exact key q5
  · obtain ⟨q1, q2, u, ob, e1, e2⟩ := f.cel y c e
    exact ⟨x2 _ q1 (nc y c e), q2, u, ob, kp _ ob (nc y c e) e1, e2⟩
end
end Mine
end

section
open PySem PySem.W PySem.Calls PyProof.Rows
set_option Elab.async false
set_option linter.unusedVariables false
set_option linter.unusedSectionVars false
set_option maxRecDepth 10000
namespace Mine
variable [Star]

section
variable {prog : Program} {w : World} {B : Heap} {n : Nat} {sc : Scope} {ρ : Rho}

theorem lotg {A : Around} {E : Value → Shared → Prop} {s : Shared} {t : Expr} {I : Nat} {v : Value} {Q : Unit → Shared → Prop} (h : IsIt s.heap I) (hQ : Q () s) : wpAny (model prog w) A (letOwnedTupleGo t (.ref I) v) Q E s := by
  obtain ⟨o, vs, T, h1, h2, h3, h4⟩ := h
  have key : wpAny (model prog w) A (do
      let (.ref r, .ref a) := ((Value.ref I), v) | return
      let o ← load r
      match o.cls, o.data with
      | .type n, .fields vs =>
        if ["enumerate", "zip", "dict_itemiterator", "dict_reverseitemiterator", "odict_iterator", "itertools.zip_longest", "itertools.pairwise"].contains n && vs[0]? == some (rawInt a) then
          rule "for.unpacks-the-owned-tuple"
          updateField r 0 .none
      | _, _ => pure ()) Q E s := by
    cases v with
    | ref a =>
      refine wpAny_bind (wpAny_load h1 ?_)
      rw [h2, h3]
      dsimp only
      rw [h4]
      exact wpAny_pure hQ
    | _ => exact wpAny_pure hQ
  cases t <;> first | exact key | exact wpAny_pure hQ

theorem Mut.inX {env : Env} {X : Nat → Prop} {s : Shared} (f : Fs B env X s ρ) {b : Nat} (m : Mut env ρ b) : X b := by
  rcases m with rfl | ⟨y, e⟩ | ⟨p, hp, rfl⟩
  · exact f.lx
  · exact (f.cel y b e).1
  · exact (f.vs.own p hp).1.1

theorem px_for {t iter : Expr} {body rest : List Stmt} {pos : Pos} {R : Post} {ds : List D} {P : Rho → Prop} (Inv : Nat → Rho → Prop) (g : D → Rho → Rho) (hsrc : PW prog w B n sc ρ iter ds)
    (ht : ∀ d ∈ ds, AS prog w B n sc t d (g d)) (hb : ∀ i d ρ', ds[i]? = some d → Inv i ρ' → PX prog w B n sc (g d ρ') body { nx := Inv (i + 1), ct := Inv (i + 1), bk := P, rt := R.rt }) (h0 : Inv 0 ρ)
    (hend : ∀ ρ', Inv ds.length ρ' → P ρ') (h2 : ∀ ρ1, P ρ1 → PX prog w B n sc ρ1 rest R) (hs : ∀ env x, foldedSetIterable iter env x = pure x := by intro _ _; with_unfolding_all rfl) : PX prog w B n sc ρ (.For t iter body [] pos :: rest) R := by
  refine px_cons P (px_line fun A env E s X Q rm o f k => ?_) h2
  refine wpAny_For (hsrc A env E s X _ rm o f.cx f.vs fun I P0 St s2 k2 W st hI1 hI2 hfr hit c2 hP => ?_) (hs env)
  have hXs : ∀ b, X b → b < s.heap.objs.size := f.cx.xlt
  have f2 : Fs B env (fun b => X b ∨ b = I) s2 ρ := f.up k2.kp c2 (fun _ h => .inl h) (fun b h => h.imp_right fun (e : b = I) => by rw [e]; exact hI1)
  have nl : env.locals ≠ I := fun e => by have h := hXs _ f.lx; rw [e] at h; lia
  have nc : ∀ x c, env.cells.lookup x = some c → c ≠ I := fun x c e q => by have h := hXs _ (f.cel x c e).1; rw [q] at h; lia
  have nt : I ≠ tb := fun e => by have := hXs _ f.cx.tb; lia
  have nm : ¬ Mut env ρ I := fun m => by have := hXs _ (Mut.inX f m); lia
  let J : Nat → Shared → Prop := fun i s' => i ≤ ds.length ∧ St i s'.heap ∧ ∃ ρ' X', Inv i ρ' ∧ Fs B env X' s' ρ' ∧ OwnIn ρ ρ' s2 ∧ Tn (fun b => Mut env ρ b ∨ b = I) s2 s' ∧ (∀ b, (X b ∨ b = I) → X' b) ∧ ∀ b, X' b → (X b ∨ b = I) ∨ s2.heap.objs.size ≤ b
  refine codeAny_forLoop_any (fun m s' => ∃ i, J i s' ∧ m = ds.length + 1 - i) ?_ (ds.length + 1) ⟨0, ⟨Nat.zero_le _, st, ρ, _, h0, f2, OwnIn.refl _ _, Tn.refl _, fun _ h => h, fun _ h => .inl h⟩, rfl⟩
  rintro m s' ⟨i, ⟨hi, hst, ρ', X', hInv, fs', oi, tn, x1, x2⟩, rfl⟩
  have no : ∀ p ∈ ρ'.own, p.2.1 ≠ I := fun p hp e => by
    rcases oi p hp with ⟨q, hq, e2⟩ | z
    · have := hXs _ (f.vs.own q hq).1.1
      lia
    · lia
  have hIX : X' I := x1 I (.inr rfl)
  have tnS : ∀ {s5 : Shared}, Tn (fun b => Mut env ρ b ∨ b = I) s2 s5 → Tn (Mut env ρ) s s5 := fun t => k2.tn.trans t fun b m => m.imp_right fun (e : b = I) => by rw [e]; exact hI1
  have xS : ∀ {X5 : Nat → Prop}, (∀ b, X5 b → (X b ∨ b = I) ∨ s2.heap.objs.size ≤ b) → ∀ b, X5 b → X b ∨ s.heap.objs.size ≤ b := fun h b hb => by
    rcases h b hb with (z | z) | z
    · exact .inl z
    · exact .inr (z ▸ hI1)
    · exact .inr (Nat.le_trans k2.sz z)
  by_cases hlt : i < ds.length
  · refine W.item i _ _ _ hlt hst fun u h1 tk1 hPu hst1 hsb => ?_
    obtain ⟨d, hd, htu⟩ := hP i u hlt hPu
    refine lotg (hit _ _ hst1) ?_
    have f1 : Fs B env X' { s' with heap := h1, toks := tk1 } ρ' := fs'.turn (I := I) (fun b o ne e => hsb.extBut b o ne e) hIX (fs'.cx.same (s' := { s' with heap := h1, toks := tk1 }) hsb hIX nt rfl) (fun _ h => h) (fun _ h _ => h) nl nc no (fun t => t.same hsb hIX)
    have t1 : Tn (fun b => b = I) s' { s' with heap := h1, toks := tk1 } := Tn.same (M := fun b => b = I) (s' := { s' with heap := h1, toks := tk1 }) rfl hsb rfl rfl
    have htu' : Tl h1 X' u d := htu.move (fun b ob nb e => hsb.extBut b ob (fun z => nb (.inr z)) (tn.kp b ob (fun z => nb (z.imp_left (Mut.inX f))) (fun z => nb (.inl (z ▸ f.cx.tb))) e)) x2
    refine ht d (List.mem_of_getElem? hd) A env _ _ X' _ ρ' u rm o f1 htu' fun s4 t4 oi4 f4 => ?_
    refine hb i d ρ' hd hInv A env _ s4 X' _ rm o f4 fun fl s5 X5 t5 y1 y2 ok => ?_
    have sz1 : s2.heap.objs.size ≤ h1.objs.size := Nat.le_trans tn.sz t1.sz
    have sz4 : s2.heap.objs.size ≤ s4.heap.objs.size := Nat.le_trans sz1 t4.sz
    have m1 : ∀ b, Mut env ρ' b → (Mut env ρ b ∨ b = I) ∨ s2.heap.objs.size ≤ b := fun b m => (Mut.le oi m).imp_left .inl
    have m4 : ∀ b, Mut env (g d ρ') b → (Mut env ρ b ∨ b = I) ∨ s2.heap.objs.size ≤ b := fun b m => (Mut.le oi4 m).elim (m1 b) fun z => .inr (Nat.le_trans sz1 z)
    have t14 : Tn (fun b => Mut env ρ b ∨ b = I) s2 s4 := (tn.trans t1 fun b m => .inl (.inr m)).trans t4 m1
    have tn5 : Tn (fun b => Mut env ρ b ∨ b = I) s2 s5 := t14.trans t5 m4
    have oi4' : OwnIn ρ (g d ρ') s2 := oi.trans oi4 sz1
    have xx1 : ∀ b, (X b ∨ b = I) → X5 b := fun b h => y1 b (x1 b h)
    have xx2 : ∀ b, X5 b → (X b ∨ b = I) ∨ s2.heap.objs.size ≤ b := fun b h => (y2 b h).elim (x2 b) fun z => .inr (Nat.le_trans sz4 z)
    have fin : (∃ ρ5, Inv (i + 1) ρ5 ∧ Fs B env X5 s5 ρ5 ∧ OwnIn (g d ρ') ρ5 s4) → ∃ m', m' < ds.length + 1 - i ∧ ∃ j, J j s5 ∧ m' = ds.length + 1 - j := by
      rintro ⟨ρ5, p5, f5, oi5⟩
      refine ⟨ds.length + 1 - (i + 1), by grind, i + 1, ⟨hlt, hfr _ _ _ hst1 fun b ob hb e => ?_, ρ5, X5, p5, f5, oi4'.trans oi5 sz4, tn5, xx1, xx2⟩, rfl⟩
      have hb2 : ¬ Mut env ρ b ∧ b < s2.heap.objs.size ∧ b ≠ tb := by
        rcases hb with rfl | ⟨q1, q2⟩
        · exact ⟨nm, hI2, nt⟩
        · exact ⟨fun m => q1 (Mut.inX f m), q2, fun z => q1 (z ▸ f.cx.tb)⟩
      have e4 := t4.kp b ob (fun m => (Mut.le oi m).elim hb2.1 fun z => by have := hb2.2.1; lia) hb2.2.2 e
      refine t5.kp b ob (fun m => ?_) hb2.2.2 e4
      rcases Mut.le oi4 m with m | z
      · exact (Mut.le oi m).elim hb2.1 fun z => by have := hb2.2.1; lia
      · have := hb2.2.1
        have z' : h1.objs.size ≤ b := z
        lia
    cases fl with
    | next => exact fin ok
    | cont => exact fin ok
    | brk =>
      obtain ⟨ρ5, p5, f5, oi5⟩ := ok
      have oo : OwnIn ρ ρ5 s2 := oi4'.trans oi5 sz4
      exact k .next s5 X5 (tnS tn5) (fun b h => xx1 b (.inl h)) (xS xx2) ⟨ρ5, p5, f5, fun p hp => (oo p hp).imp_right fun z => Nat.le_trans k2.sz z⟩
    | ret v =>
      obtain ⟨x, Y, a, b, c, e, hh⟩ := ok
      refine k (.ret v) s5 X5 (tnS tn5) (fun b h => xx1 b (.inl h)) (xS xx2) ⟨x, Y, a, b, c, e, fun b hb => ?_⟩
      rcases hh b (x1 b (.inl hb)) with ⟨p, hp, q⟩ | z
      · rcases oi4' p hp with ⟨r, hr, e2⟩ | z
        · exact .inl ⟨r, hr, e2.trans q⟩
        · have := hXs b hb
          have := k2.sz
          rw [q] at z
          grind
      · exact .inr z
  · have hin : i = ds.length := by lia
    subst hin
    refine W.done _ _ _ hst fun h' he hsz => ?_
    refine wpAny_execs_nil ?_
    have cE : Cx B (fun b => X' b ∧ b ≠ I) { s' with heap := h' } := by
      refine ⟨fun b ob e => he b ob (fun z => ?_) (fs'.cx.base b ob e), fun b q => Nat.lt_of_lt_of_le (fs'.cx.xlt b q.1) hsz, fun b q => fs'.cx.xb b q.1, ⟨fs'.cx.tb, Ne.symm nt⟩, fs'.cx.ti.move (fun b ob q e => he b ob (fun z => ?_) e) fun b q => .inl q.1, fs'.cx.gn⟩
      · have := fs'.cx.xb I hIX
        rw [z] at e
        rw [this] at e; cases e
      · rcases q with q | q
        · exact q (z ▸ hIX)
        · exact nt (z.symm.trans q)
    have fE : Fs B env (fun b => X' b ∧ b ≠ I) { s' with heap := h' } ρ' := fs'.turn (I := I) (fun b o ne e => he b o ne e) hIX cE (fun _ h => h.1) (fun _ h ne => ⟨h, ne⟩) nl nc no
      (fun t => t.move (fun b ob nb e => he b ob (fun z => nb (z ▸ hIX)) e) fun b q => .inl q.1)
    have tE : Tn (fun b => Mut env ρ b ∨ b = I) s2 { s' with heap := h' } := tn.trans (M' := fun b => b = I) (s'' := { s' with heap := h' }) ⟨rfl, rfl, fun b ob ne _ e => he b ob ne e, hsz⟩ fun b m => .inl (.inr m)
    refine k .next _ _ (tnS tE) (fun b h => ⟨x1 b (.inl h), fun e => by have := hXs b h; lia⟩) (xS fun b h => x2 b h.1) ⟨ρ', hend ρ' hInv, fE, fun p hp => (oi p hp).imp_right fun z => Nat.le_trans k2.sz z⟩

theorem px_while {t : Expr} {body rest : List Stmt} {pos : Pos} {R : Post} {P : Rho → Prop} (Inv : Nat → Rho → Prop) (N : Nat) (h0 : Inv N ρ)
    (hb : ∀ k ρ', Inv k ρ' → ∃ b, PT prog w B n sc ρ' t b ∧ (b = false → P ρ') ∧ (b = true → PX prog w B n sc ρ' body { nx := fun ρ'' => ∃ j, j < k ∧ Inv j ρ'', ct := fun ρ'' => ∃ j, j < k ∧ Inv j ρ'', bk := P, rt := R.rt }))
    (h2 : ∀ ρ1, P ρ1 → PX prog w B n sc ρ1 rest R) : PX prog w B n sc ρ (.While t body [] pos :: rest) R := by
  refine px_cons P (px_line fun A env E s X Q rm o f k => ?_) h2
  refine wpAny_While ?_
  let J : Nat → Shared → Prop := fun i s' => ∃ ρ' X', Inv i ρ' ∧ Fs B env X' s' ρ' ∧ OwnIn ρ ρ' s ∧ Tn (Mut env ρ) s s' ∧ (∀ b, X b → X' b) ∧ ∀ b, X' b → X b ∨ s.heap.objs.size ≤ b
  refine codeAny_whileLoop J ?_ N ⟨ρ, X, h0, f, OwnIn.refl _ _, Tn.refl _, fun _ h => h, fun _ h => .inl h⟩
  rintro i s' ⟨ρ', X', hInv, fs', oi, tn, x1, x2⟩
  obtain ⟨b, hT, hF, hB⟩ := hb i ρ' hInv
  refine hT A env _ s' X' _ rm o fs'.cx fs'.vs fun s3 k3 => ?_
  have f3 := k3.fs fs'
  have t3 : Tn (Mut env ρ) s s3 := tn.trans k3.tn fun b m => .inl m
  have x2' : ∀ b, X' b → X b ∨ s.heap.objs.size ≤ b := x2
  cases hbb : b with
  | false =>
    simp only [Bool.false_eq_true, if_false]
    refine wpAny_execs_nil ?_
    exact k .next s3 X' t3 x1 x2 ⟨ρ', hF hbb, f3, oi⟩
  | true =>
    simp only [if_true]
    refine hB hbb A env _ s3 X' _ rm o f3 fun fl s5 X5 t5 y1 y2 ok => ?_
    have tn5 : Tn (Mut env ρ) s s5 := t3.trans t5 fun b m => Mut.le oi m
    have xx1 : ∀ b, X b → X5 b := fun b h => y1 b (x1 b h)
    have xx2 : ∀ b, X5 b → X b ∨ s.heap.objs.size ≤ b := fun b h => (y2 b h).elim (x2 b) fun z => .inr (Nat.le_trans t3.sz z)
    have fin : (∃ ρ5, (∃ j, j < i ∧ Inv j ρ5) ∧ Fs B env X5 s5 ρ5 ∧ OwnIn ρ' ρ5 s3) → ∃ m, m < i ∧ J m s5 := by
      rintro ⟨ρ5, ⟨j, hj, p5⟩, f5, oi5⟩
      exact ⟨j, hj, ρ5, X5, p5, f5, oi.trans oi5 t3.sz, tn5, xx1, xx2⟩
    cases fl with
    | next => exact fin ok
    | cont => exact fin ok
    | brk =>
      obtain ⟨ρ5, p5, f5, oi5⟩ := ok
      exact k .next s5 X5 tn5 xx1 xx2 ⟨ρ5, p5, f5, oi.trans oi5 t3.sz⟩
    | ret v => exact k (.ret v) s5 X5 tn5 xx1 xx2 (Post.ok.step (R := { R with nx := P }) (s1 := s3) (fl := .ret v) ok x1 f.cx.xlt oi t3.sz)
end
end Mine
end

section
open PySem PySem.W PySem.Calls PyProof.Rows
set_option Elab.async false
set_option linter.unusedVariables false
set_option linter.unusedSectionVars false
set_option maxRecDepth 10000
namespace Mine
variable [Star]

theorem bindL_keep {kindOf : Str → Option NameKind} {x : Str} : ∀ (binds : List (Str × Value)) (m : Str → Option Value), (∀ p ∈ binds, p.1 ≠ x) → bindL kindOf binds m x = m x
  | [], m, _ => rfl
  | (n, v) :: r, m, h => by
    show bindL kindOf r _ x = _
    rw [bindL_keep r _ fun p hp => h p (.tail _ hp)]
    have hn : n ≠ x := h (n, v) (.head _)
    by_cases hk : kindOf n = some .local
    · rw [if_pos hk]; exact if_neg (Ne.symm hn)
    · rw [if_neg hk]
theorem bindL_get {kindOf : Str → Option NameKind} {x : Str} {v : Value} (hk : kindOf x = some .local) : ∀ (binds : List (Str × Value)) (m : Str → Option Value), (binds.Pairwise fun p q => p.1 ≠ q.1) → (x, v) ∈ binds → bindL kindOf binds m x = some v
  | (n, u) :: r, m, hp, h => by
    show bindL kindOf r _ x = _
    cases h with
    | head =>
      rw [bindL_keep r _ fun p hp' => Ne.symm ((List.pairwise_cons.mp hp).1 p hp'), if_pos hk]
      simp
    | tail _ h => exact bindL_get hk r _ (List.pairwise_cons.mp hp).2 h
theorem bindC_keep {kindOf : Str → Option NameKind} {x : Str} : ∀ (binds : List (Str × Value)) (m : Str → Option Value), (∀ p ∈ binds, p.1 ≠ x) → bindC kindOf binds m x = m x
  | [], m, _ => rfl
  | (n, v) :: r, m, h => by
    show bindC kindOf r _ x = _
    rw [bindC_keep r _ fun p hp => h p (.tail _ hp)]
    have hn : n ≠ x := h (n, v) (.head _)
    by_cases hk : kindOf n = some .local
    · rw [if_pos hk]
    · rw [if_neg hk]; exact if_neg (Ne.symm hn)
theorem bindC_get {kindOf : Str → Option NameKind} {x : Str} {v : Value} (hk : kindOf x = some .cell) : ∀ (binds : List (Str × Value)) (m : Str → Option Value), (binds.Pairwise fun p q => p.1 ≠ q.1) → (x, v) ∈ binds → bindC kindOf binds m x = some v
  | (n, u) :: r, m, hp, h => by
    show bindC kindOf r _ x = _
    cases h with
    | head =>
      rw [bindC_keep r _ fun p hp' => Ne.symm ((List.pairwise_cons.mp hp).1 p hp'), if_neg (by rw [hk]; intro e; cases e)]
      simp
    | tail _ h => exact bindC_get hk r _ (List.pairwise_cons.mp hp).2 h

theorem cellsFrom_acc {x : Str} : ∀ (names : List (Str × NameKind)) (k : Nat) (acc : List (Str × Addr)), (acc.lookup x).isSome = true → ((cellsFrom k names acc).lookup x).isSome = true
  | [], k, acc, h => h
  | (y, kd) :: r, k, acc, h => by
    unfold cellsFrom
    by_cases hk : (kd == NameKind.cell) = true
    · rw [if_pos hk]
      refine cellsFrom_acc r _ _ ?_
      rw [List.lookup_cons]
      cases (x == y) <;> simp [h]
    · rw [if_neg hk]; exact cellsFrom_acc r _ _ h
theorem cellsFrom_has {x : Str} : ∀ (names : List (Str × NameKind)) (k : Nat) (acc : List (Str × Addr)), (x, NameKind.cell) ∈ names → ((cellsFrom k names acc).lookup x).isSome = true
  | (y, kd) :: r, k, acc, h => by
    unfold cellsFrom
    by_cases hk : (kd == NameKind.cell) = true
    · rw [if_pos hk]
      cases h with
      | head => exact cellsFrom_acc r _ _ (by rw [List.lookup_cons, beq_self_eq_true]; rfl)
      | tail _ h => exact cellsFrom_has r _ _ h
    · rw [if_neg hk]
      cases h with
      | head => simp at hk
      | tail _ h => exact cellsFrom_has r _ _ h

theorem cellsFrom_none : ∀ (names : List (Str × NameKind)) (k : Nat), names.all (fun y => y.2 != .cell) = true → cellsFrom k names [] = []
  | [], _, _ => rfl
  | (y, kd) :: r, k, h => by
    simp only [List.all_cons, Bool.and_eq_true] at h
    unfold cellsFrom
    rw [if_neg (by have := h.1; simpa using this)]
    exact cellsFrom_none r k h.2

theorem mem_of_lookup' {α : Type} {x : Str} {c : α} {l : List (Str × α)} (h : l.lookup x = some c) : (x, c) ∈ l := by
  induction l with
  | nil => cases h
  | cons p r ih =>
    obtain ⟨y, d⟩ := p
    rw [List.lookup_cons] at h
    by_cases hy : (x == y) = true
    · rw [hy] at h
      cases h
      rw [eq_of_beq hy]; exact .head _
    · have hy2 : (x == y) = false := by simpa using hy
      rw [hy2] at h
      exact .tail _ (ih h)

theorem pair_inj {x y : Str} {c : Nat} {l : List (Str × Nat)} (hp : l.Pairwise (fun x y => x.2 ≠ y.2)) (h1 : (x, c) ∈ l) (h2 : (y, c) ∈ l) : x = y := by
  induction l with
  | nil => exact absurd h1 List.not_mem_nil
  | cons p r ih =>
    have hp' := List.pairwise_cons.mp hp
    rcases List.mem_cons.mp h1 with e1 | h1
    · rcases List.mem_cons.mp h2 with e2 | h2
      · exact congrArg Prod.fst (e1.trans e2.symm)
      · exact (hp'.1 _ h2 (show p.2 = c from congrArg Prod.snd e1.symm)).elim
    · rcases List.mem_cons.mp h2 with e2 | h2
      · exact (hp'.1 _ h1 (show p.2 = c from congrArg Prod.snd e2.symm)).elim
      · exact ih hp'.2 h1 h2

noncomputable def defOk (sc : Scope) (ps : List Str) : Bool :=
  sc.kind == .function && !sc.isCoroutine && !sc.isGenerator && sc.names.all (fun y => y.2 != .free) && ps.all (fun x => (sc.names.lookup x == some .local || sc.names.lookup x == some .cell) && !(x == ("__debug__" : Str)) && !(x == ("__classdict__" : Str)))
    && decide (ps.Pairwise (· ≠ ·)) && sc.names.all (fun y => y.2 != .cell || sc.names.lookup y.1 == some .cell)

theorem zip_pair {ps : List Str} {vs : List Value} (h : ps.Pairwise (· ≠ ·)) : (ps.zip vs).Pairwise fun p q => p.1 ≠ q.1 := by
  induction ps generalizing vs with
  | nil => simp
  | cons p r ih =>
    cases vs with
    | nil => simp
    | cons v vs =>
      rw [List.zip_cons_cons, List.pairwise_cons]
      have h' := List.pairwise_cons.mp h
      refine ⟨fun q hq => h'.1 _ (List.of_mem_zip hq).1, ih h'.2⟩

theorem zip_get {h : Heap} {X : Nat → Prop} {x : Str} {d : D} : ∀ {ps : List (Str × D)} {vs : List Value}, Tls h X vs (ps.map (·.2)) → ps.lookup x = some d → ∃ v, (x, v) ∈ (ps.map (·.1)).zip vs ∧ Tl h X v d
  | [], _, _, e => by cases e
  | (y, d') :: r, v :: vs, t, e => by
    cases t using Tls.consE with
    | cons t1 t2 =>
      rw [List.lookup_cons] at e
      by_cases hy : (x == y) = true
      · rw [hy] at e; cases e
        exact ⟨v, by rw [eq_of_beq hy]; exact .head _, t1⟩
      · have hy2 : (x == y) = false := by simpa using hy
        rw [hy2] at e
        obtain ⟨u, m, t⟩ := zip_get t2 e
        exact ⟨u, .tail _ m, t⟩

section
variable {prog : Program} {w : World} {B : Heap} {n : Nat}

theorem fa_gen {a : Nat} {as : List D} {o : Obj} {fd : FuncData} {body : List Stmt} {ps : List (Str × D)} {d : D} (ho : B.get? a = some o) (hd : o.data = .func fd) (hlim : B.NoLimit) (hcd : B.CodeRec fd.code fd.qualname)
    (hbody : fd.body = .stmts body) (hclo : fd.closure = []) (hg : fd.globals = mainGlobals) (hb : fd.builtins = builtinsNs) (hbind : ∀ (A : Around) (E : Value → Shared → Prop) (s : Shared) (X : Nat → Prop) (vs : List Value) (Q : List (Str × Value) → Shared → Prop), Cx B X s → Tls s.heap X vs as →
      (∀ us s1, Ks X s s1 → us.length = ps.length → Tls s1.heap X us (ps.map (·.2)) → Q ((ps.map (·.1)).zip us) s1) → wpAny (model prog w) A (bindArgs fd ⟨vs, []⟩) Q E s)
    (ok : defOk fd.scope (ps.map (·.1)) = true) (hcd2 : fd.scope.names.lookup ("QUESTION_MARK" : Str) = some .local → fd.code = .ref tc ∧ fd.scope.names.all (fun y => y.2 != .cell) = true)
    (h : PX prog w B n fd.scope { nm := fun x => ps.lookup x } body { nx := fun _ => d = .none, rt := (· = d) }) : FA prog w B (n + 1) a as d := fun A E s0 X Q vs0 r c0 t0 k0 => by
  simp only [defOk, Bool.and_eq_true, Bool.not_eq_true', beq_iff_eq, decide_eq_true_eq] at ok
  obtain ⟨⟨⟨⟨⟨⟨ok1, ok2⟩, ok3⟩, ok4⟩, ok5⟩, ok6⟩, ok7⟩ := ok
  have hps : ∀ x ∈ ps.map (·.1), (fd.scope.names.lookup x = some .local ∨ fd.scope.names.lookup x = some .cell) ∧ (x == ("__debug__" : Str)) = false ∧ (x == ("__classdict__" : Str)) = false := fun x hx => by
    have := List.all_eq_true.mp ok5 x hx
    simpa [and_assoc] using this
  refine wpAny_call (codeAny_call_function (by have := r.depth; lia) (c0.base _ _ ho) hd ok2 ok3 hbody (hcd.keeps c0.base) (hbind _ _ s0 X vs0 _ c0 t0 fun vs s kA hlen t => ?_))
  have c := kA.cx c0
  have k : ∀ v s', Ks X s s' → Tl s'.heap X v d → Q v s' := fun v s' k1 t1 => k0 v s' (kA.trans k1) t1
  have hclt : ∀ x, fd.scope.names.lookup x = some .cell → ((cellsFrom (s.heap.objs.size + 1) fd.scope.names []).lookup x).isSome = true := fun x hx => cellsFrom_has _ _ _ (mem_of_lookup' hx)
  rw [hclo]
  refine wpAny_newFunctionEnv_cells ok1 ?_ fun env0 he0 s₁ x => ?_
  · rintro ⟨x, v⟩ hx
    have := (hps x (List.of_mem_zip hx).1).1
    exact this.imp_right fun e => ⟨e, hclt x e⟩
  · have hlim1 : s₁.heap.NoLimit := (hlim.keeps c.base).keeps x.toInCall.keep
    have he1 : env0 = callEnvC fd s.heap.objs.size a := he0
    subst he1
    refine ⟨hlim1, codeAny_func ?_⟩
    generalize hL : s.heap.objs.size = L at *
    generalize henv : callEnvC fd L a = env at *
    have e1 : env.scope = fd.scope := by subst henv; rfl
    have e2 : env.cells = cellsFrom (L + 1) fd.scope.names [] := by subst henv; rfl
    have e3 : env.locals = L := by subst henv; rfl
    have e4 : env.globals = mainGlobals := by subst henv; exact hg
    have e5 : env.builtins = builtinsNs := by subst henv; exact hb
    have e6 : env.code = fd.code := by subst henv; rfl
    have hkd : ∀ x, env.kindOf x = fd.scope.names.lookup x := fun x => by unfold Env.kindOf; rw [e1]
    obtain ⟨⟨⟨h1, tk1, es⟩, hns, hkeep, hfr⟩, hcell, hap, hab⟩ := x
    have hsz : s.heap.objs.size ≤ s₁.heap.objs.size := by
      have := nsz hns
      rw [e3] at this
      lia
    let Xf : Nat → Prop := fun b => X b ∨ b = env.locals ∨ ∃ y, env.cells.lookup y = some b
    have hXf : ∀ b, Xf b → X b ∨ s.heap.objs.size ≤ b := fun b q => q.imp_right fun q => by
      rcases q with rfl | ⟨y, e⟩
      · assumption
      · have := hab y b (mem_of_lookup' e)
        rw [e3] at this
        have : L < b := this
        lia
    have cf : Cx B Xf s₁ := c.more (fun b q => .inl q) hXf (fun b q => by
      rcases q with q | rfl | ⟨y, e⟩
      · exact Nat.lt_of_lt_of_le (c.xlt b q) hsz
      · exact nsz hns
      · obtain ⟨ob, e1, _⟩ := hcell y b e
        exact ltz e1) hkeep (by rw [es])
    have tbL : tb < L := by have := c.xlt _ c.tb; lia
    have tl : ∀ {v d}, Tl s.heap X v d → Tl s₁.heap Xf v d := fun t => t.move (fun b ob _ e => hkeep b ob e) hXf
    have hpw := zip_pair (vs := vs) ok6
    have eo : Eo fd.scope env := ⟨e1, ok1, e4, e5, fun y hy => by
      rcases hy with hy | hy
      · have := hclt y hy
        rw [← e2] at this
        obtain ⟨cc, hc⟩ := Option.isSome_iff_exists.mp this
        have h2 := hab y cc (mem_of_lookup' hc)
        rw [e3] at h2
        exact ⟨cc, hc, nen (by have : L < cc := h2; lia)⟩
      · have := List.all_eq_true.mp ok4 _ (mem_of_lookup' hy)
        simp at this, fun hq => ⟨by rw [e6]; exact (hcd2 hq).1, by rw [e2]; exact cellsFrom_none _ _ (hcd2 hq).2⟩⟩
    have fs : Fs B env Xf s₁ { nm := fun x => ps.lookup x } := by
      refine ⟨cf, ⟨fun y dd e => ?_, fun p hp => by cases hp⟩, .inr (.inl rfl), by rw [e3]; exact nen (by lia), ⟨_, hns⟩, fun y cc e => ⟨.inr (.inr ⟨y, e⟩), ?_, _, hcell y cc e⟩, fun y z cc hy hz => pair_inj hap (mem_of_lookup' hy) (mem_of_lookup' hz), List.Pairwise.nil⟩
      · have hmem : y ∈ ps.map (·.1) := List.mem_map.mpr ⟨_, mem_of_lookup' e, rfl⟩
        obtain ⟨v, hv, tv⟩ := zip_get t e
        obtain ⟨hk, hd1, hd2⟩ := hps y hmem
        refine ⟨?_, hd1, hd2⟩
        rcases hk with hk | hk
        · exact .inl ⟨(hkd y).trans hk, by rw [e3]; exact nen (by lia), _, v, hns, bindL_get ((hkd y).trans hk) _ _ hpw hv, tl tv⟩
        · have := hclt y hk
          rw [← e2] at this
          obtain ⟨cc, hc⟩ := Option.isSome_iff_exists.mp this
          have h2 := hab y cc (mem_of_lookup' hc)
          rw [e3] at h2
          have hcc := hcell y cc hc
          rw [bindC_get ((hkd y).trans hk) _ _ hpw hv] at hcc
          exact .inr ⟨cc, v, .inl ((hkd y).trans hk), hc, nen (by have : L < cc := h2; lia), hcc, tl tv⟩
      · have h2 := hab y cc (mem_of_lookup' e)
        rw [e3] at h2
        exact nen (by have : L < cc := h2; lia)
    have rm : Room n (A.deeper env) := ⟨by have := r.depth; show A.depth + 1 + n < _; lia, by have := r.units; show A.units + 3 + 10 * n < _; lia, r.hand⟩
    refine h (A.deeper env) env _ s₁ Xf _ rm eo fs fun fl s' X' tn x1 x2 ok => ?_
    have hMut : ∀ b, Mut env { nm := fun x => ps.lookup x } b → s.heap.objs.size ≤ b := fun b m => by
      rcases m with rfl | ⟨y, e⟩ | ⟨p, hp, _⟩
      · assumption
      · have h2 := hab y b (mem_of_lookup' e)
        rw [e3] at h2
        have : L < b := h2
        lia
      · cases hp
    have kp : ∀ b ob, b ≠ tb → s.heap.get? b = some ob → s'.heap.get? b = some ob := fun b ob ne e => tn.kp b ob (fun m => by have := hMut b m; have := ltz e; grind) ne (hkeep b ob e)
    have mk : ∀ (Y : Nat → Prop), (∀ b, X b → Y b) → TI s'.heap Y → AllBare s'.gens → Ks X s s' := fun Y hY ti gn => ⟨tn.os.trans (by rw [es]), tn.dr.trans (by rw [es]), kp, Nat.le_trans hsz tn.sz, fun _ => ti.move (fun _ _ _ e => e) fun b q => .inl (hY b q), fun _ => gn⟩
    have nxt : ∀ {v : Value} {Y : Nat → Prop}, (∀ b, X b → Y b) → TI s'.heap Y → AllBare s'.gens → Tl s'.heap Y v d → Q v s' := fun hY ti gn tv =>
      k _ _ (mk _ hY ti gn) (tv.move (fun _ _ _ e => e) fun b q => .inl (hY b q))
    cases fl with
    | next =>
      obtain ⟨ρ', e, f', _⟩ := ok
      subst e
      exact nxt (fun b q => x1 b (.inl q)) f'.cx.ti f'.cx.gn .none
    | cont => obtain ⟨ρ', e, _⟩ := ok; exact e.elim
    | brk => obtain ⟨ρ', e, _⟩ := ok; exact e.elim
    | ret v =>
      obtain ⟨dd, Y, e, tv, ti, gn, hY⟩ := ok
      subst e
      refine nxt (Y := Y) (fun b q => ?_) ti gn tv
      rcases hY b (.inl q) with ⟨p, hp, _⟩ | z
      · cases hp
      · exact z

theorem fa_def {a : Nat} {o : Obj} {fd : FuncData} {body : List Stmt} {ps : List (Str × D)} {d : D} (ho : B.get? a = some o) (hd : o.data = .func fd) (hlim : B.NoLimit) (hcd : B.CodeRec fd.code fd.qualname)
    (hbody : fd.body = .stmts body) (hclo : fd.closure = []) (hg : fd.globals = mainGlobals) (hb : fd.builtins = builtinsNs) (hbind : ∀ vs : List Value, vs.length = ps.length → bindArgs fd ⟨vs, []⟩ = pure ((ps.map (·.1)).zip vs))
    (ok : defOk fd.scope (ps.map (·.1)) = true) (hcd2 : fd.scope.names.lookup ("QUESTION_MARK" : Str) = some .local → fd.code = .ref tc ∧ fd.scope.names.all (fun y => y.2 != .cell) = true)
    (h : PX prog w B n fd.scope { nm := fun x => ps.lookup x } body { nx := fun _ => d = .none, rt := (· = d) }) : FA prog w B (n + 1) a (ps.map (·.2)) d :=
  fa_gen ho hd hlim hcd hbody hclo hg hb (fun A E s X vs Q c t k => by
    have hl : vs.length = ps.length := by have := t.length; simpa using this
    rw [hbind vs hl]
    exact wpAny_pure (k vs s (Ks.refl s) hl t)) ok hcd2 h
end
end Mine
end

section
open PySem PySem.W PySem.Calls PyProof.Rows
set_option Elab.async false
set_option linter.unusedVariables false
set_option linter.unusedSectionVars false
set_option maxRecDepth 10000
namespace Mine
variable [Star]

noncomputable def stm (i : Nat) : Stmt := (PySem.Challenge.pw_in0071_01.main.body[i]?).getD (.Pass ⟨0, 0, 0, 0⟩)
noncomputable def fb (i : Nat) : List Stmt := match stm i with | .FunctionDef _ _ body _ _ _ _ _ _ _ => body | _ => []
noncomputable def fsc (i : Nat) : Scope := match stm i with | .FunctionDef _ _ _ _ _ _ scope _ _ _ => scope | _ => ⟨.module, [], false, false, []⟩
noncomputable def rho (l : List (Str × D)) : Rho := { nm := fun x => l.lookup x }
end Mine
end

section
open PySem PySem.W PySem.Calls PyProof.Rows
set_option Elab.async false
set_option linter.unusedVariables false
set_option linter.unusedSectionVars false
set_option maxRecDepth 10000
namespace Mine
variable [Star]
section
variable {prog : Program} {w : World} {B : Heap} {z : Bool} {n : Nat} {sc : Scope} {ρ : Rho}

theorem pe_comp {elt iter : Expr} {x : Str} {px : Pos} {ifs : List Expr} {scope : Scope} {pos : Pos} {ds : List D} (p : D → Bool) (F : D → D) (ok : compOk scope sc x = true)
    (hxd : (x == ("__debug__" : Str)) = false) (hxc : (x == ("__classdict__" : Str)) = false)
    (hsrc : PI prog w B z n sc ρ iter ds) (htest : ∀ d ∈ ds, PTs prog w B n (relS scope sc) (rhoC scope ρ x d) ifs (p d)) (helt : ∀ d ∈ ds, p d = true → PE prog w B n (relS scope sc) (rhoC scope ρ x d) elt (F d)) (hz : ds.length ≤ 100000)
    (hs : ∀ env x, foldedSetIterable iter env x = pure x := by intro _ _; with_unfolding_all rfl) :
    PE prog w B n sc ρ (.ListComp elt [⟨.Name x px, iter, ifs, 0⟩] scope pos) (.list ((ds.filter p).map F)) := fun A env E s X Q r o c v k => by
  have hcl : closureFor scope env = pure (clOf env scope.names []) := closure_eq fun y hy => by
    obtain ⟨cc, e, _⟩ := o.cells y (compOk.free ok y hy)
    rw [e]; rfl
  show wpAny _ _ (comprehension (.ListComp elt [⟨.Name x px, iter, ifs, 0⟩] scope pos) scope env _ (newList []) false (eval iter env)) _ _ _
  refine wpAny_comprehension_free (use := none) rfl (hs env) hcl (compOk.kind ok) (compOk.loc ok) ?_
  refine comp_core (RR := fun acc C => compPost (model prog w) A E none Q acc C) p F ok hxd hxc hsrc htest helt hz r o c v ?_
  intro D C s' m vs ks hti hD hC hDC hm hl ts
  refine ⟨m, hm, fun h' hs' => k _ _ ⟨ks.os, ks.dr, fun b ob bt e => hs'.extBut b ob (by have := ltz e; exact nen (by lia)) (ks.kp b ob bt e), by have := ks.sz; have := hs'.1; show s.heap.objs.size ≤ h'.objs.size; lia, fun _ => ?_, ks.gn⟩ ?_⟩
  · refine hti.move (fun b ob q e => hs'.extBut b ob (fun z => ?_) e) fun b q => .inl (.inl q)
    rcases q with q | q
    · exact q (.inr (.inr z))
    · have := c.xlt _ c.tb
      rw [q] at z
      have z' : tb = C := z
      lia
  · have hlen := ts.length
    rw [List.length_map] at hlen
    have := List.length_filter_le p ds
    refine .list (hl.extBut hs'.extBut hDC) (fun q => by have := c.xlt _ q; lia) (by lia) (ts.move (fun b ob q e => hs'.extBut b ob (fun z => q (.inr (.inr z))) e) fun b q => .inl (.inl q))
end
end Mine
end

section
open PySem PySem.W PySem.Calls PyProof.Rows
set_option Elab.async false
set_option linter.unusedVariables false
set_option linter.unusedSectionVars false
set_option maxRecDepth 10000
namespace Mine
variable [Star]

section
variable {prog : Program} {w : World} {B : Heap} {n : Nat} {sc : Scope} {ρ : Rho}

theorem Rho.put_mem {ρ : Rho} {x : Str} {l : List D} {p : Str × Nat × List D} (hp : p ∈ (ρ.put x l).own) : ∃ q ∈ ρ.own, q.1 = p.1 ∧ q.2.1 = p.2.1 ∧ (p.1 ≠ x → q = p) ∧ (p.1 = x → p.2.2 = l) := by
  obtain ⟨q, hq, e⟩ := List.mem_map.mp hp
  by_cases hx : q.1 = x
  · rw [if_pos hx] at e
    subst e
    exact ⟨q, hq, rfl, rfl, fun h => (h hx).elim, fun _ => rfl⟩
  · rw [if_neg hx] at e
    subst e
    exact ⟨q, hq, rfl, rfl, fun _ => rfl, fun h => (hx h).elim⟩
theorem Rho.put_own {ρ : Rho} {x : Str} {l : List D} (s : Shared) : OwnIn ρ (ρ.put x l) s := fun p hp => let ⟨q, hq, _, e, _⟩ := Rho.put_mem hp; .inl ⟨q, hq, e⟩

theorem dis_name {l : List (Str × Nat × List D)} (h : l.Pairwise fun p q => p.1 ≠ q.1 ∧ p.2.1 ≠ q.2.1) {p q : Str × Nat × List D} (hp : p ∈ l) (hq : q ∈ l) (e : p.2.1 = q.2.1) : p = q := by
  induction l with
  | nil => cases hp
  | cons r rest ih =>
    have h' := List.pairwise_cons.mp h
    cases hp with
    | head =>
      cases hq with
      | head => rfl
      | tail _ hq => exact ((h'.1 q hq).2 e).elim
    | tail _ hp =>
      cases hq with
      | head => exact ((h'.1 p hp).2 e.symm).elim
      | tail _ hq => exact ih h'.2 hp hq

theorem Fs.put {env : Env} {X : Nat → Prop} {s : Shared} {x : Str} {a : Nat} {l l' : List D} {h' : Heap} {t : Nat} {vs : List Value} (f : Fs B env X s ρ) (hx : (x, a, l) ∈ ρ.own) (hs : Heap.SameBut a s.heap h') (hl : h'.PlainList a vs.toArray) (hz : vs.length ≤ 100000) (ts : Tls h' X vs l') :
    Fs B env X { s with heap := h', toks := t } (ρ.put x l') ∧ Tn (Mut env ρ) s { s with heap := h', toks := t } := by
  obtain ⟨⟨q1, q2, us, q3, q4, q5⟩, q6⟩ := f.vs.own _ hx
  have hX : X a := q1
  have ha : a ≠ tb := q2
  have hpl : s.heap.PlainList a us.toArray := q3
  have nns : ∀ {b m}, s.heap.Ns b m → b ≠ a := fun hm e => by
    obtain ⟨o2, es2, ep2, c1, c2, _⟩ := hm
    obtain ⟨n3, e3⟩ := hpl
    rw [e] at c1; rw [e3] at c1; cases c1
    cases c2
  have nce : ∀ {b v}, s.heap.IsCell b v → b ≠ a := fun hm e => by
    obtain ⟨o2, c1, c2⟩ := hm
    obtain ⟨n3, e3⟩ := hpl
    rw [e] at c1; rw [e3] at c1; cases c1
    cases c2
  have cx' : Cx B X { s with heap := h', toks := t } := f.cx.same (s' := { s with heap := h', toks := t }) hs hX ha rfl
  have dis' : (ρ.put x l').own.Pairwise fun p q => p.1 ≠ q.1 ∧ p.2.1 ≠ q.2.1 := by
    show (ρ.own.map _).Pairwise _
    rw [List.pairwise_map]
    refine f.dis.imp ?_
    intro p q hpq
    by_cases h1 : p.1 = x <;> by_cases h2 : q.1 = x <;> simp only [h1, h2, if_true, if_false] <;> simpa [h1, h2] using hpq
  refine ⟨⟨cx', ⟨fun y d e => ?_, fun p hp => ?_⟩, f.lx, f.ln, let ⟨m, hm⟩ := f.lm; ⟨m, hm.at' fun o e => hs.extBut _ o (nns hm) e⟩, fun y c e => ?_, f.inj, dis'⟩, Tn.same (s' := { s with heap := h', toks := t }) (.inr (.inr ⟨_, hx, rfl⟩)) hs rfl rfl⟩
  · obtain ⟨c1, b1⟩ := f.vs.nm y d e
    refine ⟨?_, b1⟩
    rcases c1 with ⟨a1, a2, m, u, a3, a4, a5⟩ | ⟨c, u, a1, a2, a3, a4, a5⟩
    · exact .inl ⟨a1, a2, m, u, a3.at' fun o e => hs.extBut _ o (nns a3) e, a4, a5.same hs hX⟩
    · exact .inr ⟨c, u, a1, a2, a3, let ⟨ob, e1, e2⟩ := a4; ⟨ob, hs.extBut _ ob (nce a4) e1, e2⟩, a5.same hs hX⟩
  · obtain ⟨q, hq, e1, e2, e3, e4⟩ := Rho.put_mem hp
    obtain ⟨r1, r6⟩ := f.vs.own q hq
    rw [e1, e2] at r6
    refine ⟨?_, r6⟩
    by_cases hpx : p.1 = x
    · have hqx : q = (x, a, l) := by
        by_cases hqa : q.2.1 = a
        · exact dis_name f.dis hq hx hqa
        · have hn := r6
          rw [hpx, q6] at hn
          have : a = p.2.1 := by simpa using hn
          exact (hqa (by rw [e2, ← this])).elim
      have hpa : p.2.1 = a := by rw [← e2, hqx]
      rw [hpa, e4 hpx]
      exact ⟨hX, ha, vs, hl, hz, ts⟩
    · have hqp := e3 hpx
      subst hqp
      obtain ⟨z1, z2, ws, z3, z4, z5⟩ := r1
      refine ⟨z1, z2, ws, z3.at fun ob e => hs.extBut _ ob (fun z => ?_) e, z4, z5.same hs hX⟩
      have := dis_name f.dis hq hx z
      exact hpx (by rw [this])
  · obtain ⟨q1, q2, u, hc⟩ := f.cel y c e
    obtain ⟨ob, e1, e2⟩ := id hc
    exact ⟨q1, q2, u, ob, hs.extBut _ ob (nce hc) e1, e2⟩

theorem px_new {x : Str} {p lpos pos : Pos} {es : List Expr} {ds : List D} {rest : List Stmt} {R : Post} (hes : PEs prog w B n sc ρ es ds) (hx : sc.names.lookup x = some .local ∨ sc.names.lookup x = some .cell) (hd : (x == ("__debug__" : Str)) = false) (hc : (x == ("__classdict__" : Str)) = false)
    (h2 : ∀ a, PX prog w B n sc (ρ.new x a ds) rest R) (hz : ds.length ≤ 100000 := by with_unfolding_all exact Nat.le_of_ble_eq_true rfl) : PX prog w B n sc ρ (.Assign [.Name x p] (.List es lpos) pos :: rest) R := by
  refine px_cons (fun ρ1 => ∃ a, ρ1 = ρ.new x a ds) (px_line fun A env E s X Q rm o f k => ?_) (by rintro _ ⟨a, rfl⟩; exact h2 a)
  refine wpAny_Assign_Name (List_ (hes A env lpos E s X _ rm o f.cx f.vs fun vs s1 k1 t => ?_)) rfl
  have hl := t.length
  refine wpAny_newObj_type ?_ (by show vs.toArray.size ≤ sizeLine; rw [List.size_toArray, sizeLine_eq]; lia)
  have c1 := k1.cx f.cx
  have f2 : Fs B env (fun b => X b ∨ b = s1.heap.objs.size) { s1 with heap := s1.heap.push { cls := .type "list", data := .seq vs.toArray } } ρ :=
    (k1.fs f).up (fun b o _ e => Heap.get?_push_of_some _ e) (c1.moreI _ _) (fun _ h => .inl h) (fun b h => h.imp_right fun (e : b = _) => by rw [e]; exact Nat.le_refl _)
  refine store_name o f2 hx (.rf s1.heap.objs.size) hd hc fun s3 f3 t3 => ?_
  have hlt : ∀ b, X b → b < s1.heap.objs.size := c1.xlt
  have hnm : ¬ Mut env ρ s1.heap.objs.size := fun m => by have := hlt _ (Mut.inX (k1.fs f) m); lia
  have htb : s1.heap.objs.size ≠ tb := nen (by have := hlt _ c1.tb; lia)
  have kp3 : ∀ ob, (s1.heap.push { cls := .type "list", data := .seq vs.toArray }).get? s1.heap.objs.size = some ob → s3.heap.get? s1.heap.objs.size = some ob := fun ob e => t3.kp _ ob hnm htb e
  have hf : Fs B env (fun b => X b ∨ b = s1.heap.objs.size) s3 (ρ.new x s1.heap.objs.size ds) := by
    refine { f3 with vs := ⟨f3.vs.nm, fun p hp => ?_⟩, dis := ?_ }
    · cases hp with
      | head =>
        refine ⟨⟨.inr rfl, htb, vs, ⟨0, kp3 _ (Heap.get?_push_size _ rfl)⟩, by lia, ?_⟩, by show (if x = x then _ else _) = _; rw [if_pos rfl]⟩
        refine t.move (fun b o nb e => t3.kp b o (fun m => nb (Mut.inX (k1.fs f) m)) (fun z => nb (z ▸ c1.tb)) (Heap.get?_push_of_some _ e)) fun b q => q.imp_right fun (q : b = _) => by rw [q]; exact Nat.le_refl _
      | tail _ hp => exact f3.vs.own p hp
    · refine List.pairwise_cons.mpr ⟨fun q hq => ⟨fun e => ?_, fun e => ?_⟩, f3.dis⟩
      · have := (List.mem_filter.mp hq).2
        simp at this
        exact this e.symm
      · have := hlt _ (f.vs.own q (List.mem_filter.mp hq).1).1.1
        have e' : s1.heap.objs.size = q.2.1 := e
        lia
  refine k .next s3 _ ((k1.tn.trans (M' := fun _ => False) (s'' := { s1 with heap := s1.heap.push { cls := .type "list", data := .seq vs.toArray } }) ⟨rfl, rfl, fun b o _ _ e => Heap.get?_push_of_some _ e, by rw [Heap.size_push]; (exact Nat.le_succ _)⟩ fun _ h => h.elim).trans t3 fun b m => .inl m) (fun b h => .inl h) (fun b h => h.imp_right fun (e : b = _) => by rw [e]; exact k1.sz) ⟨_, ⟨_, rfl⟩, hf, fun p hp => ?_⟩
  cases hp with
  | head => exact .inr k1.sz
  | tail _ hp => exact .inl ⟨p, (List.mem_filter.mp hp).1, rfl⟩

theorem px_append {x : Str} {p1 apos cpos pos : Pos} {e : Expr} {d : D} {l : List D} {a : Nat} {rest : List Stmt} {R : Post} (he : PE prog w B n sc ρ e d) (hx : (x, a, l) ∈ ρ.own) (hz : l.length < 100000)
    (h2 : PX prog w B n sc (ρ.put x (l ++ [d])) rest R)
    (hs : ∀ env, starEach [e] env = [(false, eval e env)] := by intro _; with_unfolding_all rfl) (hline : (apos.endLine == cpos.line) = true := by with_unfolding_all rfl) (hb : ∀ env, attributeBase (.Name x p1) "append" env (eval (.Name x p1) env) = eval (.Name x p1) env := by intro _; with_unfolding_all rfl)
    (hn : ∀ env : Env, Eo sc env → swapsWith (.Call (.Attribute (.Name x p1) "append" apos) [e] [] cpos) none pos.line env = pure false := by intro _ _; with_unfolding_all rfl) : PX prog w B n sc ρ (.Expr (.Call (.Attribute (.Name x p1) "append" apos) [e] [] cpos) pos :: rest) R := by
  refine px_step (fun A env E s X Q rm o f k => ?_) h2
  have hi : interactive env = false := by unfold interactive; rw [o.iss, o.kind]; rfl
  refine wpAny_Expr ?_ hi (hn env o)
  have hnm := (f.vs.own _ hx).2
  refine Call_method1 (hb env) (hs env) hline (pe_name (d := .rf a) hnm A env E s X _ rm o f.cx f.vs fun v s1 k1 t1 => ?_)
  cases t1 using Tl.rfE
  have f1 := k1.fs f
  obtain ⟨⟨q1, q2, us, q3, q4, q5⟩, q6⟩ := f1.vs.own _ hx
  obtain ⟨n0, e0⟩ := id q3
  refine ⟨"list", "list.append", F.plainAttrs_list, slot_list_append, F.type_list_append, ⟨_, e0, rfl⟩, fun b eb => (by cases eb; exact ⟨_, e0, rfl⟩), ?_⟩
  refine Calls.callWith_builtin rfl (Calls.evalArgs_plain (Calls.spliced_cons (he A env E s1 X _ rm o f1.cx f1.vs fun u s2 k2 t2 => Calls.spliced_nil ?_)))
  have f2 := k2.fs f1
  obtain ⟨⟨q1, q2, ws, q3', q4', q5'⟩, q6⟩ := f2.vs.own _ hx
  have hlen := q5'.length
  have hlen' : ws.length = l.length := hlen
  refine wpAny_list_append_plain q3' (fun h' hl hs' => ?_) (by rw [List.size_toArray, sizeLine_eq]; lia)
  have hl' : h'.PlainList a (ws ++ [u]).toArray := by simpa using hl
  obtain ⟨f3, t3⟩ := Fs.put (t := s2.toks) f2 hx hs' hl' (by simp; lia) ((q5'.append (.cons t2 .nil)).same hs' q1)
  exact k _ ((k1.tn.trans k2.tn fun b m => .inl m).trans t3 fun b m => .inl m) (Rho.put_own s) f3
end
end Mine
end

section
open PySem PySem.W PySem.Calls PyProof.Rows
set_option Elab.async false
set_option linter.unusedVariables false
set_option linter.unusedSectionVars false
set_option maxRecDepth 10000
namespace Mine
variable [Star]

noncomputable def Rho.see (ρ : Rho) : Rho := { nm := fun x => match ρ.own.find? (fun p => p.1 == x) with | some p => some (.list p.2.2) | none => ρ.nm x }
noncomputable def Xo (X : Nat → Prop) (ρ : Rho) (b : Nat) : Prop := X b ∧ ∀ p ∈ ρ.own, p.2.1 ≠ b

mutual
noncomputable def flat : D → Bool
  | .list _ => false
  | .tup _ => false
  | .meth _ => false
  | .star => false
  | .ob _ _ => false
  | _ => true
end
theorem Tl.flat {h h' : Heap} {X X' : Nat → Prop} {v : Value} {d : D} (t : Tl h X v d) (f : flat d = true) : Tl h' X' v d := by
  cases t with
  | none => exact .none
  | bool b => exact .bool b
  | int i t => exact .int i t
  | str s t => exact .str s t
  | rf a => exact .rf a
  | star _ _ => cases f
  | ob _ => cases f
  | ty T => exact .ty T
  | meth _ _ => cases f
  | list _ _ _ _ => cases f
  | tup _ _ _ _ => cases f

theorem Tls.snoc {h : Heap} {X : Nat → Prop} {y : Value} {d : D} : ∀ {vs : List Value} {l : List D}, Tls h X (vs ++ [y]) (l ++ [d]) → vs.length = l.length → Tls h X vs l ∧ Tl h X y d
  | [], [], .cons a _, _ => ⟨.nil, a⟩
  | _ :: _, _ :: _, .cons a b, hl => ⟨.cons a (Tls.snoc b (by simpa using hl)).1, (Tls.snoc b (by simpa using hl)).2⟩

section
variable {prog : Program} {w : World} {B : Heap} {n : Nat} {sc : Scope} {ρ : Rho}

theorem Xo.cx {X : Nat → Prop} {s : Shared} {env : Env} (f : Vs env s.heap X ρ) (c : Cx B X s) : Cx B (Xo X ρ) s :=
  ⟨c.base, fun b q => c.xlt b q.1, fun b q => c.xb b q.1, ⟨c.tb, fun p hp => (f.own p hp).1.2.1⟩, c.ti.move (fun _ _ _ e => e) fun b q => .inl q.1, c.gn⟩
theorem Xo.vs {X : Nat → Prop} {env : Env} {s : Shared} (v : Vs env s.heap X ρ) : Vs env s.heap (Xo X ρ) ρ.see := by
  refine ⟨fun x d e => ?_, fun p hp => by cases hp⟩
  have mv : ∀ {v d}, Tl s.heap X v d → Tl s.heap (Xo X ρ) v d := fun t => t.move (fun _ _ _ e => e) fun b q => .inl q.1
  unfold Rho.see at e
  dsimp only at e
  cases hf : ρ.own.find? (fun p => p.1 == x) with
  | none =>
    rw [hf] at e
    obtain ⟨a, b1⟩ := v.nm x d e
    exact ⟨a.imp (fun ⟨a1, a2, m, u, a3, a4, a5⟩ => ⟨a1, a2, m, u, a3, a4, mv a5⟩) fun ⟨c, u, a1, a2, a3, a4, a5⟩ => ⟨c, u, a1, a2, a3, a4, mv a5⟩, b1⟩
  | some p =>
    rw [hf] at e
    cases e
    have hp := List.mem_of_find?_eq_some hf
    have hx : p.1 = x := by have := List.find?_some hf; exact eq_of_beq this
    obtain ⟨⟨q1, q2, us, q3, q4, q5⟩, q6⟩ := v.own p hp
    rw [hx] at q6
    obtain ⟨a, b1⟩ := v.nm x _ q6
    have key : ∀ {u}, Tl s.heap X u (.rf p.2.1) → Tl s.heap (Xo X ρ) u (.list p.2.2) := fun t => by
      cases t using Tl.rfE
      exact .list q3 (fun q => q.2 p hp rfl) q4 (q5.move (fun _ _ _ e => e) fun b q => .inl q.1)
    exact ⟨a.imp (fun ⟨a1, a2, m, u, a3, a4, a5⟩ => ⟨a1, a2, m, u, a3, a4, key a5⟩) fun ⟨c, u, a1, a2, a3, a4, a5⟩ => ⟨c, u, a1, a2, a3, a4, key a5⟩, b1⟩
theorem TI.back {h : Heap} {X : Nat → Prop} {env : Env} (v : ∀ p ∈ ρ.own, ∃ us : List Value, h.PlainList p.2.1 us.toArray) (t : TI h (Xo X ρ)) : TI h X := by
  obtain ⟨ps, a, b, c⟩ := t
  refine ⟨ps, a, b, fun pos cv e => ?_⟩
  obtain ⟨c', o, vs, q, t, e1, nx, ne, e2, e3, r⟩ := c pos cv e
  refine ⟨c', o, vs, q, t, e1, fun z => nx ⟨z, fun p hp z2 => ?_⟩, ne, e2, e3, r⟩
  obtain ⟨us, n0, e0⟩ := v p hp
  rw [z2] at e0
  rw [e0] at e2
  cases e2
  cases e3
theorem Xo.ks {X : Nat → Prop} {env : Env} {s s' : Shared} (v : Vs env s.heap X ρ) (c : Cx B X s) (k : Ks (Xo X ρ) s s') : Ks X s s' :=
  ⟨k.os, k.dr, k.kp, k.sz, fun t => TI.back (env := env) (fun p hp => let ⟨⟨q1, q2, us, q3, _⟩, _⟩ := v.own p hp; ⟨us, q3.at fun o e => k.kp _ o q2 e⟩) (k.ti (t.move (fun _ _ _ e => e) fun b q => .inl q.1)), k.gn⟩

theorem pt_see {e : Expr} {b : Bool} (h : PT prog w B n sc ρ.see e b) : PT prog w B n sc ρ e b := fun A env E s X Q r o c v k =>
  h A env E s (Xo X ρ) Q r o (Xo.cx v c) (Xo.vs v) fun s' k' => k s' (Xo.ks v c k')
theorem pe_see {e : Expr} {d : D} (h : PE prog w B n sc ρ.see e d) (hd : flat d = true) : PE prog w B n sc ρ e d := fun A env E s X Q r o c v k =>
  h A env E s (Xo X ρ) Q r o (Xo.cx v c) (Xo.vs v) fun u s' k' t => k u s' (Xo.ks v c k') (t.flat hd)

theorem px_return_see {e : Expr} {pos} {d : D} {rest : List Stmt} {R : Post} (h : PE prog w B n sc ρ.see e d) (hr : R.rt d) : PX prog w B n sc ρ (.Return (some e) pos :: rest) R :=
  px_cons (fun _ => False) (px_line fun A env E s X Q rm o f k =>
    wpAny_Return_some (h A env E s (Xo X ρ) _ rm o (Xo.cx f.vs f.cx) (Xo.vs f.vs) fun v s1 k1 t1 => by
      have kk := Xo.ks f.vs f.cx k1
      exact k _ _ X kk.tn (fun _ h => h) (fun _ h => .inl h) ⟨d, Xo X ρ, hr, t1, k1.ti (Xo.cx f.vs f.cx).ti, (kk.cx f.cx).gn, fun b hb => by
        by_cases hp : ∃ p ∈ ρ.own, p.2.1 = b
        · exact .inl hp
        · exact .inr ⟨hb, fun p hp' e => hp ⟨p, hp', e⟩⟩⟩)) (fun _ h => h.elim)

theorem px_pop {x : Str} {p1 apos cpos pos : Pos} {d : D} {l : List D} {a : Nat} {rest : List Stmt} {R : Post} (hx : (x, a, l ++ [d]) ∈ ρ.own)
    (h2 : PX prog w B n sc (ρ.put x l) rest R) (hline : (apos.endLine == cpos.line) = true := by with_unfolding_all rfl) (hb : ∀ env, attributeBase (.Name x p1) "pop" env (eval (.Name x p1) env) = eval (.Name x p1) env := by intro _; with_unfolding_all rfl)
    (hn : ∀ env : Env, Eo sc env → swapsWith (.Call (.Attribute (.Name x p1) "pop" apos) [] [] cpos) none pos.line env = pure false := by intro _ _; with_unfolding_all rfl) : PX prog w B n sc ρ (.Expr (.Call (.Attribute (.Name x p1) "pop" apos) [] [] cpos) pos :: rest) R := by
  refine px_step (fun A env E s X Q rm o f k => ?_) h2
  have hi : interactive env = false := by unfold interactive; rw [o.iss, o.kind]; rfl
  rw [exec_Expr _ _ _ hi (hn env o)]
  refine wpAny_bind (wpAny_standAt (wpAny_bind ?_))
  have hnm := (f.vs.own _ hx).2
  refine Call_method0 (hb env) hline (pe_name (d := .rf a) hnm A env E s X _ rm o f.cx f.vs fun v s1 k1 t1 => ?_)
  cases t1 using Tl.rfE
  have f1 := k1.fs f
  obtain ⟨⟨q1, q2, us, q3, q4, q5⟩, q6⟩ := f1.vs.own _ hx
  obtain ⟨n0, e0⟩ := id q3
  refine ⟨"list", "list.pop", F.plainAttrs_list, F.slot_list_pop, F.type_list_pop, ⟨_, e0, rfl⟩, fun b eb => (by cases eb; exact ⟨_, e0, rfl⟩), ?_⟩
  have hlen : us.length = l.length + 1 := by have := q5.length; simpa using this
  have hzz : us.length ≤ 100000 := q4
  obtain ⟨y, vs, hus⟩ : ∃ y vs, us = vs ++ [y] := by
    have hne : us ≠ [] := by intro e; rw [e] at hlen; simp at hlen
    exact ⟨us.getLast hne, us.dropLast, (List.dropLast_concat_getLast hne).symm⟩
  have tvs : Tls s1.heap X vs l ∧ Tl s1.heap X y d := by
    have t5 : Tls s1.heap X (vs ++ [y]) (l ++ [d]) := hus ▸ q5
    have hl : vs.length = l.length := by rw [hus] at hlen; simpa using hlen
    exact t5.snoc hl
  have hsz : us.toArray.size - 1 = vs.length := by rw [hus]; simp
  refine P.pop_list (l := a) (items := us.toArray) (n := n0) e0 (y := y) (by rw [hsz, hus]; simp) ?_ (by rw [List.size_toArray, sizeLine_eq]; lia)
  have hs' : Heap.SameBut a s1.heap (s1.heap.update a (Obj.mapSeq fun xs => xs.eraseIdxIfInBounds (us.toArray.size - 1))) := Heap.SameBut.update ..
  have hl' : (s1.heap.update a (Obj.mapSeq fun xs => xs.eraseIdxIfInBounds (us.toArray.size - 1))).PlainList a vs.toArray := by
    have q := PySem.IsL.update (n := n0) e0 (fun xs => xs.eraseIdxIfInBounds (us.toArray.size - 1))
    have e : us.toArray.eraseIdxIfInBounds (us.toArray.size - 1) = vs.toArray := by
      rw [hsz, hus]
      have h : vs.length < (vs ++ [y]).toArray.size := by simp
      unfold Array.eraseIdxIfInBounds
      rw [dif_pos h]
      apply Array.toList_inj.mp
      rw [Array.toList_eraseIdx]
      simp [List.eraseIdx_append_of_length_le]
    rw [e] at q
    exact ⟨_, q⟩
  obtain ⟨f3, t3⟩ := Fs.put (t := s1.toks) f1 hx hs' hl' (by rw [hus] at hzz; simp at hzz; grind) (tvs.1.same hs' q1)
  refine wpAny_dropValue ?_
  exact k _ (k1.tn.trans t3 fun b m => .inl m) (Rho.put_own s) f3

noncomputable def Rho.alias (ρ : Rho) (x y : Str) (a : Nat) (l : List D) : Rho := { nm := fun z => if z = y then some (.rf a) else ρ.nm z, own := (y, a, l) :: (ρ.own.filter fun p => p.1 != y).filter fun p => p.1 != x }
theorem px_alias {x y : Str} {p1 p2 pos : Pos} {l : List D} {a : Nat} {rest : List Stmt} {R : Post} (hx : (x, a, l) ∈ ρ.own) (hxy : x ≠ y) (hy : sc.names.lookup y = some .local ∨ sc.names.lookup y = some .cell)
    (hs : ∀ env, Eo sc env → swapsWith (.Name x p1) (some (.Name y p2)) pos.line env = pure false) (hd : (y == ("__debug__" : Str)) = false) (hc : (y == ("__classdict__" : Str)) = false)
    (h2 : PX prog w B n sc (ρ.alias x y a l) rest R) : PX prog w B n sc ρ (.Assign [.Name y p2] (.Name x p1) pos :: rest) R := by
  refine px_step (fun A env E s X Q rm o f k => ?_) h2
  have hnm := (f.vs.own _ hx).2
  refine wpAny_Assign_Name (pe_name (d := .rf a) hnm A env E s X _ rm o f.cx f.vs fun v s1 k1 t1 => store_name o (k1.fs f) hy t1 hd hc fun s2 f2 t2 => ?_) (hs env o)
  have hmem : (x, a, l) ∈ (ρ.set y (.rf a)).own := List.mem_filter.mpr ⟨hx, by simpa using hxy⟩
  refine k _ (k1.tn.trans t2 fun b m => .inl m) (fun p hp => ?_) { f2 with vs := ⟨f2.vs.nm, fun p hp => ?_⟩, dis := ?_ }
  · cases hp with
    | head => exact .inl ⟨_, hx, rfl⟩
    | tail _ hp => exact .inl ⟨p, (List.mem_filter.mp (List.mem_filter.mp hp).1).1, rfl⟩
  · cases hp with
    | head => exact ⟨(f2.vs.own _ hmem).1, by show (if y = y then _ else _) = _; rw [if_pos rfl]⟩
    | tail _ hp => exact f2.vs.own p (List.mem_filter.mp hp).1
  · refine List.pairwise_cons.mpr ⟨fun q hq => ⟨fun e => ?_, fun e => ?_⟩, f2.dis.sublist List.filter_sublist⟩
    · have := (List.mem_filter.mp (List.mem_filter.mp hq).1).2
      simp at this
      exact this e.symm
    · have hq2 := List.mem_filter.mp hq
      have := dis_name f2.dis hmem hq2.1 e
      have h3 := hq2.2
      rw [← this] at h3
      simp at h3
end
end Mine
end

section
open PySem PySem.W PySem.Calls PyProof.Rows
open PySem.Builtin.Str
set_option Elab.async false
set_option linter.unusedVariables false
set_option linter.unusedSectionVars false
set_option maxRecDepth 10000
namespace Mine
variable [Star]

section
variable (prog : Program) (w : World) (B : Heap)
noncomputable def Arg (A : Around) (X : Nat → Prop) (a : D) (K : Shared → Prop) (E : Value → Shared → Prop) (s : Shared) (T : Sem Value) : Prop :=
  wpAny (model prog w) A T (fun v s1 => Cx B X s1 ∧ Tl s1.heap X v a ∧ K s1) E s
noncomputable def SM1 (name : Str) (x : Str) (a d : D) : Prop :=
  ∀ (A : Around) (E : Value → Shared → Prop) (s : Shared) (X : Nat → Prop) (Q : Value → Shared → Prop) (pos : Pos) (t : Tok) (T : Sem Value), Room 0 A →
    Arg prog w B A X a (fun s1 => ∀ r s2, Ks X s1 s2 → Tl s2.heap X r d → Q r s2) E s T → MethodOnS prog w A E name (.str x t) pos [(false, T)] Q s
end

section
variable {prog : Program} {w : World} {B : Heap} {n : Nat} {sc : Scope} {ρ : Rho}

theorem pe_m1 {o e : Expr} {name : Str} {apos pos : Pos} {x : Str} {a d : D} (ho : PE prog w B n sc ρ o (.str x)) (he : PE prog w B n sc ρ e a) (hm : SM1 prog w B name x a d)
    (hs : ∀ env, starEach [e] env = [(false, eval e env)] := by intro _; with_unfolding_all rfl) (hline : (apos.endLine == pos.line) = true := by with_unfolding_all rfl) (hb : ∀ env, attributeBase o name env (eval o env) = eval o env := by intro _; with_unfolding_all rfl) :
    PE prog w B n sc ρ (.Call (.Attribute o name apos) [e] [] pos) d := fun A env E s X Q r oo c v k => by
  refine Call_method1 (hb env) (hs env) hline (ho A env E s X _ r oo c v fun u s1 k1 t1 => ?_)
  cases t1 using Tl.strE
  refine hm A E s1 X Q pos _ _ (r.mono (Nat.zero_le _)) (he A env E s1 X _ r oo (k1.cx c) (k1.vs c v) fun u2 s2 k2 t2 => ⟨k2.cx (k1.cx c), t2, fun r3 s3 k3 t3 => k _ _ ((k1.trans k2).trans k3) t3⟩)

theorem sm_startswith {x y : Str} : SM1 prog w B "startswith" x (.str y) (.bool (Txt.startswith x y)) := fun A E s X Q pos t T r h =>
  SB.startswith (wpAny_mono h (fun v s1 ⟨_, t1, q⟩ => by cases t1 using Tl.strE; exact ⟨_, _, rfl, q _ _ (Ks.refl _) (.bool _)⟩) fun _ _ e => e)
theorem sm_endswith {x y : Str} : SM1 prog w B "endswith" x (.str y) (.bool (Txt.endswith x y)) := fun A E s X Q pos t T r h =>
  SB.endswith (wpAny_mono h (fun v s1 ⟨_, t1, q⟩ => by cases t1 using Tl.strE; exact ⟨_, _, rfl, q _ _ (Ks.refl _) (.bool _)⟩) fun _ _ e => e)
theorem sm_count {x y : Str} : SM1 prog w B "count" x (.str y) (.int (Txt.count x y)) := fun A E s X Q pos t T r h =>
  SB.count (wpAny_mono h (fun v s1 ⟨_, t1, q⟩ => by cases t1 using Tl.strE; exact ⟨_, _, rfl, q _ _ (Ks.tok _ _) (.int _ _)⟩) fun _ _ e => e)

theorem strs_of {h : Heap} {X : Nat → Prop} : ∀ {texts : List Str} {vs : List Value}, Tls h X vs (texts.map .str) → ∃ l : List (Str × Tok), vs = strValues l ∧ l.map (·.1) = texts
  | [], _, t => by cases t using Tls.nilE; exact ⟨[], rfl, rfl⟩
  | x :: r, _, t => by
    cases t using Tls.consE with
    | cons a b =>
      cases a using Tl.strE
      obtain ⟨l, e1, e2⟩ := strs_of b
      exact ⟨(x, _) :: l, by rw [e1]; rfl, by rw [← e2]; rfl⟩
theorem of_strs {h : Heap} {X : Nat → Prop} : ∀ l : List (Str × Tok), Tls h X (strValues l) ((l.map (·.1)).map .str)
  | [] => .nil
  | p :: r => .cons (.str _ _) (of_strs r)

theorem sm_join {x : Str} {texts : List Str} (hok : JoinOk x texts = true) : SM1 prog w B "join" x (.list (texts.map .str)) (.str (Txt.join x texts)) := fun A E s X Q pos t T r h =>
  SB.join (wpAny_mono h (fun v s1 ⟨_, t1, q⟩ => by
    cases t1 using Tl.listE with
    | list p nx z ts =>
      obtain ⟨l, e1, e2⟩ := strs_of ts
      subst e1
      exact ⟨_, l, rfl, p.isList, texts, e2, hok, fun t' k => q _ _ (Ks.tok _ _) (.str _ _)⟩) fun _ _ e => e)

theorem sm_split {x y : Str} (hy : (y.length == 0) = false) (hx : x.length ≤ 99990) : SM1 prog w B "split" x (.str y) (.list ((Txt.split x y).map .str)) := fun A E s X Q pos t T r h => by
  refine ⟨"str", _, F.plainAttrs_str, F.slot_str_split, F.type_str_split, typeIs_str _ _ _, (fun _ e => nomatch e), method1_meets F.slot_str_split F.entry_str_split (wpAny_mono h (fun v s1 h1 => ?_) fun _ _ e => e)⟩
  obtain ⟨c, t1, q⟩ := h1
  cases t1 using Tl.strE with
  | str u =>
  refine ⟨typeIs_str _ _ _, F.args_str_split_2 _ _, ?_⟩
  have one : ∀ l : List (Str × Tok), l.length ≤ 100000 → ∀ tk, Txt.split x y = l.map (·.1) → Q (.ref s1.heap.objs.size) { s1 with heap := s1.heap.push { cls := .type "list", data := .seq (strValues l).toArray }, toks := tk } := fun l hl tk e => by
    refine q _ _ (Ks.push s1 _ _) ?_
    rw [e]
    exact .list ⟨0, Heap.get?_push_size _ rfl⟩ (fun z => Nat.lt_irrefl _ (c.xlt _ z)) (by unfold strValues; rw [List.length_map]; exact hl) (of_strs l)
  have hpl : (partsBetween x (occurrences x y 0 x.length (x.length + 1)) y.length).length ≤ 100000 := by
    rw [length_partsBetween]
    have := StrLaws.occ_length_le x y 0 x.length (x.length + 1)
    lia
  have hsl : sizeLine = 2 ^ 24 := by decide
  cases h1 : (decide (x.length < y.length) || decide (strKind x < strKind y))
  · cases hf : (occurrences x y 0 x.length (x.length + 1)).isEmpty
    · refine ⟨_, meets_str_split_sep x y _ _ h1 hy hf (by rw [hsl]; lia) (by rw [hsl]; lia), ?_⟩
      show wants Q E _ { s1 with toks := _, heap := s1.heap.push { cls := .type "list", data := .seq (strsFrom s1.toks (partsBetween x (occurrences x y 0 x.length (x.length + 1)) y.length)).toArray } }
      rw [strsFrom_eq]
      refine one (numbered s1.toks _) ?_ _ ?_
      · have := congrArg List.length (numbered_texts s1.toks (partsBetween x (occurrences x y 0 x.length (x.length + 1)) y.length))
        rw [List.length_map] at this
        lia
      · rw [numbered_texts]
        exact (if_neg (ne_true_of_eq_false h1)).trans (if_neg (ne_true_of_eq_false hf))
    · exact ⟨_, meets_str_split_not_found x y _ _ h1 hy hf, one [(x, t)] (by simp) _ ((if_neg (ne_true_of_eq_false h1)).trans (if_pos hf))⟩
  · exact ⟨_, meets_str_split_cannot_occur x y _ _ h1, one [(x, t)] (by simp) _ (if_pos h1)⟩

theorem pe_replace0 {o e f : Expr} {apos pos : Pos} {x y z : Str} (ho : PE prog w B n sc ρ o (.str x)) (he : PE prog w B n sc ρ e (.str y)) (hf : PE prog w B n sc ρ f (.str z)) (hn : (occurrences x y 0 x.length (x.length + 1)).isEmpty = true)
    (hs : ∀ env, starEach [e, f] env = [(false, eval e env), (false, eval f env)] := by intro _; with_unfolding_all rfl) (hline : (apos.endLine == pos.line) = true := by with_unfolding_all rfl) (hb : ∀ env, attributeBase o "replace" env (eval o env) = eval o env := by intro _; with_unfolding_all rfl) :
    PE prog w B n sc ρ (.Call (.Attribute o "replace" apos) [e, f] [] pos) (.str x) := fun A env E s X Q r oo c v k => by
  refine Call_method2 (hb env) (hs env) hline (ho A env E s X _ r oo c v fun u s1 k1 t1 => ?_)
  cases t1 using Tl.strE
  refine ⟨"str", _, F.plainAttrs_str, F.slot_str_replace, F.type_str_replace, typeIs_str _ _ _, (fun _ e => nomatch e), ?_⟩
  refine Calls.callWith_builtin rfl (Calls.evalArgs_plain (Calls.spliced_cons (he A env E s1 X _ r oo (k1.cx c) (k1.vs c v) fun u2 s2 k2 t2 =>
    Calls.spliced_cons (hf A env E s2 X _ r oo (k2.cx (k1.cx c)) (k2.vs (k1.cx c) (k1.vs c v)) fun u3 s3 k3 t3 => Calls.spliced_nil ?_))))
  cases t2 using Tl.strE
  cases t3 using Tl.strE
  refine call_gives F.slot_str_replace (typeIs_str _ _ _) F.entry_str_replace (F.args_str_replace_3 _ _ _) (gives_str_replace x y z _ _ _ fun h => by rw [hn] at h; cases h) ?_
  rw [hn]
  exact k _ _ ((k1.trans k2).trans k3) (.str _ _)

theorem bo_isnot_star : BO prog w B (compareOp .IsNot) .star .star (.bool false) := fun A E s X Q u v _ _ t1 t2 k => by cases t1 using Tl.starE; cases t2 using Tl.starE; exact wpAny_isNot_ref_self (k _ _ (Ks.refl s) (.bool _))
theorem bo_is_star : BO prog w B (compareOp .Is) .star .star (.bool true) := fun A E s X Q u v _ _ t1 t2 k => by cases t1 using Tl.starE; cases t2 using Tl.starE; exact wpAny_is_ref_self (k _ _ (Ks.refl s) (.bool _))
theorem bo_isnot_str {x : Str} : BO prog w B (compareOp .IsNot) (.str x) .star (.bool true) := fun A E s X Q u v _ _ t1 t2 k => by
  cases t1 using Tl.strE; cases t2 using Tl.starE; exact wpAny_isNot_other rfl (by intro h; cases h) (k _ _ (Ks.refl s) (.bool _))
theorem bo_is_str {x : Str} : BO prog w B (compareOp .Is) (.str x) .star (.bool false) := fun A E s X Q u v _ _ t1 t2 k => by
  cases t1 using Tl.strE; cases t2 using Tl.starE; exact wpAny_is_other rfl (by intro h; cases h) (k _ _ (Ks.refl s) (.bool _))
theorem bo_notin_str {a b : Str} : BO prog w B (compareOp .NotIn) (.str a) (.str b) (.bool (!(Txt.contains b a))) := fun A E s X Q u v _ _ t1 t2 k => by cases t1 using Tl.strE; cases t2 using Tl.strE; exact SB.notContains (k _ _ (Ks.refl s) (.bool _))
theorem bo_in_str' {a b : Str} : BO prog w B (compareOp .In) (.str a) (.str b) (.bool (Txt.contains b a)) := fun A E s X Q u v _ _ t1 t2 k => by cases t1 using Tl.strE; cases t2 using Tl.strE; exact SB.contains (k _ _ (Ks.refl s) (.bool _))
theorem to_str {x : Str} (hx : x.length ≤ 100000) : TO prog w B (.str x) ((x.length : Int) != 0) := fun A E s X Q u _ _ t k => by cases t using Tl.strE; exact P.truthy_str (by lia) (k _ (Ks.tok s _))
end
end Mine
end

section
open PySem PySem.W PySem.Calls PyProof.Rows
set_option Elab.async false
set_option linter.unusedVariables false
set_option linter.unusedSectionVars false
set_option maxRecDepth 10000
namespace Mine
variable [Star]

section
variable {prog : Program} {w : World} {B : Heap} {n : Nat} {sc : Scope} {ρ : Rho}

theorem draw_wk {A : Around} {I N : Nat} {P : Nat → Value → Prop} {St : Nat → Heap → Prop} {E : Value → Shared → Prop} (W : Wk prog w A I N P St) : ∀ (k i : Nat) (s : Shared) (Q : List Value → Shared → Prop), i + k ≤ N → St i s.heap →
    (∀ vs h' tk, vs.length = k → (∀ (j : Nat) v, vs[j]? = some v → P (i + j) v) → St (i + k) h' → Heap.SameBut I s.heap h' → Q vs { s with heap := h', toks := tk }) → wpAny (model prog w) A (draw (.ref I) k) Q E s
  | 0, i, s, Q, _, st, hQ => by
    show wpAny _ _ (pure []) Q E s
    exact wpAny_pure (hQ [] s.heap s.toks rfl (fun j v e => by simp at e) st (Heap.SameBut.refl ..))
  | k + 1, i, s, Q, hle, st, hQ => by
    show wpAny _ _ (pyNext (.ref I) >>= _) Q E s
    refine wpAny_bind (W.item i s _ _ (by lia) st fun v h1 tk1 hP st1 hs1 => ?_)
    refine wpAny_bind (wpAny_holding (draw_wk W k (i + 1) _ _ (by lia) st1 fun vs h2 tk2 hl hPs st2 hs2 => wpAny_pure ?_))
    refine hQ (v :: vs) h2 tk2 (by rw [List.length_cons, hl]) (fun j u e => ?_) (by rw [show i + (k + 1) = i + 1 + k by lia]; exact st2) (hs1.trans hs2)
    cases j with
    | zero => simp at e; subst e; exact hP
    | succ j => have := hPs j u (by simpa using e); rw [show i + (j + 1) = i + 1 + j by lia]; exact this

theorem tls_of_get {h : Heap} {X : Nat → Prop} : ∀ {vs : List Value} {ds : List D}, vs.length = ds.length → (∀ (j : Nat) v, vs[j]? = some v → ∃ d, ds[j]? = some d ∧ Tl h X v d) → Tls h X vs ds
  | [], [], _, _ => .nil
  | v :: vs, d :: ds, hl, h => by
    obtain ⟨d', e, t⟩ := h 0 v (by simp)
    simp at e
    subst e
    exact .cons t (tls_of_get (by simpa using hl) fun j u e => by simpa using h (j + 1) u (by simpa using e))

theorem unpack_seq {A : Around} {E : Value → Shared → Prop} {s : Shared} {X : Nat → Prop} {Q : List Value → Shared → Prop} {u : Value} {ds : List D} {N : Nat} (r : A.handled = none) (c : Cx B X s) (t : Tl s.heap X u (.list ds) ∨ Tl s.heap X u (.tup ds)) (hN : N = ds.length)
    (k : ∀ vs s', Ks X s s' → Tls s'.heap X vs ds → Q vs s') : wpAny (model prog w) A (unpackItems u N none) Q E s := by
  have fin : ∀ {I a : Nat} {vs : List Value} {ob : Obj} {P : Nat → Value → Prop} {St : Nat → Heap → Prop}, I = s.heap.objs.size → vs.length = ds.length → Tls s.heap X vs ds → Wk prog w A I ds.length P St → St 0 (s.heap.push ob) →
      (∀ i v, P i v → vs[i]? = some v) → wpAny (model prog w) A (do
        let items ← holding [.ref I] (draw (.ref I) N)
        if items.length < N then
          rule "unpack.too-few"; raiseError "ValueError" s!"not enough values to unpack (expected {N}, got {items.length})"
        if (← holding items (pyNext (.ref I))).isSome then
          rule "unpack.too-many"; raiseError "ValueError" s!"too many values to unpack (expected {N})"
        return items) Q E { s with heap := s.heap.push ob } := by
    intro I a vs ob P St hI hl ts W st hP
    subst hN
    refine wpAny_bind (wpAny_holding (draw_wk W ds.length 0 _ _ (by lia) st fun us h1 tk1 hul hus st1 hs1 => ?_))
    rw [if_neg (by lia)]
    refine wpAny_bind (wpAny_holding (W.done _ _ _ (by simpa using st1) fun h2 he hsz => ?_))
    simp only [Option.isSome_none, Bool.false_eq_true, if_false]
    have hneI : ∀ b o, s.heap.get? b = some o → b ≠ I := fun b o e q => by have := ltz e; rw [q, hI] at this; exact Nat.lt_irrefl _ this
    have kp : ∀ b o, s.heap.get? b = some o → h2.get? b = some o := fun b o e => he b o (hneI b o e) (hs1.extBut b o (hneI b o e) (Heap.get?_push_of_some _ e))
    have hsz' : s.heap.objs.size ≤ h2.objs.size := by
      have h1s : h1.objs.size = s.heap.objs.size + 1 := hs1.1.trans (Heap.size_push ..)
      have hsz2 : h1.objs.size ≤ h2.objs.size := hsz
      rw [h1s] at hsz2
      exact Nat.le_of_succ_le hsz2
    refine wpAny_pure (k us _ (Ks.of (s := s) (h := h2) (t := tk1) kp hsz') ?_)
    refine tls_of_get (by assumption) fun j v e => ?_
    have hv := hP _ v (hus j v e)
    rw [Nat.zero_add] at hv
    obtain ⟨d, e1, t1⟩ := ts.get' hv
    exact ⟨d, e1, t1.move (fun b o _ e => kp b o e) fun _ q => .inl q⟩
  have sw : ∀ (i : Nat) {vs : List Value}, vs.length = ds.length → i < ds.length → ∃ x, vs.toArray[i]? = some x := fun i vs hl hi => ⟨_, Array.getElem?_eq_getElem (by simp; lia)⟩
  rcases t with t | t
  · cases t using Tl.listE with
    | list p nx z ts =>
      rename_i a vs
      have hl := ts.length
      have hlt : a ≠ s.heap.objs.size := nen (by have : a < s.heap.objs.size := (let ⟨_, e⟩ := p; ltz e); lia)
      unfold unpackItems
      refine wpAny_bind ?_
      unfold notIterableAtAll
      refine wpAny_bind (wpAny_specialOf p.isList.typeIs slot_list_iter.lookup ?_)
      refine wpAny_pure ?_
      simp only [Bool.false_eq_true, if_false]
      refine wpAny_bind (wpAny_holding (wpAny_pyIter_list p.isList ?_))
      refine fin (a := a) (P := fun i v => vs.toArray[i]? = some v) (St := fun i h => h.IsListIter s.heap.objs.size a i ∧ h.IsList a vs.toArray) rfl hl ts ⟨fun i s' Q' E' hi st hQ => ?_, fun s' Q' E' st hQ => ?_⟩ ⟨⟨_, Heap.get?_push_size _ rfl, rfl, rfl⟩, p.isList.push _⟩ (fun i v e => by simpa using e)
      · obtain ⟨x, hx⟩ := sw i hl hi
        exact wpAny_pyNext_list_item st.1 st.2 hx fun h' h1 h2 => hQ x h' _ hx ⟨h1, st.2.at fun ob e => h2.extBut _ ob hlt e⟩ h2
      · exact stop_list r st.1 st.2 (by rw [Array.getElem?_eq_none]; simp [hl]) hQ
  · cases t using Tl.tupE with
    | tup p nx z ts =>
      rename_i a vs
      have hl := ts.length
      have hlt : a ≠ s.heap.objs.size := nen (by have : a < s.heap.objs.size := (let ⟨_, e, _⟩ := p; ltz e); lia)
      have ta : ∀ {h h' : Heap}, h.IsTuple a vs.toArray → (∀ o, h.get? a = some o → h'.get? a = some o) → h'.IsTuple a vs.toArray := fun ⟨o, e, r⟩ k => ⟨o, k o e, r⟩
      unfold unpackItems
      refine wpAny_bind ?_
      unfold notIterableAtAll
      refine wpAny_bind (wpAny_specialOf p.typeIs F.slot_tuple_iter.lookup ?_)
      refine wpAny_pure ?_
      simp only [Bool.false_eq_true, if_false]
      refine wpAny_bind (wpAny_holding (wpAny_pyIter_tuple p ?_))
      refine fin (a := a) (P := fun i v => vs.toArray[i]? = some v) (St := fun i h => h.IsTupleIter s.heap.objs.size a i ∧ h.IsTuple a vs.toArray) rfl hl ts ⟨fun i s' Q' E' hi st hQ => ?_, fun s' Q' E' st hQ => ?_⟩ ⟨⟨_, Heap.get?_push_size _ rfl, rfl, rfl⟩, p.push _⟩ (fun i v e => by simpa using e)
      · obtain ⟨x, hx⟩ := sw i hl hi
        exact wpAny_pyNext_tuple_item st.1 st.2 hx fun h' h1 h2 => hQ x h' _ hx ⟨h1, ta st.2 fun ob e => h2.extBut _ ob hlt e⟩ h2
      · exact stop_tuple r st.1 st.2 (by rw [Array.getElem?_eq_none]; simp [hl]) hQ

inductive Tg (sc : Scope) : List Expr → List D → (Rho → Rho) → Prop
  | nil : Tg sc [] [] id
  | cons {x : Str} {p : Pos} {d : D} {es : List Expr} {ds : List D} {g : Rho → Rho} : (sc.names.lookup x = some .local ∨ sc.names.lookup x = some .cell) → (x == ("__debug__" : Str)) = false → (x == ("__classdict__" : Str)) = false → Tg sc es ds g → Tg sc (.Name x p :: es) (d :: ds) fun ρ => g (ρ.set x d)

theorem Tg.own {es : List Expr} {ds : List D} {g : Rho → Rho} (t : Tg sc es ds g) : ∀ (ρ : Rho) (s : Shared), OwnIn ρ (g ρ) s := by
  induction t with
  | nil => exact fun ρ s => OwnIn.refl ρ s
  | cons _ _ _ _ ih => exact fun ρ s => (Rho.set_own s).trans (ih _ s) (Nat.le_refl _)
theorem Tg.len {es : List Expr} {ds : List D} {g : Rho → Rho} (t : Tg sc es ds g) (env : Env) : (assignEach es env).length = ds.length ∧ (assignEach es env).findIdx? (·.1) = none := by
  induction t with
  | nil => exact ⟨rfl, rfl⟩
  | @cons x p d es ds g _ _ _ _ ih =>
    have e : assignEach (.Name x p :: es) env = (false, assign (.Name x p) env) :: assignEach es env := rfl
    rw [e]
    refine ⟨by rw [List.length_cons, List.length_cons, ih.1], ?_⟩
    rw [List.findIdx?_cons]
    simp [ih.2]
theorem Tg.go {es : List Expr} {ds : List D} {g : Rho → Rho} (t : Tg sc es ds g) : ∀ {A : Around} {env : Env} {E : Value → Shared → Prop} {s : Shared} {X : Nat → Prop} {Q : Unit → Shared → Prop} {ρ : Rho} {vs : List Value}, Eo sc env → Fs B env X s ρ → Tls s.heap X vs ds →
    (∀ s', Tn (Mut env ρ) s s' → Fs B env X s' (g ρ) → Q () s') → wpAny (model prog w) A (assignInOrder ((assignEach es env).map (·.2)) vs) Q E s := by
  induction t with
  | nil =>
    intro A env E s X Q ρ vs o f ts k
    cases ts using Tls.nilE
    exact wpAny_pure (k s (Tn.refl s) f)
  | @cons x p d es ds g h1 h2 h3 _ ih =>
    intro A env E s X Q ρ vs o f ts k
    cases ts using Tls.consE with
    | cons a b =>
      rename_i v vs
      show wpAny _ _ (do holding vs (assign (.Name x p) env v); assignInOrder ((assignEach es env).map (·.2)) vs) Q E s
      refine wpAny_bind (wpAny_holding (wpAny_assign_Name (store_name o f h1 a h2 h3 fun s1 f1 t1 => ?_)))
      have b1 : Tls s1.heap X vs ds := b.move (fun b ob nb e => t1.kp b ob (fun m => nb (Mut.inX f m)) (fun z => nb (z ▸ f.cx.tb)) e) fun _ q => .inl q
      exact ih o f1 b1 fun s2 t2 f2 => k s2 (t1.trans t2 fun b m => Mut.le (Rho.set_own s) m) f2

theorem as_tuple {es : List Expr} {ds : List D} {g : Rho → Rho} {k : Nat} {pos : Pos} (t : Tg sc es ds g) : AS prog w B n sc (.Tuple es k pos) (.list ds) g ∧ AS prog w B n sc (.Tuple es k pos) (.tup ds) g := by
  have key : ∀ (A : Around) (env : Env) (E : Value → Shared → Prop) (s : Shared) (X : Nat → Prop) (Q : Unit → Shared → Prop) (ρ : Rho) (v : Value), Room n A → Eo sc env → Fs B env X s ρ → (Tl s.heap X v (.list ds) ∨ Tl s.heap X v (.tup ds)) →
    (∀ s', Tn (Mut env ρ) s s' → OwnIn ρ (g ρ) s → Fs B env X s' (g ρ) → Q () s') → wpAny (model prog w) A (assign (.Tuple es k pos) env v) Q E s := fun A env E s X Q ρ v r o f tv kk => by
    rw [arm_assign_Tuple]
    refine wpAny_bind (wpAny_standAt ?_)
    unfold unpack
    rw [(t.len env).2]
    refine wpAny_bind (wpAny_holding (unpack_seq r.hand f.cx tv (t.len env).1 fun vs s1 k1 t1 => ?_))
    exact t.go o (k1.fs f) t1 fun s2 t2 f2 => kk s2 (k1.tn.trans t2 fun b m => .inl m) (t.own ρ s) f2
  exact ⟨fun A env E s X Q ρ v r o f tv kk => key A env E s X Q ρ v r o f (.inl tv) kk, fun A env E s X Q ρ v r o f tv kk => key A env E s X Q ρ v r o f (.inr tv) kk⟩

theorem px_tassign {es : List Expr} {g : Rho → Rho} {k : Nat} {tpos pos : Pos} {e : Expr} {rest : List Stmt} {R : Post} {d : D} (he : PE prog w B n sc ρ e d) (t : AS prog w B n sc (.Tuple es k tpos) d g)
    (hs : ∀ env, Eo sc env → swapsWithSole [.Tuple es k tpos] e pos.line env = pure false) (hw : ∀ env, Eo sc env → swappedStores [.Tuple es k tpos] e env = pure none) (h2 : PX prog w B n sc (g ρ) rest R) : PX prog w B n sc ρ (.Assign [.Tuple es k tpos] e pos :: rest) R :=
  px_step (fun A env E s X Q rm o f kk => Assign_Tuple (he A env E s X _ rm o f.cx f.vs fun v s1 k1 t1 => t A env E s1 X _ ρ v rm o (k1.fs f) t1 fun s2 t2 oi f2 => kk s2 (k1.tn.trans t2 fun b m => .inl m) (fun p hp => (oi p hp).imp_right fun z => Nat.le_trans k1.sz z) f2) (hs env o) (hw env o)) h2

theorem pe_tuple {es : List Expr} {ds : List D} {k : Nat} {pos} (h : PEs prog w B n sc ρ es ds) (hz : ds.length ≤ 100000 := by with_unfolding_all exact Nat.le_of_ble_eq_true rfl) : PE prog w B n sc ρ (.Tuple es k pos) (.tup ds) := fun A env E s X Q r o c v kk => by
  refine Tuple_ (h A env pos E s X _ r o c v fun vs s1 k1 t => ?_)
  have hl := t.length
  refine wpAny_newObj_type (kk _ _ (k1.trans (Ks.push s1 _ _)) ?_) (by show vs.toArray.size ≤ sizeLine; rw [List.size_toArray, sizeLine_eq]; lia)
  refine .tup ⟨_, Heap.get?_push_size _ rfl, rfl, 0, rfl⟩ (fun q => Nat.lt_irrefl _ ((k1.cx c).xlt _ q)) (by lia) (t.move (fun b o _ e => Heap.get?_push_of_some _ e) fun _ q => .inl q)
noncomputable def nmOf : Expr → Option Str
  | .Name x _ => some x
  | _ => none
theorem name_of {e : Expr} {x : Str} (h : nmOf e = some x) : ∃ p, e = .Name x p := by
  cases e with
  | Name y p => exact ⟨p, congrArg (Expr.Name · p) (Option.some.inj h)⟩
  | _ => exact nomatch (show none = some x from h)
noncomputable def nmTest (sc : Scope) (x : Str) : Bool := (sc.names.lookup x == some .local || sc.names.lookup x == some .cell) && !(x == ("__debug__" : Str)) && !(x == ("__classdict__" : Str))
noncomputable def tgSet : List Expr → List D → Rho → Rho
  | [], _, ρ => ρ
  | _ :: _, [], ρ => ρ
  | e :: es, d :: ds, ρ => tgSet es ds (match nmOf e with | some x => ρ.set x d | none => ρ)
noncomputable def tgOk (sc : Scope) : List Expr → Nat → Bool
  | [], 0 => true
  | [], _ + 1 => false
  | _ :: _, 0 => false
  | e :: es, k + 1 => ((nmOf e).any fun x => nmTest sc x) && tgOk sc es k
theorem Tg.of : ∀ {es : List Expr} {ds : List D}, tgOk sc es ds.length = true → Tg sc es ds (tgSet es ds)
  | [], [], _ => .nil
  | [], _ :: _, h => nomatch (show false = true from h)
  | _ :: _, [], h => nomatch (show false = true from h)
  | e :: es, d :: ds, h => by
    obtain ⟨h1, h2⟩ := Bool.and_eq_true_iff.mp (show (((nmOf e).any fun x => nmTest sc x) && tgOk sc es ds.length) = true from h)
    obtain ⟨x, q, h1⟩ := (Option.any_eq_true _ _).mp h1
    obtain ⟨p, rfl⟩ := name_of q
    have h1 : ((sc.names.lookup x == some .local || sc.names.lookup x == some .cell) && !(x == ("__debug__" : Str)) && !(x == ("__classdict__" : Str))) = true := h1
    simp only [Bool.and_eq_true, Bool.not_eq_true', Bool.or_eq_true, beq_iff_eq] at h1
    exact .cons h1.1.1 h1.1.2 h1.2 (Tg.of h2)
theorem as_tupT {es : List Expr} {ds : List D} {k : Nat} {pos : Pos} (ok : tgOk sc es ds.length = true) : AS prog w B n sc (.Tuple es k pos) (.tup ds) (tgSet es ds) := (as_tuple (Tg.of ok)).2
theorem as_tupL {es : List Expr} {ds : List D} {k : Nat} {pos : Pos} (ok : tgOk sc es ds.length = true) : AS prog w B n sc (.Tuple es k pos) (.list ds) (tgSet es ds) := (as_tuple (Tg.of ok)).1
end
end Mine
end

section
open PySem PySem.W PySem.Calls PyProof.Rows
set_option Elab.async false
set_option linter.unusedVariables false
set_option linter.unusedSectionVars false
set_option maxRecDepth 10000
namespace Mine
variable [Star]

inductive GrAt (B : Heap) (i : Nat) (a : Nat) (names : List Str) : Prop
  | mk (o : Obj) (fd : FuncData) (h1_ : B.get? a = some o) (h2_ : o.data = .func fd) (h3_ : B.CodeRec fd.code fd.qualname) (h4_ : fd.body = .stmts (fb i)) (h5_ : fd.scope = fsc i) (h6_ : fd.closure = []) (h7_ : fd.globals = mainGlobals) (h8_ : fd.builtins = builtinsNs) (h9_ : ((fsc i).names.lookup ("QUESTION_MARK" : Str) = some .local → fd.code = .ref tc ∧ (fsc i).names.all (fun y => y.2 != .cell) = true)) (h10_ : ∀ vs : List Value, vs.length = names.length → bindArgs fd ⟨vs, []⟩ = pure (names.zip vs))
structure Gr (B : Heap) (i : Nat) (f : Str) (a : Nat) (names : List Str) : Prop where
  fn : GlobFn B f a
  at_ : GrAt B i a names
  lim : B.NoLimit
  ok : defOk (fsc i) names = true

section
variable {prog : Program} {w : World} {B : Heap} {n : Nat} {sc : Scope} {ρ : Rho}

theorem fa_of {i a : Nat} {f : Str} {ps : List (Str × D)} {d : D} (g : Gr B i f a (ps.map (·.1))) (h : PX prog w B n (fsc i) (rho ps) (fb i) { nx := fun _ => d = .none, rt := (· = d) }) : FA prog w B (n + 1) a (ps.map (·.2)) d := by
  obtain ⟨o, fd, h1, h2, h3, h4, h5, h6, h7, h8, h10, h9⟩ := g.at_
  refine fa_def h1 h2 g.lim h3 h4 h6 h7 h8 (fun vs hv => h9 vs (by simpa using hv)) (by rw [h5]; exact g.ok) (by rw [h5]; exact h10) ?_
  rw [h5]
  exact h
theorem FA.mono {n m a : Nat} {ds : List D} {d : D} (h : FA prog w B n a ds d) (l : n ≤ m) : FA prog w B m a ds d := fun A E s X Q vs r => h A E s X Q vs (r.mono l)
theorem PX.ret {ss : List Stmt} {d : D} (h : PX prog w B n sc ρ ss { nx := fun _ => False, rt := (· = d) }) : PX prog w B n sc ρ ss { nx := fun _ => d = .none, rt := (· = d) } := h.mono (fun _ h => h.elim) (fun _ h => h.elim) (fun _ h => h.elim) fun _ h => h

theorem joinOk_of {sep : Str} {M K : Nat} {texts : List Str} (h : ∀ t ∈ texts, t.length ≤ M) (hK : texts.length ≤ K) (hb : K * (M + sep.length) ≤ 16000000) : JoinOk sep texts = true := by
  have key : ∀ (l : List Str) (acc : Nat), (∀ t ∈ l, t.length ≤ M) → l.foldl (fun a t => a + t.length + sep.length) acc ≤ acc + l.length * (M + sep.length) := by
    intro l
    induction l with
    | nil => intro acc _; simp
    | cons x r ih =>
      intro acc hl
      rw [List.foldl_cons, List.length_cons, Nat.succ_mul]
      have h1 := ih (acc + x.length + sep.length) fun t ht => hl t (.tail _ ht)
      have h2 := hl x (.head _)
      lia
  have h1 := key texts 0 h
  have h2 : texts.length * (M + sep.length) ≤ K * (M + sep.length) := Nat.mul_le_mul_right _ hK
  unfold JoinOk Builtin.Str.tooLong
  rw [Bool.not_eq_true', decide_eq_false_iff_not]
  have e : (texts.toArray.foldl (fun a t => a + t.length + sep.length) 0) = texts.foldl (fun a t => a + t.length + sep.length) 0 := by simp
  rw [e]
  have hs : sizeLine = 2 ^ 24 := by decide
  rw [hs]
  grind

theorem BO.to {f : Value → Value → Sem Value} {a b : D} {c c' : Bool} (h : BO prog w B f a b (.bool c)) (e : c = c') : BO prog w B f a b (.bool c') := e ▸ h

theorem pe_map {z : Bool} {elt iter : Expr} {x : Str} {px : Pos} {scope : Scope} {pos : Pos} {ds : List D} (F : D → D) (ok : compOk scope sc x = true)
    (hxd : (x == ("__debug__" : Str)) = false) (hxc : (x == ("__classdict__" : Str)) = false) (hsrc : PI prog w B z n sc ρ iter ds)
    (helt : ∀ d ∈ ds, PE prog w B n (relS scope sc) (rhoC scope ρ x d) elt (F d)) (hz : ds.length ≤ 100000) (hs : ∀ env x, foldedSetIterable iter env x = pure x := by intro _ _; with_unfolding_all rfl) :
    PE prog w B n sc ρ (.ListComp elt [⟨.Name x px, iter, [], 0⟩] scope pos) (.list (ds.map F)) := by
  have := pe_comp (pos := pos) (px := px) (fun _ => true) F ok hxd hxc hsrc (fun _ _ => pts_nil) (fun d hd _ => helt d hd) hz hs
  rw [List.filter_eq_self.mpr (fun _ _ => rfl)] at this
  exact this
end
end Mine
end

section
open PySem PySem.W PySem.Calls PyProof.Rows
set_option Elab.async false
set_option linter.unusedVariables false
set_option linter.unusedSectionVars false
set_option maxRecDepth 10000
namespace Mine
variable [Star]

section
variable {prog : Program} {w : World} {B : Heap} {n : Nat}

noncomputable def one (c : String) : D := .list [.str c, .str c, .bool false]
noncomputable def iStar : D := .list [.str "*", .str "", .bool false]
noncomputable def iSome : D := .list [.str "?", .str "", .bool true]
noncomputable def iLess : D := .list [.str "[!a]", .str "a", .bool true]
noncomputable def iSomeOf : D := .list [.str "[a-c]", .str "abc", .bool false]
noncomputable def iHash : D := .list [.str "[#]", .str "#", .bool false]
noncomputable def itemsD : List D :=
  [.list [iStar], .list [one "a", iSome, one "b"], .list [iStar, one "\"", iStar], .list [one "e", one "\\", iSome], .list [iHash, one "g"], .list [one "a", one " ", one "b"], .list [one " ", one "a", iStar],
   .list [one "\"", iSome], .list [one "\\", iStar], .list [iLess, iStar], .list [iSomeOf, one " ", one "b"], .list [one "a", iStar, iStar, one "b"]]
noncomputable def signD : D → D
  | .str s => .list [.str s, .str s, .bool false]
  | d => d

theorem px_items {k : Int} {d : D} (hk : atD itemsD k = some d) : PX prog w B n (fsc 27) (rho [("k", .int k)]) (fb 27) { nx := fun _ => False, rt := (· = d) } := by
  unfold fb stm
  change PX _ _ _ _ _ _ (_ :: _) _
  with_reducible refine px_tassign (d := .tup [iStar, iSome, iLess, iSomeOf]) ?_ (as_tupT ?_) ?_ ?_ ?_
  · unfold iStar iSome iLess iSomeOf; repeat' (first | (with_reducible exact pe_int) | (with_reducible exact pe_str) | (with_reducible exact pe_bool) | (with_reducible exact pe_none) | ((with_reducible refine pe_name ?_); exact rfl) | (with_reducible exact pes_nil) | with_reducible refine pes_cons ?_ ?_ (fun _ => rfl) | with_reducible refine pe_list ?_ ?_ | with_reducible refine pe_tuple ?_ ?_ | exact Nat.le_of_ble_eq_true rfl)
  · decide +kernel
  · exact fun _ _ => rfl
  · exact fun _ _ => rfl
  with_reducible refine px_tassign (d := .list [one "a", one "b", one "e", one "g", one " ", one "\"", one "\\"]) ?_ (as_tupL ?_) ?_ ?_ ?_
  · have e : D.list [one "a", one "b", one "e", one "g", one " ", one "\"", one "\\"] = .list (((("abeg \"\\" : Str).cps.toList.map fun c => D.str ⟨#[c]⟩).filter fun _ => true).map signD) := by kernel_rfl
    rw [e]
    with_reducible refine pe_comp (z := false) (fun _ => true) signD ?_ ?_ ?_ (pi_str pe_str) (fun d hd => pts_nil) (fun d hd _ => ?_) ?_ ?_
    · decide +kernel
    · decide +kernel
    · decide +kernel
    · obtain ⟨c, _, rfl⟩ := List.mem_map.mp hd
      show PE _ _ _ _ _ _ _ (.list [.str ⟨#[c]⟩, .str ⟨#[c]⟩, .bool false])
      repeat' (first | (with_reducible exact pe_int) | (with_reducible exact pe_str) | (with_reducible exact pe_bool) | (with_reducible exact pe_none) | ((with_reducible refine pe_name ?_); exact rfl) | (with_reducible exact pes_nil) | with_reducible refine pes_cons ?_ ?_ (fun _ => rfl) | with_reducible refine pe_list ?_ ?_ | with_reducible refine pe_tuple ?_ ?_ | exact Nat.le_of_ble_eq_true rfl)
    · decide +kernel
    · exact fun _ _ => rfl
  · decide +kernel
  · exact fun _ _ => rfl
  · exact fun _ _ => rfl
  with_reducible refine px_assign (d := .list (itemsD.take 7)) ?_ ?_ ?_ ?_ ?_ ?_
  · show PE _ _ _ _ _ _ _ (.list [.list [iStar], .list [one "a", iSome, one "b"], .list [iStar, one "\"", iStar], .list [one "e", one "\\", iSome], .list [iHash, one "g"], .list [one "a", one " ", one "b"], .list [one " ", one "a", iStar]])
    unfold iHash
    repeat' (first | (with_reducible exact pe_int) | (with_reducible exact pe_str) | (with_reducible exact pe_bool) | (with_reducible exact pe_none) | ((with_reducible refine pe_name ?_); exact rfl) | (with_reducible exact pes_nil) | with_reducible refine pes_cons ?_ ?_ (fun _ => rfl) | with_reducible refine pe_list ?_ ?_ | with_reducible refine pe_tuple ?_ ?_ | exact Nat.le_of_ble_eq_true rfl)
  · exact .inl (by decide +kernel)
  · exact fun _ _ => rfl
  · decide +kernel
  · decide +kernel
  with_reducible refine px_return (d := d) ?_ rfl
  with_reducible refine pe_item_list (ds := itemsD.take 7 ++ itemsD.drop 7) (i := k) (pe_binop (a := .list (itemsD.take 7)) (b := .list (itemsD.drop 7)) ?_ ?_ (bo_add_list ?_)) ?_ ?_ (fun _ _ => rfl)
  · (first | (with_reducible exact pe_int) | (with_reducible exact pe_str) | (with_reducible exact pe_bool) | (with_reducible exact pe_none) | ((with_reducible refine pe_name ?_); exact rfl) | (with_reducible exact pes_nil) | with_reducible refine pes_cons ?_ ?_ (fun _ => rfl) | with_reducible refine pe_list ?_ ?_ | with_reducible refine pe_tuple ?_ ?_ | exact Nat.le_of_ble_eq_true rfl)
  · show PE _ _ _ _ _ _ _ (.list [.list [one "\"", iSome], .list [one "\\", iStar], .list [iLess, iStar], .list [iSomeOf, one " ", one "b"], .list [one "a", iStar, iStar, one "b"]])
    repeat' (first | (with_reducible exact pe_int) | (with_reducible exact pe_str) | (with_reducible exact pe_bool) | (with_reducible exact pe_none) | ((with_reducible refine pe_name ?_); exact rfl) | (with_reducible exact pes_nil) | with_reducible refine pes_cons ?_ ?_ (fun _ => rfl) | with_reducible refine pe_list ?_ ?_ | with_reducible refine pe_tuple ?_ ?_ | exact Nat.le_of_ble_eq_true rfl)
  · decide
  · (first | (with_reducible exact pe_int) | (with_reducible exact pe_str) | (with_reducible exact pe_bool) | (with_reducible exact pe_none) | ((with_reducible refine pe_name ?_); exact rfl) | (with_reducible exact pes_nil) | with_reducible refine pes_cons ?_ ?_ (fun _ => rfl) | with_reducible refine pe_list ?_ ?_ | with_reducible refine pe_tuple ?_ ?_ | exact Nat.le_of_ble_eq_true rfl)
  · rw [List.take_append_drop]; exact hk
end
end Mine
end

section
open PySem PySem.W PySem.Calls PyProof.Rows
set_option Elab.async false
set_option linter.unusedVariables false
set_option linter.unusedSectionVars false
set_option maxRecDepth 10000
namespace Mine
variable [Star]

section
variable {prog : Program} {w : World} {B : Heap} {n : Nat}

noncomputable def pieceF (x : Int) : D → D
  | .int k => .int (((x.fdiv 3).fdiv ((14 : Int) ^ k.toNat)).fmod 14)
  | d => d
noncomputable def piecesN (x : Int) : Nat := (1 + x.fmod 3).toNat
noncomputable def piecesL (x : Int) : List Int := (List.range (piecesN x)).map fun k => ((x.fdiv 3).fdiv ((14 : Int) ^ k)).fmod 14
theorem piecesN_le (x : Int) : piecesN x ≤ 3 := by
  have e3 : x.fmod 3 = x % 3 := Int.fmod_eq_emod_of_nonneg x (by decide)
  unfold piecesN; rw [e3]; lia
theorem piecesL_len (x : Int) : (piecesL x).length ≤ 3 := by unfold piecesL; rw [List.length_map, List.length_range]; exact piecesN_le x
theorem piecesL_lt (x : Int) : ∀ p ∈ piecesL x, 0 ≤ p ∧ p < 14 := fun p hp => by
  obtain ⟨k, _, rfl⟩ := List.mem_map.mp hp
  rw [Int.fmod_eq_emod_of_nonneg _ (by decide)]
  omega

theorem px_pieces (hr : GlobBlt B "range" (.type "range")) (x : Int) : PX prog w B n (fsc 28) (rho [("x", .int x)]) (fb 28) { nx := fun _ => False, rt := (· = .list ((piecesL x).map .int)) } := by
  unfold fb stm
  change PX _ _ _ _ _ _ (_ :: _) _
  have e3 : x.fmod 3 = x % 3 := Int.fmod_eq_emod_of_nonneg x (by decide)
  have hN : piecesN x = (1 + x % 3).toNat := by unfold piecesN; rw [e3]
  refine px_return (d := .list (((List.range (piecesN x)).map fun (i : Nat) => .int (i : Int)).map (pieceF x))) ?_ (by simp only [piecesL, List.map_map]; rfl)
  with_reducible refine pe_map (z := true) (pieceF x) (by decide +kernel) (by decide +kernel) (by decide +kernel) (pi_range1 hr (by decide +kernel) (pe_binop pe_int (pe_binop (pe_name rfl) pe_int (bo_mod_int (by decide))) bo_add_int) (by lia) (by lia)) (fun d hd => ?_) (by simp; grind)
  obtain ⟨i, hi, rfl⟩ := List.mem_map.mp hd
  have hi2 : i < 3 := by have := List.mem_range.mp hi; grind
  have h14 : ((14 : Int) ^ i) ≠ 0 := by have : i = 0 ∨ i = 1 ∨ i = 2 := by lia
                                        rcases this with rfl | rfl | rfl <;> decide
  with_reducible refine pe_binop (pe_binop (pe_binop (pe_name rfl) pe_int (bo_div_int (by decide) ?_)) (pe_binop pe_int (pe_name rfl) (bo_pow_int (by lia) ?_)) (bo_div_int ?_ ?_)) pe_int (bo_mod_int (by decide))
  · exact PyProof.noPylong_of_log2 (by decide +kernel)
  · have : i = 0 ∨ i = 1 ∨ i = 2 := by lia
    rcases this with rfl | rfl | rfl <;> decide +kernel
  · exact h14
  · have : i = 0 ∨ i = 1 ∨ i = 2 := by lia
    rcases this with rfl | rfl | rfl <;> exact PyProof.noPylong_of_log2 (by decide +kernel)

noncomputable def pText : List Str := ["*", "a?b", "*\"*", "e\\?", "[#]g", "a b", " a*", "\"?", "\\*", "[!a]*", "[a-c] b", "a**b", ".", ".."]
noncomputable def pieceT (p : Int) : Str := (pText[p.toNat]?).getD ""
theorem pieceT_len {p : Int} (h : 0 ≤ p ∧ p < 14) : (pieceT p).length ≤ 7 := by
  have : p.toNat < 14 := by lia
  unfold pieceT
  generalize p.toNat = k at *
  have h2 : ∀ k : Nat, k < 14 → ((pText[k]?).getD ("" : Str)).length ≤ 7 := by decide +kernel
  exact h2 k this
noncomputable def headD : D → D
  | .list (x :: _) => x
  | d => d
noncomputable def textD : D → D
  | .int p => .str (pieceT p)
  | d => d
noncomputable def pathT (L : List Int) : Str := Txt.join "/" (L.map pieceT)

noncomputable def textOf : D → Str
  | .list (.str x :: _) => x
  | _ => ""
noncomputable def hdOk : D → Bool
  | .list (.str _ :: _) => true
  | _ => false
theorem hdOk_of {d : D} (h : hdOk d = true) : ∃ x r, d = .list (.str x :: r) := by
  cases d with
  | list l =>
    cases l with
    | nil => exact nomatch (show false = true from h)
    | cons e r =>
      cases e with
      | str x => exact ⟨x, r, rfl⟩
      | _ => exact nomatch (show false = true from h)
  | _ => exact nomatch (show false = true from h)
theorem heads_of {its : List D} (h : its.all hdOk = true) : its.map headD = (its.map textOf).map .str ∧ ∀ d ∈ its, ∃ x r, d = .list (.str x :: r) := by
  have k : ∀ d ∈ its, ∃ x r, d = .list (.str x :: r) := fun d hd => hdOk_of (List.all_eq_true.mp h d hd)
  refine ⟨?_, k⟩
  rw [List.map_map]
  exact List.map_congr_left fun d hd => by obtain ⟨x, r, rfl⟩ := k d hd; rfl
noncomputable def itemChk (k : Nat) : Bool := match atD itemsD (k : Int) with
  | some (.list its) => its.all hdOk && decide ((its.map textOf).length ≤ 4) && (its.map textOf).all (fun t => decide (t.length ≤ 5)) && decide (Txt.join "" (its.map textOf) = pieceT (k : Int))
  | _ => false
theorem itemChk_ok : ∀ k : Nat, k < 12 → itemChk k = true := by decide +kernel
theorem item_text {p : Int} (h0 : 0 ≤ p) (h : p < 12) : ∃ (its : List D) (texts : List Str), atD itemsD p = some (.list its) ∧ its.map headD = texts.map .str ∧ (∀ d ∈ its, ∃ x r, d = .list (.str x :: r)) ∧ texts.length ≤ 4 ∧ (∀ t ∈ texts, t.length ≤ 5) ∧ Txt.join "" texts = pieceT p := by
  obtain ⟨k, rfl⟩ := Int.eq_ofNat_of_zero_le h0
  have c := itemChk_ok k (Int.ofNat_lt.mp h)
  unfold itemChk at c
  split at c
  · rename_i its e
    simp only [Bool.and_eq_true, List.all_eq_true, decide_eq_true_eq] at c
    obtain ⟨⟨⟨c1, c2⟩, c3⟩, c4⟩ := c
    obtain ⟨m1, m2⟩ := heads_of (List.all_eq_true.mpr c1)
    exact ⟨its, _, e, m1, m2, c2, c3, c4⟩
  · cases c

theorem px_path {ai : Nat} (hi : GlobFn B "_law_items" ai) (fi : ∀ p d, atD itemsD p = some d → FA prog w B n ai [.int p] d) {L : List Int} (hL : ∀ p ∈ L, 0 ≤ p ∧ p < 14) (hl : L.length ≤ 3) :
    PX prog w B n (fsc 29) (rho [("pieces", .list (L.map .int))]) (fb 29) { nx := fun _ => False, rt := (· = .str (pathT L)) } := by
  unfold fb stm
  change PX _ _ _ _ _ _ (_ :: _) _
  with_reducible refine px_return (d := .str (pathT L)) ?_ rfl
  with_reducible refine pe_m1 (x := "/") (a := .list ((L.map pieceT).map .str)) pe_str ?_ (sm_join ?_)
  · have e : (L.map pieceT).map D.str = (L.map D.int).map textD := by rw [List.map_map, List.map_map]; rfl
    rw [e]
    with_reducible refine pe_map (z := true) textD ?_ ?_ ?_ (pi_list ?_) (fun d hd => ?_) ?_
    · decide +kernel
    · decide +kernel
    · decide +kernel
    · with_reducible refine pe_name ?_
      exact rfl
    · obtain ⟨p, hp, rfl⟩ := List.mem_map.mp hd
      obtain ⟨h0, h14⟩ := hL p hp
      show PE _ _ _ _ _ _ _ (.str (pieceT p))
      by_cases h12 : p < 12
      · with_reducible refine pe_if_f ?_ ?_
        · with_reducible refine pt_cmp (a := .int p) (b := .int 11) ?_ pe_int (bo_gt_int.to ?_)
          · with_reducible refine pe_name ?_
            exact rfl
          · exact decide_eq_false (by lia)
        · obtain ⟨its, texts, h1, h2, h3, h4, h5, h6⟩ := item_text h0 h12
          rw [← h6]
          with_reducible refine pe_m1 (x := "") (a := .list (texts.map .str)) pe_str ?_ (sm_join ?_)
          · rw [← h2]
            with_reducible refine pe_map (z := true) headD ?_ ?_ ?_ (pi_list ?_) (fun d hd => ?_) ?_
            · decide +kernel
            · decide +kernel
            · decide +kernel
            · with_reducible refine pe_call hi ?_ (pes_cons ?_ pes_nil) (fi p _ h1)
              · decide +kernel
              · with_reducible refine pe_name ?_
                exact rfl
            · obtain ⟨x, r, rfl⟩ := h3 d hd
              with_reducible refine pe_item_list (ds := .str x :: r) (i := 0) ?_ pe_int ?_
              · with_reducible refine pe_name ?_
                exact rfl
              · rfl
            · have := congrArg List.length h2
              simp at this
              lia
          · exact joinOk_of h5 h4 (by decide +kernel)
      · with_reducible refine pe_if_t ?_ ?_
        · with_reducible refine pt_cmp (a := .int p) (b := .int 11) ?_ pe_int (bo_gt_int.to ?_)
          · with_reducible refine pe_name ?_
            exact rfl
          · exact decide_eq_true (by lia)
        · with_reducible refine pe_item_list (ds := [.str ".", .str ".."]) (i := p - 12) ?_ (pe_binop ?_ pe_int bo_sub_int) ?_
          · exact pe_list (pes_cons pe_str (pes_cons pe_str pes_nil))
          · with_reducible refine pe_name ?_
            exact rfl
          · have : p = 12 ∨ p = 13 := by lia
            rcases this with rfl | rfl <;> rfl
    · rw [List.length_map]; lia
  · exact joinOk_of (M := 7) (K := 3) (fun t ht => by obtain ⟨p, hp, rfl⟩ := List.mem_map.mp ht; exact pieceT_len (hL p hp)) (by rw [List.length_map]; exact hl) (by decide +kernel)
end
end Mine
end

section
open PySem PySem.W PySem.Calls PyProof.Rows
set_option Elab.async false
set_option linter.unusedVariables false
set_option linter.unusedSectionVars false
set_option maxRecDepth 10000
namespace Mine
variable [Star]

section
variable {prog : Program} {w : World} {B : Heap} {n : Nat} {sc : Scope} {ρ : Rho}

theorem pe_or_bool {x y rest pos} {a b : Bool} (h1 : PE prog w B n sc ρ x (.bool a)) (h2 : PE prog w B n sc ρ (.BoolOp .Or (y :: rest) pos) (.bool b)) : PE prog w B n sc ρ (.BoolOp .Or (x :: y :: rest) pos) (.bool (a || b)) := by
  have := pe_or (q := a) h1 to_bool fun _ => h2
  cases a <;> exact this
theorem pe_and_bool {x y rest pos} {a b : Bool} (h1 : PE prog w B n sc ρ x (.bool a)) (h2 : PE prog w B n sc ρ (.BoolOp .And (y :: rest) pos) (.bool b)) : PE prog w B n sc ρ (.BoolOp .And (x :: y :: rest) pos) (.bool (a && b)) := by
  have := pe_and (q := a) h1 to_bool fun _ => h2
  cases a <;> exact this

theorem pe_if' {t b e pos} {q : Bool} {d : D} (ht : PT prog w B n sc ρ t q) (h1 : q = true → PE prog w B n sc ρ b d) (h2 : q = false → PE prog w B n sc ρ e d) : PE prog w B n sc ρ (.IfExp t b e pos) d := by
  cases q
  · exact pe_if_f ht (h2 rfl)
  · exact pe_if_t ht (h1 rfl)

noncomputable def plainB (x : Int) : Bool := (x.fdiv 2).fmod 2 == 1
noncomputable def quoteT (x : Int) : Str := if plainB x then " \\" else "\"\\"
noncomputable def shB (path : Str) (x : Int) (k : Nat) : Bool :=
  Txt.contains (quoteT x) ⟨#[(path.cps[k]?).getD 0]⟩ || ((plainB x && ((k : Int) == 0 && ((⟨#[(path.cps[k]?).getD 0]⟩ : Str) == "\""))) || (((k : Int) + x).fmod 3 == 0))
noncomputable def shD (path : Str) (x : Int) : D → D
  | .int k => .bool (shB path x k.toNat)
  | d => d
noncomputable def sgT (path : Str) (x : Int) (k : Nat) : Str := (if shB path x k then ("\\" : Str) else "") ++ ⟨#[(path.cps[k]?).getD 0]⟩
noncomputable def sgD (path : Str) (x : Int) : D → D
  | .int k => .str (sgT path x k.toNat)
  | d => d
noncomputable def bodyT (path : Str) (x : Int) : Str := Txt.join "" ((List.range path.length).map (sgT path x))
noncomputable def wordT (path : Str) (x : Int) : Str := if plainB x then bodyT path x else "\"" ++ bodyT path x ++ "\""

theorem sgT_len (path : Str) (x : Int) (k : Nat) : (sgT path x k).length ≤ 2 := by
  unfold sgT
  rw [Str.length_append]
  have h1 : (if shB path x k then ("\\" : Str) else "").length ≤ 1 := by
    split
    · decide +kernel
    · decide +kernel
  have h2 : (⟨#[(path.cps[k]?).getD 0]⟩ : Str).length = 1 := rfl
  lia

theorem swaps_cell {env : Env} {elt : Expr} {gens : List Comprehension} {s : Scope} {p0 p : Pos} {t : Str} {line : Nat} (o : Eo sc env) (h : sc.names.lookup t = some .cell) : swapsWith (.ListComp elt gens s p0) (some (.Name t p)) line env = pure false := by
  have hk : env.kindOf t = some .cell := by unfold Env.kindOf; rw [o.iss]; exact h
  show (pure (env.blockKind == .function && env.kindOf t == some .local && p.line == p0.line && !(s.names.any fun (n, k) => n == t && (k == .local || k == .cell))) : Sem Bool) = _
  rw [hk]
  have e : ((some NameKind.cell : Option NameKind) == some NameKind.local) = false := rfl
  rw [e, Bool.and_false, Bool.false_and, Bool.false_and]

theorem pi_rlen_str {np pos np2 pos2 : Pos} {e : Expr} {x : Str} (hr : GlobBlt B "range" (.type "range")) (hlen : GlobBlt B "len" (.builtin "len")) (h1 : sc.names.lookup ("range" : Str) = some .globalImplicit) (h2 : sc.names.lookup ("len" : Str) = some .globalImplicit) (he : PE prog w B n sc ρ e (.str x)) (hx : x.length ≤ 100000)
    (hs : ∀ env, starEach [e] env = [(false, eval e env)] := by intro _; with_unfolding_all rfl) : PI prog w B true n sc ρ (.Call (.Name "range" np) [.Call (.Name "len" np2) [e] [] pos2] [] pos) ((List.range x.length).map fun (i : Nat) => .int (i : Int)) := by
  have := pi_range1 (z := true) (np := np) (pos := pos) hr h1 (pe_b1 (np := np2) (pos := pos2) hlen h2 he (uo_len_str (by lia)) hs) (by lia) (by lia)
  exact this
theorem pi_rlen_list {np pos np2 pos2 : Pos} {e : Expr} {x : List D} (hr : GlobBlt B "range" (.type "range")) (hlen : GlobBlt B "len" (.builtin "len")) (h1 : sc.names.lookup ("range" : Str) = some .globalImplicit) (h2 : sc.names.lookup ("len" : Str) = some .globalImplicit) (he : PE prog w B n sc ρ e (.list x)) (hx : x.length ≤ 100000)
    (hs : ∀ env, starEach [e] env = [(false, eval e env)] := by intro _; with_unfolding_all rfl) : PI prog w B true n sc ρ (.Call (.Name "range" np) [.Call (.Name "len" np2) [e] [] pos2] [] pos) ((List.range x.length).map fun (i : Nat) => .int (i : Int)) := by
  have := pi_range1 (z := true) (np := np) (pos := pos) hr h1 (pe_b1 (np := np2) (pos := pos2) hlen h2 he uo_len_list hs) (by lia) (by lia)
  exact this

theorem px_word (hr : GlobBlt B "range" (.type "range")) (hlen : GlobBlt B "len" (.builtin "len")) {path : Str} (hp : path.length ≤ 1000) (x : Int) :
    PX prog w B n (fsc 30) (rho [("path", .str path), ("x", .int x)]) (fb 30) { nx := fun _ => False, rt := (· = .str (wordT path x)) } := by
  have hat : ∀ k : Nat, k < path.length → atD path.cps.toList (k : Int) = some ((path.cps[k]?).getD 0) := fun k hk => by
    unfold atD
    rw [if_pos (by lia)]
    have hk' : k < path.cps.size := hk
    simp [hk']
  have hbody : (bodyT path x).length ≤ 2000 := by
    show (Builtin.Str.glued _ _).length ≤ _
    rw [size_glued]
    have h1 : ∀ l : List Nat, ((l.map (sgT path x)).map (·.length)).sum ≤ 2 * l.length := by
      intro l
      induction l with
      | nil => simp
      | cons a r ih =>
        simp only [List.map_cons, List.sum_cons, List.length_cons]
        have := sgT_len path x a
        lia
    have h2 := h1 (List.range path.length)
    rw [List.length_range] at h2
    have h3 : ("" : Str).length = 0 := by decide +kernel
    rw [h3, Nat.mul_zero]
    lia
  have hsl : sizeLine = 2 ^ 24 := by decide
  unfold fb stm
  change PX _ _ _ _ _ _ (_ :: _) _
  -- plain
  with_reducible refine px_assign (d := .bool (plainB x)) ?_ ?_ ?_ ?_ ?_ ?_
  · with_reducible refine pe_cmp (pe_binop (pe_binop ?_ pe_int (bo_div_int ?_ ?_)) pe_int (bo_mod_int ?_)) pe_int bo_eq_int
    · with_reducible refine pe_name ?_
      exact rfl
    · decide
    · exact PyProof.noPylong_of_log2 (by decide +kernel)
    · decide
  · exact .inr (by decide +kernel)
  · exact fun _ _ => rfl
  · decide +kernel
  · decide +kernel
  -- shielded
  with_reducible refine px_assign (d := .list (((List.range path.length).map fun (i : Nat) => .int (i : Int)).map (shD path x))) ?_ ?_ ?_ ?_ ?_ ?_
  · with_reducible refine pe_map (z := true) (shD path x) ?_ ?_ ?_ (pi_rlen_str hr hlen ?_ ?_ ?_ ?_) (fun d hd => ?_) ?_
    · decide +kernel
    · decide +kernel
    · decide +kernel
    · decide +kernel
    · decide +kernel
    · with_reducible refine pe_name ?_
      exact rfl
    · lia
    · obtain ⟨k, hk, rfl⟩ := List.mem_map.mp hd
      have hk' := List.mem_range.mp hk
      show PE _ _ _ _ _ _ _ (.bool (shB path x ((k : Int).toNat)))
      rw [Int.toNat_natCast]
      have hat' := hat k hk'
      unfold shB
      with_reducible refine pe_or_bool ?_ (pe_or_bool (pe_and_bool ?_ (pe_and_bool ?_ (pe_and_one ?_))) (pe_or_one ?_))
      · with_reducible refine pe_cmp (pe_item_str ?_ ?_ hat' ?_) (pe_if' (q := plainB x) (d := .str (quoteT x)) (pt_plain ?_ to_bool) ?_ ?_) bo_in_str'
        · with_reducible refine pe_name ?_
          exact rfl
        · with_reducible refine pe_name ?_
          exact rfl
        · lia
        · with_reducible refine pe_name ?_
          exact rfl
        · intro h
          unfold quoteT
          rw [h]
          exact pe_str
        · intro h
          unfold quoteT
          rw [h]
          exact pe_str
      · with_reducible refine pe_name ?_
        exact rfl
      · with_reducible refine pe_cmp ?_ pe_int bo_eq_int
        with_reducible refine pe_name ?_
        exact rfl
      · with_reducible refine pe_cmp (pe_item_str ?_ ?_ hat' ?_) pe_str bo_eq_str
        · with_reducible refine pe_name ?_
          exact rfl
        · with_reducible refine pe_name ?_
          exact rfl
        · lia
      · with_reducible refine pe_cmp (pe_binop (pe_binop ?_ ?_ bo_add_int) pe_int (bo_mod_int ?_)) pe_int bo_eq_int
        · with_reducible refine pe_name ?_
          exact rfl
        · with_reducible refine pe_name ?_
          exact rfl
        · decide
    · rw [List.length_map, List.length_range]; lia
  · exact .inr (by decide +kernel)
  · exact fun _ o => swaps_cell o (by decide +kernel)
  · decide +kernel
  · decide +kernel
  -- signs
  with_reducible refine px_assign (d := .str (bodyT path x)) ?_ ?_ ?_ ?_ ?_ ?_
  · with_reducible refine pe_m1 (x := "") (a := .list (((List.range path.length).map (sgT path x)).map .str)) pe_str ?_ (sm_join ?_)
    · have e : (((List.range path.length).map (sgT path x)).map D.str) = ((List.range path.length).map fun (i : Nat) => D.int (i : Int)).map (sgD path x) := by rw [List.map_map, List.map_map]; rfl
      rw [e]
      with_reducible refine pe_map (z := true) (sgD path x) ?_ ?_ ?_ (pi_rlen_str hr hlen ?_ ?_ ?_ ?_) (fun d hd => ?_) ?_
      · decide +kernel
      · decide +kernel
      · decide +kernel
      · decide +kernel
      · decide +kernel
      · with_reducible refine pe_name ?_
        exact rfl
      · lia
      · obtain ⟨k, hk, rfl⟩ := List.mem_map.mp hd
        have hk' := List.mem_range.mp hk
        show PE _ _ _ _ _ _ _ (.str (sgT path x ((k : Int).toNat)))
        rw [Int.toNat_natCast]
        unfold sgT
        with_reducible refine pe_binop (pe_if' (q := shB path x k) (d := .str (if shB path x k then ("\\" : Str) else "")) (pt_plain (a := .bool (shB path x k)) (pe_item_list (ds := ((List.range path.length).map fun (i : Nat) => D.int (i : Int)).map (shD path x)) (i := (k : Int)) ?_ ?_ ?_) to_bool) ?_ ?_) (pe_item_str (x := path) (i := (k : Int)) ?_ ?_ (hat k hk') ?_) (bo_add_str ?_)
        · with_reducible refine pe_name ?_
          exact rfl
        · with_reducible refine pe_name ?_
          exact rfl
        · unfold atD
          rw [if_pos (by lia)]
          simp [hk', shD]
        · intro h
          rw [h]
          exact pe_str
        · intro h
          rw [h]
          exact pe_str
        · with_reducible refine pe_name ?_
          exact rfl
        · with_reducible refine pe_name ?_
          exact rfl
        · lia
        · have h1 : (if shB path x k then ("\\" : Str) else "").length ≤ 1 := by
            split
            · decide +kernel
            · decide +kernel
          have h2 : (⟨#[(path.cps[k]?).getD 0]⟩ : Str).length = 1 := rfl
          rw [hsl]; lia
      · rw [List.length_map, List.length_range]; lia
    · exact joinOk_of (M := 2) (K := 1000) (fun t ht => by obtain ⟨p, hp, rfl⟩ := List.mem_map.mp ht; exact sgT_len _ _ _) (by rw [List.length_map, List.length_range]; exact hp) (by decide +kernel)
  · exact .inl (by decide +kernel)
  · exact fun _ _ => rfl
  · decide +kernel
  · decide +kernel
  have hq : ("\"" : Str).length = 1 := by decide +kernel
  with_reducible refine px_return (d := .str (wordT path x)) (pe_if' (q := plainB x) (pt_plain ?_ to_bool) ?_ ?_) rfl
  · with_reducible refine pe_name ?_
    exact rfl
  · intro h
    unfold wordT
    rw [h]
    with_reducible refine pe_name ?_
    exact rfl
  · intro h
    unfold wordT
    rw [h]
    show PE _ _ _ _ _ _ _ (.str ("\"" ++ bodyT path x ++ "\""))
    with_reducible refine pe_binop (pe_binop pe_str ?_ (bo_add_str ?_)) pe_str (bo_add_str ?_)
    · with_reducible refine pe_name ?_
      exact rfl
    · rw [hsl]; lia
    · rw [hsl, Str.length_append]; lia
end
end Mine
end

section
open PySem PySem.W PySem.Calls PyProof.Rows
set_option Elab.async false
set_option maxRecDepth 100000
namespace Mine
section
variable {prog : Program} {w : World} {A : Around} {E : Value → Shared → Prop} {s : Shared}

theorem sub_inner {k : Value} {dep : Int} {tk : Tok} {Q : Fin → Shared → Prop} (hk : k = .int dep tk) (hq : Q (.done (.ret (.bool true))) s) :
    wpAny (model prog w) A (Builtin.«issubclass.nested» ⟨[.type "str", .type "str", k], []⟩) Q E s := by
  subst hk
  have hm : ((Value.type ((Manifest.find? "str").elim "type" (·.metatype))) == .type "type") = true := by decide +kernel
  have hself : isSubtype (.type "str") (.type "str") = pure true := by first | rfl | kernel_rfl
  repeat (any_goals (first | assumption | (rw [if_pos hm]) | (rw [hself]) | wp_step))

theorem call_sub {dep : Int} {tk : Tok} {Q : Value → Shared → Prop} (hq : Q (.bool true) s) : wpAny (model prog w) A (call (.builtin "issubclass.nested") [.type "str", .type "str", .int dep tk]) Q E s :=
  call_function_meets (S := fun _ R s => R (.ok (.ret (.bool true))) s) (by decide +kernel) (by decide +kernel) F.entry_issubclass_nested (by unfold argsOk; kernel_rfl) (fun _ _ _ _ _ hs => sub_inner rfl hs) hq

theorem sub_tuple {a : Nat} {Q : Fin → Shared → Prop} (ht : s.heap.IsTuple a #[.type "str", .type "bytes"]) (hq : Q (.done (.ret (.bool true))) s) :
    wpAny (model prog w) A (Builtin.«issubclass.nested» ⟨[.type "str", .ref a, rawInt 0], []⟩) Q E s := by
  obtain ⟨o, ho, hc, n, hd⟩ := id ht
  have hT : s.TypeIs (.ref a) "tuple" := ht.typeIs
  unfold Builtin.«issubclass.nested»
  show wpAny _ _ (typeOf (.ref a) >>= _) _ _ _
  refine wpAny_bind (wpAny_typeOf hT ?_)
  rw [if_neg (by decide)]
  refine wpAny_bind ?_
  unfold Builtin.Builtins.unionMembers
  refine wpAny_bind (wpAny_typeOf hT ?_)
  rw [if_neg (by decide)]
  refine wpAny_pure (wpAny_bind (wpAny_isInstance (b := true) hT (by first | rfl | kernel_rfl) ?_))
  simp only [if_true]
  rw [if_neg (by decide)]
  refine wpAny_bind (wpAny_seqItems ho hd ?_)
  simp only [Option.getD_some]
  refine wpAny_bind ?_
  rw [← Array.forIn_toList, List.forIn_cons]
  refine wpAny_bind (wpAny_bind (call_sub (wpAny_bind (wpAny_truthy_bool ?_))))
  simp only [if_true]
  exact wpAny_bind (wpAny_pure (wpAny_pure (wpAny_pure (wpAny_pure hq))))

theorem call_issub {a : Nat} {Q : Value → Shared → Prop} (ht : s.heap.IsTuple a #[.type "str", .type "bytes"]) (hq : Q (.bool true) s) : wpAny (model prog w) A (call (.builtin "issubclass") [.type "str", .ref a]) Q E s :=
  call_issubclass (S := fun _ R s => s.heap.IsTuple a #[.type "str", .type "bytes"] ∧ R (.ok (.ret (.bool true))) s) (fun _ _ _ _ _ hs => issubclass_outer (sub_tuple hs.1 hs.2)) ⟨ht, hq⟩
end
end Mine
end

section
open PySem PySem.W PySem.Calls PyProof.Rows
set_option Elab.async false
set_option linter.unusedVariables false
set_option linter.unusedSectionVars false
set_option maxRecDepth 10000
namespace Mine
variable [Star]

section
variable {prog : Program} {w : World} {B : Heap} {n : Nat} {sc : Scope} {ρ : Rho}

noncomputable def B2 (prog : Program) (w : World) (B : Heap) (id : String) (as : List D) (d : D) : Prop :=
  ∀ (A : Around) (E : Value → Shared → Prop) (s : Shared) (X : Nat → Prop) (Q : Value → Shared → Prop) (vs : List Value),
    Room 0 A → Cx B X s → Tls s.heap X vs as → (∀ v s', Ks X s s' → Tl s'.heap X v d → Q v s') → wpAny (model prog w) A (call (.builtin id) vs) Q E s
theorem pe_b2 {f : Str} {id : String} {np pos : Pos} {e1 e2 : Expr} {a1 a2 d : D} (hg : GlobBlt B f (.builtin id)) (hk : sc.names.lookup f = some .globalImplicit) (h1 : PE prog w B n sc ρ e1 a1) (h2 : PE prog w B n sc ρ e2 a2) (hf : B2 prog w B id [a1, a2] d)
    (he : ∀ env, starEach [e1, e2] env = [(false, eval e1 env), (false, eval e2 env)] := by intro _; with_unfolding_all rfl) (hd : (f == ("__debug__" : Str)) = false := by decide +kernel) : PE prog w B n sc ρ (.Call (.Name f np) [e1, e2] [] pos) d := fun A env E s X Q r o c v k => by
  refine wpAny_Call_NameR (name_builtin o c hk hg ?_ hd)
  have hs : backTo pos (starEach [e1, e2] env) = [(false, eval e1 env), (false, eval e2 env)] := by rw [he env]; rfl
  rw [hs]
  refine Calls.callWith_builtin rfl (Calls.evalArgs_plain (Calls.spliced_cons (h1 A env E s X _ r o c v fun u s1 k1 t1 => Calls.spliced_cons (h2 A env E s1 X _ r o (k1.cx c) (k1.vs c v) fun u2 s2 k2 t2 => Calls.spliced_nil ?_))))
  exact hf A E s2 X _ _ (r.mono (Nat.zero_le _)) (k2.cx (k1.cx c)) (.cons (k2.tl (k1.cx c) t1) (.cons t2 .nil)) fun x s3 k3 t3 => k _ _ ((k1.trans k2).trans k3) t3
theorem pe_bname {f : Str} {T : String} {pos : Pos} (hg : GlobBlt B f (.type T)) (hk : sc.names.lookup f = some .globalImplicit) (hd : (f == ("__debug__" : Str)) = false := by decide +kernel) : PE prog w B n sc ρ (.Name f pos) (.ty T) := fun A env E s X Q r o c v k =>
  name_builtin o c hk hg (k _ _ (Ks.refl s) (.ty T)) hd
theorem uo_type_str {x : Str} : UO prog w B (fun v => call (.type "type") [v]) (.str x) (.ty "str") := fun A E s X Q u _ c t k => by
  cases t using Tl.strE; exact call_type_of (typeIs_str _ _ _) (by decide) (k _ _ (Ks.refl s) (.ty _))
theorem b2_isinst_bytes {x : Str} : B2 prog w B "isinstance" [.str x, .ty "bytes"] (.bool false) := fun A E s X Q vs _ c t k => by
  cases t using Tls.consE with
  | cons t1 t2 =>
    cases t2 using Tls.consE with
    | cons t2 t3 =>
      cases t3 using Tls.nilE; cases t1 using Tl.strE; cases t2 using Tl.tyE
      exact IsiPair.str_bytes (k _ _ (Ks.tok s _) (.bool _))
theorem b2_isinst_str {x : Str} : B2 prog w B "isinstance" [.str x, .ty "str"] (.bool true) := fun A E s X Q vs _ c t k => by
  cases t using Tls.consE with
  | cons t1 t2 =>
    cases t2 using Tls.consE with
    | cons t2 t3 =>
      cases t3 using Tls.nilE; cases t1 using Tl.strE; cases t2 using Tl.tyE
      exact IsiPair.str_str (k _ _ (Ks.refl s) (.bool _))
theorem b2_issub : B2 prog w B "issubclass" [.ty "str", .tup [.ty "str", .ty "bytes"]] (.bool true) := fun A E s X Q vs _ c t k => by
  cases t using Tls.consE with
  | cons t1 t2 =>
    cases t2 using Tls.consE with
    | cons t2 t3 =>
      cases t3 using Tls.nilE; cases t1 using Tl.tyE
      cases t2 using Tl.tupE with
      | tup p nx z ts =>
        cases ts using Tls.consE with
        | cons a b =>
          cases b using Tls.consE with
          | cons b d =>
            cases d using Tls.nilE; cases a using Tl.tyE; cases b using Tl.tyE
            exact call_issub p (k _ _ (Ks.refl s) (.bool _))

structure Bn (B : Heap) : Prop where
  range : GlobBlt B "range" (.type "range")
  len : GlobBlt B "len" (.builtin "len")
  type : GlobBlt B "type" (.type "type")
  str : GlobBlt B "str" (.type "str")
  bytes : GlobBlt B "bytes" (.type "bytes")
  isinstance : GlobBlt B "isinstance" (.builtin "isinstance")
  issubclass : GlobBlt B "issubclass" (.builtin "issubclass")
  list : GlobBlt B "list" (.type "list")
  chr : GlobBlt B "chr" (.builtin "chr")
  ord : GlobBlt B "ord" (.builtin "ord")

theorem px_fspath (b : Bn B) {x : Str} : PX prog w B n (fsc 18) (rho [("path", .str x)]) (fb 18) { nx := fun _ => False, rt := (· = .str x) } := by
  unfold fb stm
  change PX _ _ _ _ _ _ (_ :: _) _
  with_reducible refine px_assign (d := .ty "str") (pe_t1 b.type ?_ (a := .str x) ?_ uo_type_str) ?_ ?_ ?_ ?_ ?_
  · decide +kernel
  · with_reducible refine pe_name ?_
    exact rfl
  · exact .inl (by decide +kernel)
  · exact fun _ _ => rfl
  · decide +kernel
  · decide +kernel
  with_reducible refine px_if (b := true) (pt_plain (pe_b2 b.issubclass ?_ ?_ (pe_tuple (pes_cons (pe_bname b.str ?_) (pes_cons (pe_bname b.bytes ?_) pes_nil))) b2_issub) to_bool) ?_
  · decide +kernel
  · with_reducible refine pe_name ?_
    exact rfl
  · decide +kernel
  · decide +kernel
  change PX _ _ _ _ _ _ (_ :: _) _
  with_reducible refine px_return (d := .str x) (pe_name ?_) rfl
  exact rfl

theorem px_getsep (b : Bn B) {x : Str} : PX prog w B n (fsc 22) (rho [("path", .str x)]) (fb 22) { nx := fun _ => False, rt := (· = .str "/") } := by
  unfold fb stm
  change PX _ _ _ _ _ _ (_ :: _) _
  with_reducible refine px_if (b := false) (pt_plain (pe_b2 b.isinstance ?_ (a1 := .str x) ?_ (pe_bname b.bytes ?_) b2_isinst_bytes) to_bool) ?_
  · decide +kernel
  · with_reducible refine pe_name ?_
    exact rfl
  · decide +kernel
  change PX _ _ _ _ _ _ (_ :: _) _
  with_reducible exact px_return (d := .str "/") pe_str rfl

end
end Mine
end

section
open PySem PySem.W PySem.Calls PyProof.Rows
set_option Elab.async false
set_option linter.unusedVariables false
set_option linter.unusedSectionVars false
set_option maxRecDepth 10000
namespace Mine
variable [Star]

theorem Rho.set_ne {ρ : Rho} {x y : Str} {d : D} (h : (y == x) = false) : (ρ.set x d).nm y = ρ.nm y := if_neg (by simpa using h)
theorem Rho.set_eq {ρ : Rho} {x : Str} {d : D} : (ρ.set x d).nm x = some d := if_pos rfl

section
variable {prog : Program} {w : World} {B : Heap} {n : Nat} {sc : Scope} {ρ : Rho}

theorem px_splitroot (b : Bn B) {af : Nat} (hf : GlobFn B "fspath" af) (ff : ∀ x, FA prog w B n af [.str x] (.str x)) {x : Str} (hx : x.length ≤ 1000) (h1 : (Txt.slice x none (some 1) != "/") = false) (h2 : (Txt.slice x (some 1) (some 2) != "/") = true) :
    PX prog w B n (fsc 24) (rho [("p", .str x)]) (fb 24) { nx := fun _ => False, rt := (· = .tup [.str "", .str "/", .str (Txt.slice x (some 1) none)]) } := by
  have hsl : sizeLine = 2 ^ 24 := by decide
  unfold fb stm
  change PX _ _ _ _ _ _ (_ :: _) _
  with_reducible refine px_assign (d := .str x) (pe_call hf ?_ (pes_cons (d := .str x) ?_ pes_nil) (ff x)) ?_ ?_ ?_ ?_ ?_
  · decide +kernel
  · with_reducible refine pe_name ?_
    exact rfl
  · exact .inl (by decide +kernel)
  · exact fun _ _ => rfl
  · decide +kernel
  · decide +kernel
  with_reducible refine px_if (b := false) (pt_plain (pe_b2 b.isinstance ?_ (a1 := .str x) ?_ (pe_bname b.bytes ?_) b2_isinst_bytes) to_bool) ?_
  · decide +kernel
  · with_reducible refine pe_name ?_
    exact rfl
  · decide +kernel
  change PX _ _ _ _ _ _ (_ :: _) _
  with_reducible refine px_assign (d := .str "/") pe_str ?_ ?_ ?_ ?_ ?_
  · exact .inl (by decide +kernel)
  · exact fun _ _ => rfl
  · decide +kernel
  · decide +kernel
  change PX _ _ _ _ _ _ (_ :: _) _
  with_reducible refine px_assign (d := .str "") pe_str ?_ ?_ ?_ ?_ ?_
  · exact .inl (by decide +kernel)
  · exact fun _ _ => rfl
  · decide +kernel
  · decide +kernel
  change PX _ _ _ _ _ _ (_ :: _) _
  with_reducible refine px_if (b := false) (pt_cmp (a := .str (Txt.slice x none (some 1))) (b := .str "/") (pe_slice_str (x := x) (lo := none) (hi := some 1) ?_ ?_ ?_ ?_) ?_ (bo_ne_str.to ?_)) ?_
  · with_reducible refine pe_name ?_
    exact rfl
  · trivial
  · exact pe_int
  · rw [hsl]; lia
  · with_reducible refine pe_name ?_
    exact rfl
  · exact h1
  change PX _ _ _ _ _ _ (_ :: _) _
  with_reducible refine px_if (b := true || (Txt.slice x (some 2) (some 3) == "/")) (pt_or (pt_cmp (a := .str (Txt.slice x (some 1) (some 2))) (b := .str "/") (pe_slice_str (x := x) (lo := some 1) (hi := some 2) ?_ ?_ ?_ ?_) ?_ (bo_ne_str.to ?_)) fun h => ?_) ?_
  · with_reducible refine pe_name ?_
    exact rfl
  · exact pe_int
  · exact pe_int
  · rw [hsl]; lia
  · with_reducible refine pe_name ?_
    exact rfl
  · exact h2
  · cases h
  change PX _ _ _ _ _ _ (_ :: _) _
  with_reducible refine px_return (d := .tup [.str "", .str "/", .str (Txt.slice x (some 1) none)]) (pe_tuple (pes_cons ?_ (pes_cons ?_ (pes_cons (pe_slice_str (x := x) (lo := some 1) (hi := none) ?_ ?_ ?_ ?_) pes_nil)))) rfl
  · with_reducible refine pe_name ?_
    exact rfl
  · with_reducible refine pe_name ?_
    exact rfl
  · with_reducible refine pe_name ?_
    exact rfl
  · exact pe_int
  · trivial
  · rw [hsl]; lia
end
end Mine
end

section
open PySem PySem.W PySem.Calls PyProof.Rows
set_option Elab.async false
set_option linter.unusedVariables false
set_option linter.unusedSectionVars false
set_option maxRecDepth 10000
namespace Mine
variable [Star]

noncomputable def n1 (c : Str) : Bool := !((c.length : Int) != 0) || (c == ".")
noncomputable def n2 (acc : List Str) (c : Str) : Bool := (c != "..") || ((!((("/" : Str).length : Int) != 0) && !(!acc.isEmpty)) || (!acc.isEmpty && (acc.getLastD "" == "..")))
noncomputable def nstep (acc : List Str) (c : Str) : List Str := if n1 c then acc else if n2 acc c then acc ++ [c] else if !acc.isEmpty then acc.dropLast else acc

section
variable {prog : Program} {w : World} {B : Heap} {n : Nat} {sc : Scope} {ρ : Rho}

theorem PT.to {e : Expr} {b b' : Bool} (h : PT prog w B n sc ρ e b) (q : b = b') : PT prog w B n sc ρ e b' := q ▸ h

theorem pe_or_true {x y rest pos} {a : D} {q : Bool} (h1 : PE prog w B n sc ρ x a) (ht : TO prog w B a q) (hq : q = true) : PE prog w B n sc ρ (.BoolOp .Or (x :: y :: rest) pos) a := by
  subst hq
  have := pe_or (y := y) (rest := rest) (pos := pos) (d := a) h1 ht (fun h => by cases h)
  exact this

structure NInv (a : Nat) (acc : List Str) (ρ : Rho) : Prop where
  own : ρ.own = [(("new_comps" : Str), a, acc.map D.str)]
  nc : ρ.nm "new_comps" = some (.rf a)
  sep : ρ.nm "sep" = some (.str "/")
  dot : ρ.nm "dot" = some (.str ".")
  dd : ρ.nm "dotdot" = some (.str "..")
  ini : ρ.nm "initial_slashes" = some (.str "/")

theorem see_nm {x : Str} (h : ρ.own.find? (fun p => p.1 == x) = none) : ρ.see.nm x = ρ.nm x := by unfold Rho.see; simp only [h]
theorem see_own {x : Str} {p : Str × Nat × List D} (h : ρ.own.find? (fun p => p.1 == x) = some p) : ρ.see.nm x = some (.list p.2.2) := by unfold Rho.see; simp only [h]

theorem NInv.set {a : Nat} {acc : List Str} {ρ : Rho} (h : NInv a acc ρ) (d : D) : NInv a acc (ρ.set "comp" d) where
  own := by show ρ.own.filter _ = _; rw [h.own]; rfl
  nc := (Rho.set_ne (by decide +kernel)).trans h.nc
  sep := (Rho.set_ne (by decide +kernel)).trans h.sep
  dot := (Rho.set_ne (by decide +kernel)).trans h.dot
  dd := (Rho.set_ne (by decide +kernel)).trans h.dd
  ini := (Rho.set_ne (by decide +kernel)).trans h.ini
theorem NInv.put {a : Nat} {acc acc' : List Str} {ρ : Rho} (h : NInv a acc ρ) : NInv a acc' (ρ.put "new_comps" (acc'.map D.str)) where
  own := by show ρ.own.map _ = _; rw [h.own]; rfl
  nc := h.nc
  sep := h.sep
  dot := h.dot
  dd := h.dd
  ini := h.ini

noncomputable def forB (s : Option Stmt) : List Stmt := match s with | some (Stmt.For _ _ b _ _) => b | some (Stmt.While _ b _ _) => b | _ => []

theorem atD_last {acc : List Str} (h : acc ≠ []) : atD (acc.map D.str) (-1) = some (.str (acc.getLastD "")) := by
  have hl : 0 < acc.length := List.length_pos_iff.mpr h
  unfold atD
  rw [if_neg (by decide), if_pos (by rw [List.length_map]; lia), List.length_map]
  rw [neg1, List.getElem?_map, ← List.getLast?_eq_getElem?, List.getLast?_eq_some_getLast h]
  rw [List.getLastD_eq_getLast?, List.getLast?_eq_some_getLast h]
  rfl

theorem px_nbody {a : Nat} {acc : List Str} {ρ : Rho} {c : Str} (h : NInv a acc ρ) (hc : ρ.nm "comp" = some (.str c)) (hcl : c.length ≤ 1000) (hal : acc.length ≤ 1000) :
    PX prog w B n (fsc 25) ρ (forB (fb 25)[6]?) { nx := NInv a (nstep acc c), ct := NInv a (nstep acc c) } := by
  have hmem : (("new_comps" : Str), a, acc.map D.str) ∈ ρ.own := by rw [h.own]; exact .head _
  have hsee : ρ.see.nm "new_comps" = some (.list (acc.map D.str)) := see_own (p := (("new_comps" : Str), a, acc.map D.str)) (by rw [h.own]; rfl)
  have hs1 : ∀ {x : Str}, (("new_comps" : Str) == x) = false → ρ.see.nm x = ρ.nm x := fun hx => see_nm (by rw [h.own, List.find?_cons, hx]; rfl)
  have hemp : (acc.map D.str).isEmpty = acc.isEmpty := by cases acc <;> rfl
  unfold fb stm
  change PX _ _ _ _ _ _ (_ :: _) _
  have e1 : (!((c.length : Int) != 0) || (c == "." || false)) = n1 c := by unfold n1; rw [Bool.or_false]
  with_reducible refine px_if (b := n1 c) (PT.to (pt_or (pt_not (pt_plain (pe_name hc) (to_str ?_))) fun _ => pt_or (pt_cmp (pe_name hc) (pe_name h.dot) bo_eq_str) fun _ => pt_or_nil) e1) ?_
  · lia
  cases hn1 : n1 c with
  | true =>
    have hst : nstep acc c = acc := by unfold nstep; rw [hn1]; rfl
    rw [hst]
    change PX _ _ _ _ _ _ (_ :: _) _
    with_reducible exact px_cont h
  | false =>
    change PX _ _ _ _ _ _ (_ :: _) _
    have e2 : ((c != "..") || (((!((("/" : Str).length : Int) != 0) && (!(!(acc.map D.str).isEmpty) && true)) || (((!(acc.map D.str).isEmpty) && ((acc.getLastD "" == "..") && true)) || false)))) = n2 acc c := by
      unfold n2; rw [hemp]; simp only [Bool.and_true, Bool.or_false]
    with_reducible refine px_if (b := n2 acc c) (PT.to (pt_or (pt_cmp (pe_name hc) (pe_name h.dd) bo_ne_str) fun _ => pt_or (pt_and (pt_not (pt_plain (pe_name h.ini) (to_str ?_))) fun _ => pt_and (pt_not (pt_see (pt_plain (pe_name hsee) to_list))) fun _ => pt_and_nil) fun _ =>
      pt_or (pt_and (pt_see (pt_plain (pe_name hsee) to_list)) fun he => pt_and (pt_see (pt_cmp (pe_item_list (i := -1) (d := .str (acc.getLastD "")) (pe_name hsee) (pe_neg pe_int) ?_) (pe_name ((hs1 ?_).trans h.dd)) bo_eq_str)) fun _ => pt_and_nil) fun _ => pt_or_nil) e2) ?_
    · decide +kernel
    · refine atD_last fun e => ?_
      rw [e] at he
      cases he
    · decide +kernel
    cases hn2 : n2 acc c with
    | true =>
      have hst : nstep acc c = acc ++ [c] := by unfold nstep; rw [hn1, hn2]; rfl
      rw [hst]
      change PX _ _ _ _ _ _ (_ :: _) _
      with_reducible refine px_append (d := .str c) (pe_name hc) hmem ?_ ?_
      · rw [List.length_map]; lia
      · have e : acc.map D.str ++ [D.str c] = (acc ++ [c]).map D.str := by rw [List.map_append]; rfl
        rw [e]
        conv => arg 7; whnf
        exact px_nil h.put
    | false =>
      change PX _ _ _ _ _ _ (_ :: _) _
      with_reducible refine px_if (b := !acc.isEmpty) (PT.to (pt_see (pt_plain (pe_name hsee) to_list)) (by rw [hemp])) ?_
      cases hem : acc.isEmpty with
      | true =>
        have hst : nstep acc c = acc := by unfold nstep; rw [hn1, hn2, hem]; rfl
        rw [hst]
        conv => arg 7; whnf
        exact px_nil h
      | false =>
        have hst : nstep acc c = acc.dropLast := by unfold nstep; rw [hn1, hn2, hem]; rfl
        rw [hst]
        have hne : acc ≠ [] := by intro e; rw [e] at hem; cases hem
        have hl : acc.map D.str = acc.dropLast.map D.str ++ [D.str (acc.getLast hne)] := by
          rw [← List.map_singleton (f := D.str), ← List.map_append, List.dropLast_concat_getLast hne]
        change PX _ _ _ _ _ _ (_ :: _) _
        with_reducible refine px_pop (d := .str (acc.getLast hne)) (l := acc.dropLast.map D.str) (a := a) ?_ ?_
        · rw [← hl]; exact hmem
        · conv => arg 7; whnf
          exact px_nil h.put

theorem nstep_len (acc : List Str) (c : Str) : (nstep acc c).length ≤ acc.length + 1 := by
  unfold nstep
  split
  · (exact Nat.le_succ _)
  · split
    · simp
    · split
      · simp; lia
      · (exact Nat.le_succ _)
theorem nstep_mem {acc : List Str} {c t : Str} (h : t ∈ nstep acc c) : t ∈ acc ∨ t = c := by
  unfold nstep at h
  split at h
  · exact .inl h
  · split at h
    · simpa using h
    · split at h
      · exact .inl (List.dropLast_subset _ h)
      · exact .inl h
theorem nfold_len : ∀ (l : List Str) (acc : List Str), (l.foldl nstep acc).length ≤ acc.length + l.length
  | [], acc => by simp
  | c :: r, acc => by
    rw [List.foldl_cons, List.length_cons]
    have h1 := nfold_len r (nstep acc c)
    have h2 := nstep_len acc c
    lia
theorem nfold_mem : ∀ (l : List Str) (acc : List Str) {t : Str}, t ∈ l.foldl nstep acc → t ∈ acc ∨ t ∈ l
  | [], acc, t, h => .inl h
  | c :: r, acc, t, h => by
    rcases nfold_mem r (nstep acc c) h with h | h
    · rcases nstep_mem h with h | h
      · exact .inl h
      · exact .inr (h ▸ .head _)
    · exact .inr (.tail _ h)

theorem px_normpath (b : Bn B) {af as : Nat} (hf : GlobFn B "fspath" af) (ff : ∀ x, FA prog w B n af [.str x] (.str x)) (hs : GlobFn B "splitroot" as) {x y : Str} (fs : FA prog w B n as [.str x] (.tup [.str "", .str "/", .str y])) (hx0 : ((x.length : Int) != 0) = true) (hxl : x.length ≤ 1000) (hyl : y.length ≤ 1000)
    (hcn : (Txt.split y "/").length ≤ 10) (hcl : ∀ t ∈ Txt.split y "/", t.length ≤ 100) :
    PX prog w B n (fsc 25) (rho [("path", .str x)]) (fb 25) { nx := fun _ => False, rt := (· = .str ("/" ++ Txt.join "/" ((Txt.split y "/").foldl nstep []))) } := by
  have hsl : sizeLine = 2 ^ 24 := by decide
  unfold fb stm
  change PX _ _ _ _ _ _ (_ :: _) _
  with_reducible refine px_assign (d := .str x) (pe_call hf ?_ (pes_cons (d := .str x) ?_ pes_nil) (ff x)) ?_ ?_ ?_ ?_ ?_
  · decide +kernel
  · with_reducible refine pe_name ?_
    exact rfl
  · exact .inl (by decide +kernel)
  · exact fun _ _ => rfl
  · decide +kernel
  · decide +kernel
  change PX _ _ _ _ _ _ (_ :: _) _
  with_reducible refine px_if (b := false) (pt_plain (pe_b2 b.isinstance ?_ (a1 := .str x) ?_ (pe_bname b.bytes ?_) b2_isinst_bytes) to_bool) ?_
  · decide +kernel
  · with_reducible refine pe_name ?_
    exact rfl
  · decide +kernel
  change PX _ _ _ _ _ _ (_ :: _) _
  with_reducible refine px_assign (d := .str "/") pe_str ?_ ?_ ?_ ?_ ?_
  · exact .inl (by decide +kernel)
  · exact fun _ _ => rfl
  · decide +kernel
  · decide +kernel
  change PX _ _ _ _ _ _ (_ :: _) _
  with_reducible refine px_assign (d := .str ".") pe_str ?_ ?_ ?_ ?_ ?_
  · exact .inl (by decide +kernel)
  · exact fun _ _ => rfl
  · decide +kernel
  · decide +kernel
  change PX _ _ _ _ _ _ (_ :: _) _
  with_reducible refine px_assign (d := .str "..") pe_str ?_ ?_ ?_ ?_ ?_
  · exact .inl (by decide +kernel)
  · exact fun _ _ => rfl
  · decide +kernel
  · decide +kernel
  change PX _ _ _ _ _ _ (_ :: _) _
  with_reducible refine px_if (b := false) (PT.to (pt_not (pt_plain (a := .str x) (pe_name ?_) (to_str ?_))) ?_) ?_
  · exact rfl
  · lia
  · rw [hx0]; rfl
  change PX _ _ _ _ _ _ (_ :: _) _
  with_reducible refine px_tassign (d := .tup [.str "", .str "/", .str y]) (pe_call hs ?_ (pes_cons (d := .str x) ?_ pes_nil) fs) (as_tupT ?_) ?_ ?_ ?_
  · decide +kernel
  · with_reducible refine pe_name ?_
    exact rfl
  · show tgOk _ _ 3 = true
    decide +kernel
  · exact fun _ _ => rfl
  · exact fun _ _ => rfl
  change PX _ _ _ _ _ _ (_ :: _) _
  with_reducible refine px_assign (d := .list ((Txt.split y "/").map .str)) (pe_m1 (x := y) (a := .str "/") (pe_name ?_) (pe_name ?_) (sm_split ?_ ?_)) ?_ ?_ ?_ ?_ ?_
  · exact rfl
  · exact rfl
  · decide +kernel
  · lia
  · exact .inl (by decide +kernel)
  · exact fun _ _ => rfl
  · decide +kernel
  · decide +kernel
  change PX _ _ _ _ _ _ (_ :: _) _
  with_reducible refine px_new (ds := []) pes_nil ?_ ?_ ?_ fun a => ?_
  · exact .inl (by decide +kernel)
  · decide +kernel
  · decide +kernel
  change PX _ _ _ _ _ _ (_ :: _) _
  generalize hC : Txt.split y "/" = C at hcn hcl ⊢
  have hat : ∀ i d, (C.map D.str)[i]? = some d → ∃ c, C[i]? = some c ∧ d = D.str c := fun i d e => by
    rw [List.getElem?_map] at e
    cases hc : C[i]? with
    | none => rw [hc] at e; cases e
    | some c => rw [hc] at e; cases e; exact ⟨c, hc, rfl⟩
  with_reducible refine px_for (ds := C.map D.str) (P := NInv a (C.foldl nstep [])) (fun i => NInv a ((C.take i).foldl nstep [])) (fun d ρ => ρ.set "comp" d) (pw_list (pe_name ?_)) (fun d _ => as_name ?_ ?_ ?_) (fun i d ρ' hi hI => ?_) ?_ ?_ (fun ρ1 h1 => ?_)
  · exact rfl
  · exact .inl (by decide +kernel)
  · decide +kernel
  · decide +kernel
  · obtain ⟨c, hc, rfl⟩ := hat i d hi
    have hcm : c ∈ C := List.mem_of_getElem? hc
    have key := px_nbody (prog := prog) (w := w) (B := B) (n := n) (c := c) (hI.set (.str c)) Rho.set_eq (by have := hcl c hcm; lia) (by
      have h1 := nfold_len (C.take i) []
      have h2 : (C.take i).length ≤ C.length := by rw [List.length_take]; lia
      simp at h1
      grind)
    have e : nstep ((C.take i).foldl nstep []) c = (C.take (i + 1)).foldl nstep [] := by rw [take_succ_eq hc, List.foldl_append]; rfl
    rw [e] at key
    exact key.mono (fun _ h => h) (fun _ h => h) (fun _ h => h.elim) (fun _ h => h.elim)
  · exact ⟨rfl, rfl, rfl, rfl, rfl, rfl⟩
  · intro ρ' h
    rw [List.length_map, List.take_length] at h
    exact h
  · generalize hacc : C.foldl nstep [] = acc at h1 ⊢
    have hal : acc.length ≤ 10 := by
      have := nfold_len C []
      rw [hacc] at this
      simp at this
      lia
    have ham : ∀ t ∈ acc, t.length ≤ 100 := fun t ht => by
      rcases nfold_mem C [] (hacc.symm ▸ ht) with h | h
      · cases h
      · exact hcl t h
    have hok : JoinOk "/" acc = true := joinOk_of (M := 100) (K := 10) ham hal (by decide +kernel)
    have hmem : (("new_comps" : Str), a, acc.map D.str) ∈ ρ1.own := by rw [h1.own]; exact .head _
    change PX _ _ _ _ _ _ (_ :: _) _
    with_reducible refine px_alias (x := "new_comps") (y := "comps") (a := a) (l := acc.map D.str) hmem ?_ ?_ ?_ ?_ ?_ ?_
    · decide +kernel
    · exact .inl (by decide +kernel)
    · exact fun _ _ => rfl
    · decide +kernel
    · decide +kernel
    change PX _ _ _ _ _ _ (_ :: _) _
    have ho : (ρ1.alias "new_comps" "comps" a (acc.map D.str)).own = [(("comps" : Str), a, acc.map D.str)] := by
      show _ :: (List.filter _ (List.filter _ ρ1.own)) = _
      rw [h1.own]
      rfl
    have hsee : (ρ1.alias "new_comps" "comps" a (acc.map D.str)).see.nm "comps" = some (.list (acc.map D.str)) := see_own (p := (("comps" : Str), a, acc.map D.str)) (by rw [ho]; rfl)
    have hn : ∀ {z : Str}, (("comps" : Str) == z) = false → (z == ("comps" : Str)) = false → (ρ1.alias "new_comps" "comps" a (acc.map D.str)).see.nm z = ρ1.nm z := fun h2 h3 => by
      rw [see_nm (by rw [ho, List.find?_cons, h2]; rfl)]
      exact if_neg (by simpa using h3)
    have hjl : (Txt.join "/" acc).length ≤ 1010 := by
      show (Builtin.Str.glued _ _).length ≤ _
      rw [size_glued]
      have h2 : ∀ l : List Str, (∀ t ∈ l, t.length ≤ 100) → (l.map (·.length)).sum ≤ 100 * l.length := by
        intro l
        induction l with
        | nil => simp
        | cons t r ih =>
          intro hl
          simp only [List.map_cons, List.sum_cons, List.length_cons]
          have h3 := hl t (.head _)
          have h4 := ih fun t ht => hl t (.tail _ ht)
          lia
      have h3 := h2 acc ham
      have h4 : ("/" : Str).length = 1 := by decide +kernel
      rw [h4]
      lia
    have hq : ("/" : Str).length = 1 := by decide +kernel
    with_reducible refine px_assign (d := .str ("/" ++ Txt.join "/" acc)) (pe_see (pe_binop (pe_name ((hn ?_ ?_).trans h1.ini)) (pe_m1 (x := "/") (a := .list (acc.map D.str)) (pe_name ((hn ?_ ?_).trans h1.sep)) (pe_name hsee) (sm_join hok)) (bo_add_str ?_)) ?_) ?_ ?_ ?_ ?_ ?_
    · decide +kernel
    · decide +kernel
    · decide +kernel
    · decide +kernel
    · rw [hq, hsl]; lia
    · rfl
    · exact .inl (by decide +kernel)
    · exact fun _ _ => rfl
    · decide +kernel
    · decide +kernel
    change PX _ _ _ _ _ _ (_ :: _) _
    have hne : ((("/" ++ Txt.join "/" acc : Str).length : Int) != 0) = true := by
      rw [Str.length_append, hq]
      simp
      lia
    with_reducible refine px_return (d := .str ("/" ++ Txt.join "/" acc)) ?_ rfl
    with_reducible refine pe_or_true (pe_name Rho.set_eq) (to_str ?_) hne
    rw [Str.length_append, hq]; lia
end
end Mine
end

section
open PySem PySem.W PySem.Calls PyProof.Rows
set_option Elab.async false
set_option linter.unusedVariables false
set_option linter.unusedSectionVars false
set_option maxRecDepth 10000
namespace Mine
variable [Star]

section
variable {prog : Program} {w : World} {B : Heap} {n : Nat} {sc : Scope} {ρ : Rho}

theorem load_name {A : Around} {env : Env} {E : Value → Shared → Prop} {s : Shared} {X : Nat → Prop} {Q : Value → Shared → Prop} {x : Str} {d : D} (o : Eo sc env) (v : Vs env s.heap X ρ) (hx : ρ.nm x = some d) (h : ∀ u, Tl s.heap X u d → Q u s) : wpAny (model prog w) A (loadName env x) Q E s := by
  obtain ⟨a, hd, hc⟩ := v.nm x d hx
  have hk : env.scope.kind = .function := by rw [o.iss]; exact o.kind
  rcases a with ⟨a1, a2, m, u, a3, a4, a5⟩ | ⟨cc, u, a1, a2, a3, a4, a5⟩
  · exact wpAny_loadName_local hk a1 a3 a4 (h _ a5)
  · rcases a1 with a1 | a1
    · exact wpAny_loadName_cell hk a1 a2 a4 (h _ a5)
    · exact wpAny_loadName_free hk a1 a2 a4 (h _ a5) hc

theorem px_aug_str {x : Str} {np pos : Pos} {e : Expr} {a b : Str} {rest : List Stmt} {R : Post} (hx : ρ.nm x = some (.str a)) (he : PE prog w B n sc ρ e (.str b)) (hl : a.length + b.length ≤ sizeLine) (hk : sc.names.lookup x = some .local ∨ sc.names.lookup x = some .cell)
    (hd : (x == ("__debug__" : Str)) = false) (hc : (x == ("__classdict__" : Str)) = false) (h2 : PX prog w B n sc (ρ.set x (.str (a ++ b))) rest R) : PX prog w B n sc ρ (.AugAssign (.Name x np) .Add e pos :: rest) R := px_step (fun A env E s X Q rm o f k => by
  rw [arm_exec_AugAssign]
  refine wpAny_bind (wpAny_standAt (wpAny_bind (load_name o f.vs hx fun u tu => ?_)))
  cases tu using Tl.strE
  refine wpAny_bind (wpAny_holding (he A env E s X _ rm o f.cx f.vs fun v s1 k1 t1 => ?_))
  cases t1 using Tl.strE
  refine wpAny_bind (wpAny_standAt (wpAny_bind (wpAny_operating (SB.iadd (fun t' kk => ?_) hl))))
  refine wpAny_bind (wpAny_standAt (wpAny_bind (wpAny_bindName ?_)))
  have k2 : Ks X s { s1 with toks := kk } := k1.trans (Ks.tok s1 kk)
  refine store_name o (k2.fs f) hk (.str _ _) hd hc fun s2 f2 t2 => wpAny_pure ?_
  exact k _ (k2.tn.trans t2 fun b m => .inl m) (Rho.set_own s) f2) h2

theorem px_try {body rest : List Stmt} {h0 : ExceptHandler} {hh : List ExceptHandler} {pos : Pos} {R : Post} (P : Rho → Prop) (h1 : PX prog w B n sc ρ body (R.to P)) (h2 : ∀ ρ1, P ρ1 → PX prog w B n sc ρ1 rest R) : PX prog w B n sc ρ (.Try body (h0 :: hh) [] [] pos :: rest) R :=
  px_cons P (px_line fun A env E s X Q rm o f k => wpAny_Try_except (h1 A env _ s X _ rm o f fun fl s1 X1 t x1 x2 ok => by
    cases fl with
    | next => exact wpAny_execs_nil (k _ _ X1 t x1 x2 ok)
    | brk => exact k _ _ X1 t x1 x2 ok
    | cont => exact k _ _ X1 t x1 x2 ok
    | ret v => exact k _ _ X1 t x1 x2 ok)) h2

structure JInv (q : Str) (ρ : Rho) : Prop where
  own : ρ.own = []
  sep : ρ.nm "sep" = some (.str "/")
  path : ρ.nm "path" = some (.str q)

theorem px_join (b : Bn B) {af ag : Nat} (hf : GlobFn B "fspath" af) (ff : ∀ x, FA prog w B n af [.str x] (.str x)) (hg : GlobFn B "_get_sep" ag) (fg : ∀ x, FA prog w B n ag [.str x] (.str "/")) {y : Str} (hy : y.length ≤ 1000) (hy2 : Txt.startswith y "/" = false) :
    PX prog w B n (fsc 23) (rho [("a", .str "/r"), ("p", .tup [.str y])]) (fb 23) { nx := fun _ => False, rt := (· = .str ("/r" ++ ("/" ++ y))) } := by
  have hsl : sizeLine = 2 ^ 24 := by decide
  have hq : ("/" : Str).length = 1 := by decide +kernel
  have hr : ("/r" : Str).length = 2 := by decide +kernel
  unfold fb stm
  change PX _ _ _ _ _ _ (_ :: _) _
  with_reducible refine px_assign (d := .str "/r") (pe_call hf ?_ (pes_cons (d := .str "/r") ?_ pes_nil) (ff _)) ?_ ?_ ?_ ?_ ?_
  · decide +kernel
  · with_reducible refine pe_name ?_
    exact rfl
  · exact .inl (by decide +kernel)
  · exact fun _ _ => rfl
  · decide +kernel
  · decide +kernel
  change PX _ _ _ _ _ _ (_ :: _) _
  with_reducible refine px_assign (d := .str "/") (pe_call hg ?_ (pes_cons (d := .str "/r") ?_ pes_nil) (fg _)) ?_ ?_ ?_ ?_ ?_
  · decide +kernel
  · with_reducible refine pe_name ?_
    exact rfl
  · exact .inl (by decide +kernel)
  · exact fun _ _ => rfl
  · decide +kernel
  · decide +kernel
  change PX _ _ _ _ _ _ (_ :: _) _
  with_reducible refine px_assign (d := .str "/r") (pe_name ?_) ?_ ?_ ?_ ?_ ?_
  · exact rfl
  · exact .inl (by decide +kernel)
  · exact fun _ _ => rfl
  · decide +kernel
  · decide +kernel
  change PX _ _ _ _ _ _ (_ :: _) _
  with_reducible refine px_try (JInv ("/r" ++ ("/" ++ y))) ?_ (fun ρ1 h1 => ?_)
  · with_reducible refine px_for (ds := [.str y]) (P := JInv ("/r" ++ ("/" ++ y))) (fun i => JInv (if i = 0 then "/r" else "/r" ++ ("/" ++ y))) (fun d ρ => ρ.set "b" d) (pw_tup (pe_name ?_)) (fun d _ => as_name ?_ ?_ ?_) (fun i d ρ' hi hI => ?_) ?_ ?_ (fun ρ1 h1 => px_nil ?_)
    · exact rfl
    · exact .inl (by decide +kernel)
    · decide +kernel
    · decide +kernel
    · have hi0 : i = 0 ∧ d = .str y := by
        cases i with
        | zero => simp at hi; exact ⟨rfl, hi.symm⟩
        | succ i => simp at hi
      obtain ⟨rfl, rfl⟩ := hi0
      rw [if_pos rfl] at hI
      rw [if_neg (by decide)]
      have n1 : (ρ'.set "b" (.str y)).nm "b" = some (.str y) := Rho.set_eq
      with_reducible refine px_assign (d := .str y) (pe_call hf ?_ (pes_cons (d := .str y) (pe_name n1) pes_nil) (ff _)) ?_ ?_ ?_ ?_ ?_
      · decide +kernel
      · exact .inl (by decide +kernel)
      · exact fun _ _ => rfl
      · decide +kernel
      · decide +kernel
      have n2 : ((ρ'.set "b" (.str y)).set "b" (.str y)).nm "b" = some (.str y) := Rho.set_eq
      have n3 : ((ρ'.set "b" (.str y)).set "b" (.str y)).nm "sep" = some (.str "/") := (Rho.set_ne (by decide +kernel)).trans ((Rho.set_ne (by decide +kernel)).trans hI.sep)
      have n4 : ((ρ'.set "b" (.str y)).set "b" (.str y)).nm "path" = some (.str "/r") := (Rho.set_ne (by decide +kernel)).trans ((Rho.set_ne (by decide +kernel)).trans hI.path)
      have n5 : ((ρ'.set "b" (.str y)).set "b" (.str y)).own = [] := by show List.filter _ (List.filter _ ρ'.own) = _; rw [hI.own]; rfl
      change PX _ _ _ _ _ _ (_ :: _) _
      with_reducible refine px_if (b := false) (PT.to (pt_or (pt_plain (pe_m1 (x := y) (a := .str "/") (pe_name n2) (pe_name n3) sm_startswith) to_bool) fun _ => pt_or (pt_not (pt_plain (pe_name n4) (to_str ?_))) fun _ => pt_or_nil) ?_) ?_
      · rw [hr]; decide
      · rw [hy2, hr]; rfl
      change PX _ _ _ _ _ _ (_ :: _) _
      with_reducible refine px_if (b := false) (PT.to (pt_plain (pe_m1 (x := "/r") (a := .str "/") (pe_name n4) (pe_name n3) sm_endswith) to_bool) ?_) ?_
      · decide +kernel
      change PX _ _ _ _ _ _ (_ :: _) _
      with_reducible refine px_aug_str (a := "/r") (b := "/" ++ y) n4 (pe_binop (pe_name n3) (pe_name n2) (bo_add_str ?_)) ?_ ?_ ?_ ?_ ?_
      · rw [hq, hsl]; lia
      · rw [Str.length_append, hq, hr, hsl]; lia
      · exact .inl (by decide +kernel)
      · decide +kernel
      · decide +kernel
      conv => arg 7; whnf
      refine px_nil ⟨?_, ?_, Rho.set_eq⟩
      · show List.filter _ _ = _; rw [n5]; rfl
      · exact (Rho.set_ne (by decide +kernel)).trans n3
    · exact ⟨rfl, rfl, rfl⟩
    · intro ρ' h
      exact h
    · exact h1
  · change PX _ _ _ _ _ _ (_ :: _) _
    with_reducible exact px_return (d := .str ("/r" ++ ("/" ++ y))) (pe_name h1.path) rfl
end
end Mine
end

section
open PySem PySem.W PySem.Calls PyProof.Rows
set_option Elab.async false
set_option linter.unusedVariables false
set_option linter.unusedSectionVars false
set_option maxRecDepth 10000
namespace Mine
variable [Star]

mutual
noncomputable def toPy : D → PyData
  | .int i => .int i
  | .str x => .str x
  | .bool b => .bool b
  | .list l => .list (toPys l)
  | _ => .none
noncomputable def toPys : List D → List PyData
  | [] => []
  | a :: l => toPy a :: toPys l
end
mutual
noncomputable def okP : D → Bool
  | .int _ => true
  | .str _ => true
  | .bool _ => true
  | .none => true
  | .list l => okPs l
  | _ => false
noncomputable def okPs : List D → Bool
  | [] => true
  | a :: l => okP a && okPs l
end
mutual
theorem reads_of {h : Heap} {X : Nat → Prop} : ∀ {d : D} {v : Value}, okP d = true → Tl h X v d → ∃ as, Reads h v (toPy d) as
  | .int i, v, _, t => by cases t using Tl.intE; exact ⟨[], by simp only [toPy]; exact .int _ _⟩
  | .str x, v, _, t => by cases t using Tl.strE; exact ⟨[], by simp only [toPy]; exact .str _ _⟩
  | .bool b, v, _, t => by cases t using Tl.boolE; exact ⟨[], by simp only [toPy]; exact .bool _⟩
  | .none, v, _, t => by cases t using Tl.noneE; exact ⟨[], by simp only [toPy]; exact .none⟩
  | .list l, v, c, t => by
    cases t using Tl.listE with
    | @list a vs p nx z ts =>
      obtain ⟨n, e⟩ := p
      obtain ⟨as, r⟩ := readsAll_of (by simpa [okP] using c) ts
      exact ⟨a :: as, by simp only [toPy]; exact .list e rfl rfl (by simpa using r)⟩
  | .tup _, _, c, _ | .ob _ _, _, c, _ | .rf _, _, c, _ | .star, _, c, _ | .ty _, _, c, _ | .meth _, _, c, _ => by simp [okP] at c
theorem readsAll_of {h : Heap} {X : Nat → Prop} : ∀ {l : List D} {vs : List Value}, okPs l = true → Tls h X vs l → ∃ as, ReadsAll h vs (toPys l) as
  | [], _, _, t => by cases t using Tls.nilE; exact ⟨[], by simp only [toPys]; exact .nil⟩
  | a :: l, _, c, t => by
    cases t using Tls.consE with
    | cons x y =>
      simp only [okPs, Bool.and_eq_true] at c
      obtain ⟨as, r⟩ := reads_of c.1 x
      obtain ⟨bs, q⟩ := readsAll_of c.2 y
      exact ⟨as ++ bs, by simp only [toPys]; exact .cons r q⟩
end

section
variable {prog : Program} {w : World} {B : Heap} {n : Nat} {sc : Scope} {ρ : Rho}

theorem pe_eqD {l r : Expr} {pos : Pos} {a b : D} (hl : PE prog w B n sc ρ l a) (hr : PE prog w B n sc ρ r b) (h7 : 7 ≤ n) (oa : okP a = true) (ob : okP b = true) (sa : SeqAt.shaped (toPy a) = true) (sb : SeqAt.shaped (toPy b) = true)
    (hm : behindInMarks .Eq r = false := by with_unfolding_all rfl) : PE prog w B n sc ρ (.Compare l [.Eq] [r] pos) (.bool (PyData.eqv (toPy a) (toPy b))) := fun A env E s X Q rm o c v k =>
  wpAny_Compare1 (hl A env E s X _ rm o c v fun u s1 k1 t1 => hr A env E s1 X _ rm o (k1.cx c) (k1.vs c v) fun u2 s2 k2 t2 => by
    obtain ⟨as, ra⟩ := reads_of oa (k2.tl (k1.cx c) t1)
    obtain ⟨bs, rb⟩ := reads_of ob t2
    exact eq_dataH ra rb sa sb (by have := rm.units; lia) (k _ _ (k1.trans k2) (.bool _))) hm
theorem pe_neD {l r : Expr} {pos : Pos} {a b : D} (hl : PE prog w B n sc ρ l a) (hr : PE prog w B n sc ρ r b) (h7 : 7 ≤ n) (oa : okP a = true) (ob : okP b = true) (sa : SeqAt.shaped (toPy a) = true) (sb : SeqAt.shaped (toPy b) = true)
    (hm : behindInMarks .NotEq r = false := by with_unfolding_all rfl) : PE prog w B n sc ρ (.Compare l [.NotEq] [r] pos) (.bool (!PyData.eqv (toPy a) (toPy b))) := fun A env E s X Q rm o c v k =>
  wpAny_Compare1 (hl A env E s X _ rm o c v fun u s1 k1 t1 => hr A env E s1 X _ rm o (k1.cx c) (k1.vs c v) fun u2 s2 k2 t2 => by
    obtain ⟨as, ra⟩ := reads_of oa (k2.tl (k1.cx c) t1)
    obtain ⟨bs, rb⟩ := reads_of ob t2
    exact ne_dataH ra rb sa sb (by have := rm.units; lia) (k _ _ (k1.trans k2) (.bool _))) hm
theorem pt_of_cmp {e : Expr} {b : Bool} (h : PE prog w B n sc ρ e (.bool b)) (hc : ∃ l op r pos, e = .Compare l [op] [r] pos ∧ behindInMarks op r = false) : PT prog w B n sc ρ e b := fun A env E s X Q rm o c v k => by
  obtain ⟨l, op, r, pos, rfl, hm⟩ := hc
  have h1 := h A env E s X (fun u s' => u = .bool b ∧ Q b s') rm o c v fun u s' k' t' => by cases t' using Tl.boolE; exact ⟨rfl, k s' k'⟩
  rw [isTrue_Compare1]
  have e1 : eval (.Compare l [op] [r] pos) env = (do let a ← eval l env; let b ← holding [a] (markedBehindIn op r (eval r env)); standAt pos; operate [a, b] (compareOp op a b)) := eval_Compare1 (env := env) l op r pos
  rw [e1] at h1
  have e2 : ∀ K : Value → Sem Bool, (do let a ← eval l env; let b ← holding [a] (markedBehindIn op r (eval r env)); standAt pos; let c ← operate [a, b] (compareOp op a b); K c) = ((do let a ← eval l env; let b ← holding [a] (markedBehindIn op r (eval r env)); standAt pos; operate [a, b] (compareOp op a b)) >>= K) := fun K => by
    simp only [bind_assoc]
  rw [e2]
  refine wpAny_bind (wpAny_mono h1 (fun u s' hu => ?_) fun _ _ x => x)
  obtain ⟨rfl, q⟩ := hu
  exact wpAny_holding (wpAny_truthy_bool q)

theorem ints_of {h : Heap} {X : Nat → Prop} : ∀ {ns : List Int} {vs : List Value}, Tls h X vs (ns.map .int) → IntsAre vs ns
  | [], _, t => by cases t using Tls.nilE; exact .nil
  | k :: ns, _, t => by
    cases t using Tls.consE with
    | cons a b => cases a using Tl.intE; exact .cons _ _ (ints_of b)
theorem bo_in_ints {k : Int} {ns : List Int} : BO prog w B (compareOp .In) (.int k) (.list (ns.map .int)) (.bool (ns.any (fun m => m == k))) := fun A E s X Q u v _ _ t1 t2 k' => by
  cases t1 using Tl.intE
  cases t2 using Tl.listE with
  | @list a vs p nx z ts =>
    refine SeqAt.in_listAt (fun y => match y with | .int m _ => m == k | _ => false) p.isList (fun y hy => ?_) ?_
    · have hv : y ∈ vs := by simpa using hy
      obtain ⟨j, hj, e⟩ := List.getElem_of_mem hv
      obtain ⟨d, e1, t⟩ := ts.get' (i := j) (v := y) (by rw [← e]; simp [hj])
      rw [List.getElem?_map] at e1
      cases hns : ns[j]? with
      | none => rw [hns] at e1; cases e1
      | some m => rw [hns] at e1; cases e1; cases t using Tl.intE; exact (MeetsSeq.EqGives.int _ _ _ _).at _ s
    · have e : (vs.toArray.any fun y => match y with | .int m _ => m == k | _ => false) = ns.any (fun m => m == k) := by
        rw [List.any_toArray]
        clear p nx z k'
        induction ns generalizing vs with
        | nil => cases ts using Tls.nilE; rfl
        | cons m r ih =>
          cases ts using Tls.consE with
          | cons a b =>
            cases a using Tl.intE
            simp only [List.any_cons, ih b]
      rw [e]
      exact k' _ _ (Ks.refl s) (.bool _)

theorem pe_list_range2 {f g : Str} {np np2 pos pos2 : Pos} {e1 e2 : Expr} {lo hi : Int} (hl : GlobBlt B f (.type "list")) (hkl : sc.names.lookup f = some .globalImplicit) (hg : GlobBlt B g (.type "range")) (hk : sc.names.lookup g = some .globalImplicit)
    (h1 : PE prog w B n sc ρ e1 (.int lo)) (h2 : PE prog w B n sc ρ e2 (.int hi)) (hlo : -1000 ≤ lo ∧ lo ≤ 1000) (hhi : -1000 ≤ hi ∧ hi ≤ 1000)
    (he : ∀ env, starEach [e1, e2] env = [(false, eval e1 env), (false, eval e2 env)] := by intro _; with_unfolding_all rfl)
    (he2 : ∀ env, starEach [.Call (.Name g np2) [e1, e2] [] pos2] env = [(false, eval (.Call (.Name g np2) [e1, e2] [] pos2) env)] := by intro _; with_unfolding_all rfl)
    (hd : (f == ("__debug__" : Str)) = false := by decide +kernel) (hd2 : (g == ("__debug__" : Str)) = false := by decide +kernel) :
    PE prog w B n sc ρ (.Call (.Name f np) [.Call (.Name g np2) [e1, e2] [] pos2] [] pos) (.list (((List.range (hi - lo).toNat).map fun (i : Nat) => lo + (i : Int)).map .int)) := fun A env E s X Q r o c v k => by
  refine wpAny_Call_NameR (name_builtin o c hkl hl ?_ hd)
  have hs : backTo pos (starEach [.Call (.Name g np2) [e1, e2] [] pos2] env) = [(false, eval (.Call (.Name g np2) [e1, e2] [] pos2) env)] := by rw [he2 env]; rfl
  rw [hs]
  refine PyProof.Rows.callWith_type rfl (Calls.evalArgs_plain (Calls.spliced_cons ?_))
  refine wpAny_Call_NameR (name_builtin o c hk hg ?_ hd2)
  have hs2 : backTo pos2 (starEach [e1, e2] env) = [(false, eval e1 env), (false, eval e2 env)] := by rw [he env]; rfl
  rw [hs2]
  refine PyProof.Rows.callWith_type rfl (Calls.evalArgs_plain (Calls.spliced_cons (h1 A env E s X _ r o c v fun u s1 k1 t1 => Calls.spliced_cons (h2 A env E s1 X _ r o (k1.cx c) (k1.vs c v) fun u2 s2 k2 t2 => Calls.spliced_nil ?_))))
  cases t1 using Tl.intE with
  | int ta =>
  cases t2 using Tl.intE with
  | int tc =>
  have kk := k1.trans k2
  refine call_range_2 (Calls.spliced_nil ?_)
  have k3 : Ks X s { s2 with heap := s2.heap.push { cls := .type "range", data := .fields #[.int lo ta, .int hi tc, .int 1 s2.toks] }, toks := s2.toks + 1 } := kk.trans (Ks.push s2 _ _)
  have hsz : Builtin.Range.rangeSize lo hi 1 = ((hi - lo).toNat : Int) := by rw [rangeSize_one]; split <;> grind
  refine call_list_range r.hand (IsRange.new ..) (small_any (by lia) (by lia) (.inl rfl)) hsz (by lia) fun h' tk acc' c' hk' hacc hit => ?_
  have hlt : (s2.heap.push { cls := .type "range", data := .fields #[.int lo ta, .int hi tc, .int 1 s2.toks] }).objs.size ≤ h'.objs.size := Nat.le_of_lt (ltz hacc)
  refine k _ _ (k3.trans (Ks.of hk' hlt)) ?_
  have hx : ¬ X (s2.heap.push { cls := .type "range", data := .fields #[.int lo ta, .int hi tc, .int 1 s2.toks] }).objs.size := fun q => Nat.lt_irrefl _ ((k3.cx c).xlt _ q)
  refine .list (vs := acc'.toList) ⟨c', by simpa using hacc⟩ hx (by rw [Array.length_toList, hit.1]; lia) (tls_of_get (by rw [Array.length_toList, hit.1]; simp) fun j v e => ?_)
  have e' : acc'[j]? = some v := by simpa using e
  obtain ⟨t, rfl⟩ := hit.2 j v e'
  have hj : j < (hi - lo).toNat := by
    have := (Array.getElem?_eq_some_iff.mp e').1
    rw [hit.1] at this; exact this
  refine ⟨.int (lo + j), by simp [hj], ?_⟩
  have e2 : lo + (j : Int) * 1 = lo + j := by lia
  rw [e2]
  exact .int _ _
end
end Mine
end

section
open PySem PySem.W PySem.Calls PyProof.Rows
set_option Elab.async false
set_option linter.unusedVariables false
set_option linter.unusedSectionVars false
set_option maxRecDepth 10000
namespace Mine
variable [Star]

section
variable {prog : Program} {w : World} {B : Heap} {z : Bool} {n : Nat} {sc : Scope} {ρ : Rho}

theorem px_acomp {elt iter : Expr} {x y : Str} {px py : Pos} {ifs : List Expr} {scope : Scope} {cpos pos : Pos} {ds : List D} {rest : List Stmt} {R : Post} (p : D → Bool) (F : D → D) (ok : compOk scope sc x = true)
    (hxd : (x == ("__debug__" : Str)) = false) (hxc : (x == ("__classdict__" : Str)) = false)
    (hsrc : PI prog w B z n sc ρ iter ds) (htest : ∀ d ∈ ds, PTs prog w B n (relS scope sc) (rhoC scope ρ x d) ifs (p d)) (helt : ∀ d ∈ ds, p d = true → PE prog w B n (relS scope sc) (rhoC scope ρ x d) elt (F d)) (hz : ds.length ≤ 100000)
    (hy : sc.names.lookup y = some .local ∨ sc.names.lookup y = some .cell) (hyd : (y == ("__debug__" : Str)) = false) (hyc : (y == ("__classdict__" : Str)) = false)
    (hsw : ∀ env, Eo sc env → swapsWith (.ListComp elt [⟨.Name x px, iter, ifs, 0⟩] scope cpos) (some (.Name y py)) pos.line env = pure true)
    (h2 : PX prog w B n sc (ρ.set y (.list ((ds.filter p).map F))) rest R)
    (hs : ∀ env x, foldedSetIterable iter env x = pure x := by intro _ _; with_unfolding_all rfl) :
    PX prog w B n sc ρ (.Assign [.Name y py] (.ListComp elt [⟨.Name x px, iter, ifs, 0⟩] scope cpos) pos :: rest) R := px_step (fun A env E s X Q r o f k => by
  have hcl : closureFor scope env = pure (clOf env scope.names []) := closure_eq fun y hy => by
    obtain ⟨cc, e, _⟩ := o.cells y (compOk.free ok y hy)
    rw [e]; rfl
  rw [exec_Assign_Name_used _ _ _ _ (hsw env o)]
  refine wpAny_bind (wpAny_standAt (wpAny_bind ?_))
  show wpAny _ A (do let _ ← comprehension (.ListComp elt [⟨.Name x px, iter, ifs, 0⟩] scope cpos) scope env _ (newList []) false (eval iter env) (some (assign (.Name y py) env))) _ _ s
  refine wpAny_bind (wpAny_mono (wpAny_comprehension_free (use := some (assign (.Name y py) env)) (Q := fun _ s' => Q .next s') rfl (hs env) hcl (compOk.kind ok) (compOk.loc ok) ?_) (fun _ s' hq => wpAny_pure (wpAny_pure hq)) fun _ _ e => e)
  refine comp_core (RR := fun acc C => compPost (model prog w) A E (some (assign (.Name y py) env)) (fun _ s' => Q .next s') acc C) p F ok hxd hxc hsrc htest helt hz r o f.cx f.vs ?_
  intro D0 C s' m vs ks hti hD hC hDC hm hl ts
  show wpAny _ A (assign (.Name y py) env (.ref D0)) _ _ _
  have hX : ∀ b, X b → b < s.heap.objs.size := f.cx.xlt
  have hCs : C < s'.heap.objs.size := nsz hm
  have nC : C ≠ tb := nen (by have := hX _ f.cx.tb; lia)
  have cC : Cx B (fun b => X b ∨ b = C) s' := ⟨fun b ob e => ks.kp b ob (fun z => by rw [z, f.cx.xb _ f.cx.tb] at e; cases e) (f.cx.base b ob e), fun b q => (q.elim (fun q => Nat.lt_of_lt_of_le (hX b q) ks.sz) fun q => by rw [q]; exact hCs),
    fun b q => q.elim (f.cx.xb b) fun q => by
      cases e : B.get? b with
      | none => rfl
      | some ob => have := ltz (f.cx.base b ob e); rw [q] at this; exact absurd this (Nat.not_lt.mpr hC),
    .inl f.cx.tb, hti.move (fun _ _ _ e => e) fun b q => .inl (q.elim .inl fun q => .inr (.inr q)), ks.gn f.cx.gn⟩
  have f1 : Fs B env (fun b => X b ∨ b = C) s' ρ := f.up ks.kp cC (fun _ h => .inl h) fun b h => h.imp_right fun (e : b = C) => by rw [e]; exact hC
  have hlen := ts.length
  rw [List.length_map] at hlen
  have hfl := List.length_filter_le p ds
  have hD0 : ¬ (X D0 ∨ D0 = C) := fun q => q.elim (fun q => by have := hX _ q; lia) hDC
  have tD : Tl s'.heap (fun b => X b ∨ b = C) (.ref D0) (.list ((ds.filter p).map F)) := .list hl hD0 (by lia) (ts.move (fun _ _ _ e => e) fun b q => .inl (q.elim .inl fun q => .inr (.inr q)))
  refine wpAny_assign_Name (store_name o f1 hy tD hyd hyc fun s2 f2 t2 => ?_)
  have hnm : ¬ Mut env ρ C := fun q => by have := hX _ (Mut.inX f q); lia
  have hm2 : s2.heap.Ns C m := hm.at' fun ob e => t2.kp C ob hnm nC e
  refine ⟨m, hm2, fun h' hs' => ?_⟩
  have cE : Cx B X { s2 with heap := h' } := ⟨fun b ob e => hs'.extBut b ob (fun q => by have := f2.cx.xb b (.inr q); rw [this] at e; cases e) (f2.cx.base b ob e), fun b q => Nat.lt_of_lt_of_le (f2.cx.xlt b (.inl q)) (Nat.le_of_eq hs'.1.symm), fun b q => f2.cx.xb b (.inl q), f.cx.tb,
    f2.cx.ti.move (fun b ob q e => hs'.extBut b ob (fun z => q.elim (fun q => q (.inr z)) fun q => nC (z.symm.trans q)) e) fun b q => .inl (.inl q), f2.cx.gn⟩
  have fE : Fs B env X { s2 with heap := h' } (ρ.set y (.list ((ds.filter p).map F))) := f2.turn (I := C) (s' := { s2 with heap := h' }) (fun b ob ne e => hs'.extBut b ob ne e) (.inr rfl) cE (fun _ h => .inl h) (fun b h ne => h.elim id fun q => (ne q).elim)
    (fun e => by have h := hX _ f.lx; rw [e] at h; lia) (fun x c e q => by have h := hX _ (f.cel x c e).1; rw [q] at h; lia) (fun p hp e => by have h := hX _ (f.vs.own p (List.mem_filter.mp hp).1).1.1; rw [e] at h; lia)
    (fun t => t.move (fun b ob nb e => hs'.extBut b ob (fun q => nb (.inr q)) e) fun b q => .inl (.inl q))
  refine k _ ((ks.tn.trans t2 fun b m => .inl m).trans (M' := fun b => b = C) (s'' := { s2 with heap := h' }) ⟨rfl, rfl, fun b ob ne _ e => hs'.extBut b ob ne e, Nat.le_of_eq hs'.1.symm⟩ fun b (e : b = C) => .inr (by rw [e]; exact hC)) (Rho.set_own s) fE) h2
end
end Mine
end

section
open PySem PySem.W PySem.Calls PyProof.Rows
set_option Elab.async false
set_option linter.unusedVariables false
set_option linter.unusedSectionVars false
set_option maxRecDepth 10000
namespace Mine
variable [Star]

noncomputable abbrev It := Str × Str × Bool
noncomputable def itD (i : It) : D := .list [.str i.1, .str i.2.1, .bool i.2.2]
noncomputable def charS (nm : Str) (p : Int) : Str := ⟨#[(nm.cps[p.toNat]?).getD 0]⟩
noncomputable def mkeep (nm : Str) (i : It) (p : Int) : Bool := decide (p < (nm.length : Int)) && (Txt.contains i.2.1 (charS nm p) != i.2.2)
noncomputable def mstep (nm : Str) (pl : List Int) (i : It) : List Int :=
  if !pl.isEmpty && (i.1 == "*") then (List.range ((nm.length : Int) + 1 - pl.headD 0).toNat).map fun (k : Nat) => pl.headD 0 + (k : Int)
  else (pl.filter (mkeep nm i)).map (· + 1)
noncomputable def meant (its : List It) (nm : Str) : Bool := (its.foldl (mstep nm) [0]).any (fun m => m == (nm.length : Int))

structure MOk (nm : Str) (pl : List Int) : Prop where
  len : pl.length ≤ 200
  all : ∀ p ∈ pl, 0 ≤ p ∧ p ≤ (nm.length : Int)
theorem MOk.step {nm : Str} (hn : nm.length ≤ 100) {pl : List Int} (h : MOk nm pl) (i : It) : MOk nm (mstep nm pl i) := by
  unfold mstep
  split
  · rename_i hc
    have hh : 0 ≤ pl.headD 0 ∧ pl.headD 0 ≤ (nm.length : Int) := by
      cases pl with
      | nil => simp
      | cons a r => exact h.all a (.head _)
    refine ⟨?_, fun p hp => ?_⟩
    · rw [List.length_map, List.length_range]; grind
    · obtain ⟨k, hk, rfl⟩ := List.mem_map.mp hp
      have := List.mem_range.mp hk
      grind
  · refine ⟨?_, fun p hp => ?_⟩
    · rw [List.length_map]
      exact Nat.le_trans (List.length_filter_le _ _) h.len
    · obtain ⟨q, hq, rfl⟩ := List.mem_map.mp hp
      have hq' := List.mem_filter.mp hq
      have h1 := h.all q hq'.1
      have h2 := hq'.2
      unfold mkeep at h2
      rw [Bool.and_eq_true, decide_eq_true_eq] at h2
      lia
theorem MOk.fold {nm : Str} (hn : nm.length ≤ 100) : ∀ (its : List It) {pl : List Int}, MOk nm pl → MOk nm (its.foldl (mstep nm) pl)
  | [], _, h => h
  | i :: r, _, h => MOk.fold hn r (h.step hn i)

theorem toPys_ints : ∀ ns : List Int, toPys (ns.map D.int) = ns.map PyData.int
  | [] => by simp [toPys]
  | k :: r => by simp [toPys, toPy, toPys_ints r]
theorem okPs_ints : ∀ ns : List Int, okPs (ns.map D.int) = true
  | [] => by simp [okPs]
  | k :: r => by simp [okPs, okP, okPs_ints r]
theorem shaped_ints (ns : List Int) : SeqAt.shaped (toPy (.list (ns.map D.int))) = true := by simp only [toPy, toPys_ints]; exact ke_shaped_ints ns
theorem eqv_nil (ns : List Int) : PyData.eqv (toPy (.list (ns.map D.int))) (toPy (.list [])) = ns.isEmpty := by
  cases ns <;> simp [toPy, toPys, PyData.eqv, PyData.eqvAll]

noncomputable def mkeepD (nm : Str) (i : It) : D → Bool
  | .int q => mkeep nm i q
  | _ => false
noncomputable def succD : D → D
  | .int q => .int (q + 1)
  | d => d
theorem filt_map (nm : Str) (i : It) : ∀ pl : List Int, (((pl.map D.int).filter (mkeepD nm i)).map succD) = ((pl.filter (mkeep nm i)).map (· + 1)).map D.int
  | [] => rfl
  | q :: r => by
    have h : mkeepD nm i (.int q) = mkeep nm i q := rfl
    rw [List.map_cons, List.filter_cons, List.filter_cons, h]
    by_cases hq : mkeep nm i q = true
    · rw [if_pos hq, if_pos hq, List.map_cons, List.map_cons, List.map_cons, filt_map nm i r]
      rfl
    · rw [if_neg hq, if_neg hq, filt_map nm i r]

section
variable {prog : Program} {w : World} {B : Heap} {n : Nat} {sc : Scope} {ρ : Rho}

theorem swaps_local {env : Env} {elt : Expr} {gens : List Comprehension} {s : Scope} {p0 p : Pos} {t : Str} {line : Nat} (o : Eo sc env) (h : sc.names.lookup t = some .local) (hn : (s.names.any fun (n, k) => n == t && (k == .local || k == .cell)) = false) (hl : (p.line == p0.line) = true) :
    swapsWith (.ListComp elt gens s p0) (some (.Name t p)) line env = pure true := by
  have hk : env.kindOf t = some .local := by unfold Env.kindOf; rw [o.iss]; exact h
  have hb : env.blockKind = .function := by unfold Env.blockKind; rw [o.iss, o.kind]; rfl
  show (pure (env.blockKind == .function && env.kindOf t == some .local && p.line == p0.line && !(s.names.any fun (n, k) => n == t && (k == .local || k == .cell))) : Sem Bool) = _
  rw [hk, hb, hn, hl]
  rfl

structure MInv (nm : Str) (pl : List Int) (ρ : Rho) : Prop where
  own : ρ.own = []
  name : ρ.nm "name" = some (.str nm)
  places : ρ.nm "places" = some (.list (pl.map .int))

theorem px_mbody (b : Bn B) (h7 : 7 ≤ n) {nm : Str} {pl : List Int} {i : It} {ρ : Rho} (hn : nm.length ≤ 100) (ok : MOk nm pl) (h : MInv nm pl ρ) (ht : ρ.nm "text" = some (.str i.1)) (hs : ρ.nm "some" = some (.str i.2.1)) (hb : ρ.nm "barred" = some (.bool i.2.2)) :
    PX prog w B n (fsc 32) ρ (forB (fb 32)[1]?) { nx := MInv nm (mstep nm pl i), ct := MInv nm (mstep nm pl i) } := by
  have fin : ∀ {q : List Int}, MInv nm q (ρ.set "places" (.list (q.map .int))) := fun {q} => ⟨by show List.filter _ ρ.own = _; rw [h.own]; rfl, (Rho.set_ne (by decide +kernel)).trans h.name, Rho.set_eq⟩
  unfold fb stm
  change PX _ _ _ _ _ _ (_ :: _) _
  with_reducible refine px_if (b := !pl.isEmpty && (i.1 == "*")) (PT.to (pt_and (pt_of_cmp (pe_neD (a := .list (pl.map .int)) (b := .list []) (pe_name h.places) (pe_list pes_nil) h7 ?_ ?_ ?_ ?_) ?_) fun _ => pt_and (pt_cmp (a := .str i.1) (pe_name ht) pe_str bo_eq_str) fun _ => pt_and_nil) ?_) ?_
  · simp only [okP]; exact okPs_ints pl
  · rfl
  · exact shaped_ints pl
  · exact shaped_ints []
  · exact ⟨_, _, _, _, rfl, by with_unfolding_all rfl⟩
  · rw [eqv_nil, Bool.and_true]
  cases hc : (!pl.isEmpty && (i.1 == "*")) with
  | true =>
    have e : mstep nm pl i = (List.range ((nm.length : Int) + 1 - pl.headD 0).toNat).map fun (k : Nat) => pl.headD 0 + (k : Int) := by unfold mstep; rw [hc]; rfl
    rw [e]
    have hne : pl ≠ [] := by intro e; rw [e] at hc; cases hc
    have hh : 0 ≤ pl.headD 0 ∧ pl.headD 0 ≤ (nm.length : Int) := by
      cases pl with
      | nil => exact (hne rfl).elim
      | cons a r => exact ok.all a (.head _)
    have hat : atD (pl.map D.int) 0 = some (.int (pl.headD 0)) := by
      cases pl with
      | nil => exact (hne rfl).elim
      | cons a r => rfl
    change PX _ _ _ _ _ _ (_ :: _) _
    with_reducible refine px_assign (pe_list_range2 (lo := pl.headD 0) (hi := (nm.length : Int) + 1) b.list ?_ b.range ?_ (pe_item_list (i := 0) (pe_name h.places) pe_int hat) (pe_binop (pe_b1 b.len ?_ (pe_name h.name) (uo_len_str ?_)) pe_int bo_add_int) ?_ ?_) ?_ ?_ ?_ ?_ ?_
    · decide +kernel
    · decide +kernel
    · decide +kernel
    · lia
    · lia
    · lia
    · exact .inl (by decide +kernel)
    · exact fun _ _ => rfl
    · decide +kernel
    · decide +kernel
    · conv => arg 7; whnf
      exact px_nil fin
  | false =>
    have e : mstep nm pl i = (pl.filter (mkeep nm i)).map (· + 1) := by unfold mstep; rw [hc]; rfl
    rw [e]
    change PX _ _ _ _ _ _ (_ :: _) _
    with_reducible refine px_acomp (z := true) (mkeepD nm i) succD ?_ ?_ ?_ (pi_list (pe_name h.places)) (fun d hd => ?_) (fun d hd hk => ?_) ?_ ?_ ?_ ?_ ?_ ?_
    · decide +kernel
    · decide +kernel
    · decide +kernel
    · obtain ⟨q, hq, rfl⟩ := List.mem_map.mp hd
      have hqq := ok.all q hq
      have e1 : (decide (q < (nm.length : Int)) && ((Txt.contains i.2.1 (charS nm q) != i.2.2) && true)) = mkeepD nm i (.int q) := by rw [Bool.and_true]; rfl
      have n1 : ∀ (s1 : Scope) (d : D), s1.names.lookup ("name" : Str) = some .free → (rhoC s1 ρ "place" d).nm "name" = some (.str nm) := fun s1 d hl => by
        unfold rhoC; simp only; rw [if_neg (by decide +kernel), if_pos hl]; exact h.name
      have n2 : ∀ (s1 : Scope) (d : D), s1.names.lookup ("some" : Str) = some .free → (rhoC s1 ρ "place" d).nm "some" = some (.str i.2.1) := fun s1 d hl => by
        unfold rhoC; simp only; rw [if_neg (by decide +kernel), if_pos hl]; exact hs
      have n3 : ∀ (s1 : Scope) (d : D), s1.names.lookup ("barred" : Str) = some .free → (rhoC s1 ρ "place" d).nm "barred" = some (.bool i.2.2) := fun s1 d hl => by
        unfold rhoC; simp only; rw [if_neg (by decide +kernel), if_pos hl]; exact hb
      have n4 : ∀ (s1 : Scope) (d : D), (rhoC s1 ρ "place" d).nm "place" = some d := fun s1 d => by simp [rhoC]
      with_reducible refine pts_one (PT.to (pt_and (pt_cmp (a := .int q) (pe_name (n4 _ _)) (pe_b1 b.len ?_ (pe_name (n1 _ _ ?_)) (uo_len_str ?_)) bo_lt_int) fun hlt => pt_and (pt_cmp (a := .bool (Txt.contains i.2.1 (charS nm q))) (pe_cmp (pe_item_str (c := (nm.cps[q.toNat]?).getD 0) (pe_name (n1 _ _ ?_)) (pe_name (n4 _ _)) ?_ ?_) (pe_name (n2 _ _ ?_)) bo_in_str') (pe_name (n3 _ _ ?_)) bo_ne_bool) fun _ => pt_and_nil) e1)
      · decide +kernel
      · decide +kernel
      · lia
      · decide +kernel
      · have hlt' : q < (nm.length : Int) := of_decide_eq_true hlt
        unfold atD
        rw [if_pos hqq.1]
        have hk : q.toNat < nm.cps.size := by
          have : nm.length = nm.cps.size := rfl
          omega
        simp [hk]
      · lia
      · decide +kernel
      · decide +kernel
    · obtain ⟨q, hq, rfl⟩ := List.mem_map.mp hd
      show PE _ _ _ _ _ _ _ (.int (q + 1))
      with_reducible refine pe_binop (pe_name ?_) pe_int bo_add_int
      simp [rhoC]
    · rw [List.length_map]; have := ok.len; lia
    · exact .inl (by decide +kernel)
    · decide +kernel
    · decide +kernel
    · exact fun env o => swaps_local o (by decide +kernel) (by decide +kernel) rfl
    · rw [filt_map]
      conv => arg 7; whnf
      exact px_nil fin

theorem px_meant (b : Bn B) (h7 : 7 ≤ n) {its : List It} {nm : Str} (hn : nm.length ≤ 100) : PX prog w B n (fsc 32) (rho [("items", .list (its.map itD)), ("name", .str nm)]) (fb 32) { nx := fun _ => False, rt := (· = .bool (meant its nm)) } := by
  unfold fb stm
  change PX _ _ _ _ _ _ (_ :: _) _
  with_reducible refine px_assign (d := .list [.int 0]) (pe_list (pes_cons pe_int pes_nil)) ?_ ?_ ?_ ?_ ?_
  · exact .inl (by decide +kernel)
  · exact fun _ _ => rfl
  · decide +kernel
  · decide +kernel
  change PX _ _ _ _ _ _ (_ :: _) _
  have ok0 : MOk nm [0] := ⟨by simp, fun p hp => by simp at hp; subst hp; lia⟩
  have hat : ∀ i d, (its.map itD)[i]? = some d → ∃ c, its[i]? = some c ∧ d = itD c := fun i d e => by
    rw [List.getElem?_map] at e
    cases hc : its[i]? with
    | none => rw [hc] at e; cases e
    | some c => rw [hc] at e; cases e; exact ⟨c, hc, rfl⟩
  let g : D → Rho → Rho := fun d ρ => match d with | .list [x, y, v] => tgSet [.Name "text" ⟨0, 0, 0, 0⟩, .Name "some" ⟨0, 0, 0, 0⟩, .Name "barred" ⟨0, 0, 0, 0⟩] [x, y, v] ρ | _ => ρ
  with_reducible refine px_for (ds := its.map itD) (P := MInv nm (its.foldl (mstep nm) [0])) (fun i => MInv nm ((its.take i).foldl (mstep nm) [0])) g (pw_list (pe_name ?_)) (fun d hd => ?_) (fun i d ρ' hi hI => ?_) ?_ ?_ (fun ρ1 h1 => ?_)
  · exact rfl
  · obtain ⟨c, _, rfl⟩ := List.mem_map.mp hd
    exact as_tupL (ds := [.str c.1, .str c.2.1, .bool c.2.2]) (by show tgOk _ _ 3 = true; decide +kernel)
  · obtain ⟨c, hc, rfl⟩ := hat i d hi
    have e : mstep nm ((its.take i).foldl (mstep nm) [0]) c = (its.take (i + 1)).foldl (mstep nm) [0] := by rw [take_succ_eq hc, List.foldl_append]; rfl
    rw [← e]
    have key := px_mbody (prog := prog) (w := w) (B := B) b h7 (i := c) (ρ := ((ρ'.set "text" (.str c.1)).set "some" (.str c.2.1)).set "barred" (.bool c.2.2)) hn (MOk.fold hn (its.take i) ok0)
      ⟨by show List.filter _ (List.filter _ (List.filter _ ρ'.own)) = _; rw [hI.own]; rfl, (Rho.set_ne (by decide +kernel)).trans ((Rho.set_ne (by decide +kernel)).trans ((Rho.set_ne (by decide +kernel)).trans hI.name)),
        (Rho.set_ne (by decide +kernel)).trans ((Rho.set_ne (by decide +kernel)).trans ((Rho.set_ne (by decide +kernel)).trans hI.places))⟩
      ((Rho.set_ne (by decide +kernel)).trans ((Rho.set_ne (by decide +kernel)).trans Rho.set_eq)) ((Rho.set_ne (by decide +kernel)).trans Rho.set_eq) Rho.set_eq
    exact key.mono (fun _ h => h) (fun _ h => h) (fun _ h => h.elim) (fun _ h => h.elim)
  · exact ⟨rfl, rfl, rfl⟩
  · intro ρ' h
    rw [List.length_map, List.take_length] at h
    exact h
  · change PX _ _ _ _ _ _ (_ :: _) _
    with_reducible refine px_return (d := .bool (meant its nm)) (pe_cmp (a := .int nm.length) (pe_b1 b.len ?_ (pe_name h1.name) (uo_len_str ?_)) (pe_name h1.places) bo_in_ints) rfl
    · decide +kernel
    · lia
end
end Mine
end

section
open PySem PySem.W PySem.Calls PyProof.Rows
set_option Elab.async false
set_option linter.unusedVariables false
set_option linter.unusedSectionVars false
set_option maxRecDepth 10000
namespace Mine
variable [Star]

noncomputable def oneI (c : String) : It := (c, c, false)
noncomputable def stI : It := ("*", "", false)
noncomputable def soI : It := ("?", "", true)
noncomputable def itemsI : List (List It) :=
  [[stI], [oneI "a", soI, oneI "b"], [stI, oneI "\"", stI], [oneI "e", oneI "\\", soI], [("[#]", "#", false), oneI "g"], [oneI "a", oneI " ", oneI "b"], [oneI " ", oneI "a", stI],
   [oneI "\"", soI], [oneI "\\", stI], [("[!a]", "a", true), stI], [("[a-c]", "abc", false), oneI " ", oneI "b"], [oneI "a", stI, stI, oneI "b"]]
noncomputable def ruD (l : List (List It)) : D := .list (l.map fun i => .list (i.map itD))
theorem itemsD_I : itemsD = itemsI.map fun i => .list (i.map itD) := rfl
noncomputable def ownStep (acc : List (List It)) (p : Int) : List (List It) := if p < 12 then acc ++ [(itemsI[p.toNat]?).getD []] else if p == 12 then acc else acc.dropLast
noncomputable def ownL (L : List Int) : List (List It) := L.foldl ownStep [[oneI "r"]]

theorem pick_run {α : Type} (l : List α) (a : Nat) : ∀ m : Nat, ((List.range m).map (a + ·)).filterMap (l[·]?) = (l.drop a).take m
  | 0 => by simp
  | m + 1 => by
    rw [List.range_succ, List.map_append, List.filterMap_append, pick_run l a m, List.take_add_one]
    congr 1
    rw [List.getElem?_drop]
    cases h : l[a + m]? <;> simp [h]
theorem pickD_plain {α : Type} (l : List α) (lo hi : Option Int) : pickD l lo hi none = (l.drop (lo.elim 0 (clipAt l.length))).take ((hi.elim l.length (clipAt l.length)) - (lo.elim 0 (clipAt l.length))) := by
  unfold pickD
  rw [sliceBounds_plain]
  dsimp only
  rw [sliceRange_one]
  exact pick_run l _ _
theorem clip_nat (n a : Nat) : clipAt n a = min a n := by
  unfold clipAt
  rw [if_neg (Int.not_lt.mpr (Int.natCast_nonneg a)), ← Lean.Omega.Int.ofNat_min, Int.max_eq_right (Int.natCast_nonneg _), Int.toNat_natCast]
theorem clip_last : ∀ n : Nat, clipAt n (-1) = n - 1
  | 0 => rfl
  | m + 1 => by
    have e : (-1 : Int) + ((m + 1 : Nat) : Int) = (m : Nat) := by rw [Int.natCast_succ, Int.add_comm]; exact Int.add_neg_cancel_right _ 1
    show (max 0 (min (-1 + ((m + 1 : Nat) : Int)) ((m + 1 : Nat) : Int))).toNat = m
    rw [e, ← Lean.Omega.Int.ofNat_min, Nat.min_eq_left (Nat.le_succ m), Int.max_eq_right (Int.natCast_nonneg _), Int.toNat_natCast]
theorem pick_init {α : Type} (l : List α) : pickD l none (some (-1)) none = l.dropLast := by
  rw [pickD_plain, List.dropLast_eq_take]
  show ((l.drop 0).take (clipAt l.length (-1) - 0)) = _
  rw [clip_last]; rfl
theorem pick_from {α : Type} (l : List α) (a : Nat) : pickD l (some a) none none = l.drop a := by
  rw [pickD_plain]
  show ((l.drop (clipAt l.length a)).take (l.length - clipAt l.length a)) = _
  rw [clip_nat, List.take_of_length_le (by rw [List.length_drop]; (exact Nat.le_refl _))]
  by_cases h : a ≤ l.length
  · rw [Nat.min_eq_left h]
  · have h := Nat.le_of_not_le h
    rw [Nat.min_eq_right h, List.drop_eq_nil_of_le (Nat.le_refl _), List.drop_eq_nil_of_le h]
theorem pick_upto {α : Type} (l : List α) (b : Nat) : pickD l none (some b) none = l.take b := by
  rw [pickD_plain]
  show ((l.drop 0).take (clipAt l.length b - 0)) = _
  rw [clip_nat, List.drop_zero, Nat.sub_zero]
  by_cases h : b ≤ l.length
  · rw [Nat.min_eq_left h]
  · have h := Nat.le_of_not_le h
    rw [Nat.min_eq_right h, List.take_of_length_le (Nat.le_refl _), List.take_of_length_le h]

theorem ownStep_len (acc : List (List It)) (p : Int) : (ownStep acc p).length ≤ acc.length + 1 := by
  unfold ownStep
  split
  · simp
  · split
    · (exact Nat.le_succ _)
    · simp; lia
theorem ownFold_len : ∀ (L : List Int) (acc : List (List It)), (L.foldl ownStep acc).length ≤ acc.length + L.length
  | [], acc => by simp
  | p :: r, acc => by
    rw [List.foldl_cons, List.length_cons]
    have h1 := ownFold_len r (ownStep acc p)
    have h2 := ownStep_len acc p
    lia

section
variable {prog : Program} {w : World} {B : Heap} {n : Nat} {sc : Scope} {ρ : Rho}

structure OInv (acc : List (List It)) (ρ : Rho) : Prop where
  own : ρ.own = []
  path : ρ.nm "path" = some (ruD acc)

theorem px_own {ai : Nat} (hi : GlobFn B "_law_items" ai) (fi : ∀ p d, atD itemsD p = some d → FA prog w B n ai [.int p] d) {L : List Int} (hL : ∀ p ∈ L, 0 ≤ p ∧ p < 14) (hl : L.length ≤ 3) :
    PX prog w B n (fsc 35) (rho [("pieces", .list (L.map .int))]) (fb 35) { nx := fun _ => False, rt := (· = ruD (ownL L)) } := by
  unfold fb stm
  change PX _ _ _ _ _ _ (_ :: _) _
  with_reducible refine px_assign (d := ruD [[oneI "r"]]) ?_ ?_ ?_ ?_ ?_ ?_
  · show PE _ _ _ _ _ _ _ (.list [.list [.list [.str "r", .str "r", .bool false]]])
    with_reducible exact pe_list (pes_cons (pe_list (pes_cons (pe_list (pes_cons pe_str (pes_cons pe_str (pes_cons pe_bool pes_nil)))) pes_nil)) pes_nil)
  · exact .inl (by decide +kernel)
  · exact fun _ _ => rfl
  · decide +kernel
  · decide +kernel
  change PX _ _ _ _ _ _ (_ :: _) _
  have hat : ∀ i d, (L.map D.int)[i]? = some d → ∃ c, L[i]? = some c ∧ d = D.int c := fun i d e => by
    rw [List.getElem?_map] at e
    cases hc : L[i]? with
    | none => rw [hc] at e; cases e
    | some c => rw [hc] at e; cases e; exact ⟨c, hc, rfl⟩
  with_reducible refine px_for (ds := L.map .int) (P := OInv (ownL L)) (fun i => OInv ((L.take i).foldl ownStep [[oneI "r"]])) (fun d ρ => ρ.set "piece" d) (pw_list (pe_name ?_)) (fun d _ => as_name ?_ ?_ ?_) (fun i d ρ' hi' hI => ?_) ?_ ?_ (fun ρ1 h1 => ?_)
  · exact rfl
  · exact .inl (by decide +kernel)
  · decide +kernel
  · decide +kernel
  · obtain ⟨p, hp, rfl⟩ := hat i d hi'
    have hpp := hL p (List.mem_of_getElem? hp)
    have e : ownStep ((L.take i).foldl ownStep [[oneI "r"]]) p = (L.take (i + 1)).foldl ownStep [[oneI "r"]] := by rw [take_succ_eq hp, List.foldl_append]; rfl
    rw [← e]
    generalize hacc : (L.take i).foldl ownStep [[oneI "r"]] = acc at hI ⊢
    have hal : acc.length ≤ 4 := by
      have h1 := ownFold_len (L.take i) [[oneI "r"]]
      rw [hacc, List.length_take] at h1
      simp at h1
      lia
    have n1 : (ρ'.set "piece" (.int p)).nm "piece" = some (.int p) := Rho.set_eq
    have n2 : (ρ'.set "piece" (.int p)).nm "path" = some (ruD acc) := (Rho.set_ne (by decide +kernel)).trans hI.path
    have fin : ∀ {q : List (List It)}, OInv q ((ρ'.set "piece" (.int p)).set "path" (ruD q)) := fun {q} => ⟨by show List.filter _ (List.filter _ ρ'.own) = _; rw [hI.own]; rfl, Rho.set_eq⟩
    change PX _ _ _ _ _ _ (_ :: _) _
    with_reducible refine px_assign (d := ruD (ownStep acc p)) (pe_if' (q := decide (p < 12)) (pt_cmp (pe_name n1) pe_int bo_lt_int) (fun h => ?_) (fun h => pe_if' (q := p == 12) (pt_cmp (pe_name n1) pe_int bo_eq_int) (fun h' => ?_) (fun h' => ?_))) ?_ ?_ ?_ ?_ ?_
    · have hp12 : p < 12 := of_decide_eq_true h
      have e2 : ownStep acc p = acc ++ [(itemsI[p.toNat]?).getD []] := by unfold ownStep; rw [if_pos hp12]
      rw [e2]
      have hit : atD itemsD p = some (.list (((itemsI[p.toNat]?).getD []).map itD)) := by
        unfold atD
        rw [if_pos hpp.1, itemsD_I, List.getElem?_map]
        have hlt : p.toNat < itemsI.length := by show p.toNat < 12; lia
        rw [List.getElem?_eq_getElem hlt]
        rfl
      have e3 : ruD (acc ++ [(itemsI[p.toNat]?).getD []]) = .list ((acc.map fun i => D.list (i.map itD)) ++ [.list (((itemsI[p.toNat]?).getD []).map itD)]) := by unfold ruD; rw [List.map_append]; rfl
      rw [e3]
      with_reducible refine pe_binop (a := .list (acc.map fun i => .list (i.map itD))) (pe_name ?_) (pe_list (pes_cons (pe_call hi ?_ (pes_cons (pe_name n1) pes_nil) (fi p _ hit)) pes_nil)) (bo_add_list ?_)
      · exact n2
      · decide +kernel
      · simp; lia
    · have hp12 : ¬ p < 12 := of_decide_eq_false h
      have e2 : ownStep acc p = acc := by unfold ownStep; rw [if_neg hp12, if_pos h']
      rw [e2]
      with_reducible exact pe_name n2
    · have hp12 : ¬ p < 12 := of_decide_eq_false h
      have e2 : ownStep acc p = acc.dropLast := by unfold ownStep; rw [if_neg hp12, if_neg (by rw [h']; decide)]
      have e3 : ruD acc.dropLast = .list (pickD (acc.map fun i => D.list (i.map itD)) none (some (-1)) none) := by
        unfold ruD
        rw [pick_init, List.map_dropLast]
      rw [e2, e3]
      with_reducible refine pe_slice_list (ds := acc.map fun i => D.list (i.map itD)) (lo := none) (hi := some (-1)) (st := none) (pe_name ?_) ?_ ?_ ?_ ?_ ?_
      · exact n2
      · trivial
      · exact pe_neg pe_int
      · trivial
      · intro e; cases e
      · rw [pick_init, List.length_dropLast]; lia
    · exact .inl (by decide +kernel)
    · exact fun _ _ => rfl
    · decide +kernel
    · decide +kernel
    · conv => arg 7; whnf
      exact px_nil fin
  · exact ⟨rfl, rfl⟩
  · intro ρ' h
    rw [List.length_map, List.take_length] at h
    exact h
  · change PX _ _ _ _ _ _ (_ :: _) _
    with_reducible exact px_return (d := ruD (ownL L)) (pe_name h1.path) rfl
end
end Mine
end

section
open PySem PySem.W PySem.Calls PyProof.Rows
set_option Elab.async false
set_option linter.unusedVariables false
set_option linter.unusedSectionVars false
set_option maxRecDepth 10000
namespace Mine
variable [Star]

noncomputable def hitIx (rule : List (List It)) (names : List Str) : List Nat := (List.range names.length).filter fun k => !meant ((rule[k]?).getD []) ((names[k]?).getD "")
noncomputable def hit (rule : List (List It)) (names : List Str) : Bool := ((rule.length : Int) == (names.length : Int)) && ((hitIx rule names).map fun (k : Nat) => (k : Int)).isEmpty
noncomputable def hitStep (rules : List (List (List It))) (names : List Str) (acc : List Int) (k : Nat) : List Int := if hit ((rules[k]?).getD []) names then acc ++ [(k : Int)] else acc
noncomputable def hitsL (rules : List (List (List It))) (names : List Str) : List Int := (List.range rules.length).foldl (hitStep rules names) []

noncomputable def notMeantD (rule : List (List It)) (names : List Str) : D → Bool
  | .int k => !meant ((rule[k.toNat]?).getD []) ((names[k.toNat]?).getD "")
  | _ => false
theorem hit_filt (rule : List (List It)) (names : List Str) : ∀ l : List Nat, ((l.map fun (k : Nat) => D.int (k : Int)).filter (notMeantD rule names)).map id = ((l.filter fun k => !meant ((rule[k]?).getD []) ((names[k]?).getD "")).map fun (k : Nat) => (k : Int)).map D.int
  | [] => rfl
  | k :: r => by
    have h : notMeantD rule names (.int (k : Int)) = !meant ((rule[k]?).getD []) ((names[k]?).getD "") := rfl
    rw [List.map_cons, List.filter_cons, List.filter_cons, h]
    by_cases hq : (!meant ((rule[k]?).getD []) ((names[k]?).getD "")) = true
    · rw [if_pos hq, if_pos hq, List.map_cons, List.map_cons, List.map_cons, hit_filt rule names r]
      rfl
    · rw [if_neg hq, if_neg hq, hit_filt rule names r]

theorem hitStep_len (rules names) (acc : List Int) (k : Nat) : (hitStep rules names acc k).length ≤ acc.length + 1 := by
  unfold hitStep
  split
  · simp
  · (exact Nat.le_succ _)
theorem hitFold_len (rules names) : ∀ (l : List Nat) (acc : List Int), (l.foldl (hitStep rules names) acc).length ≤ acc.length + l.length
  | [], acc => by simp
  | k :: r, acc => by
    rw [List.foldl_cons, List.length_cons]
    have h1 := hitFold_len rules names r (hitStep rules names acc k)
    have h2 := hitStep_len rules names acc k
    lia

section
variable {prog : Program} {w : World} {B : Heap} {n : Nat} {sc : Scope} {ρ : Rho}

theorem pw_rlen_list {np pos np2 pos2 : Pos} {e : Expr} {x : List D} (hr : GlobBlt B "range" (.type "range")) (hlen : GlobBlt B "len" (.builtin "len")) (h1 : sc.names.lookup ("range" : Str) = some .globalImplicit) (h2 : sc.names.lookup ("len" : Str) = some .globalImplicit) (he : PE prog w B n sc ρ e (.list x)) (hx : x.length ≤ 100000)
    (hs : ∀ env, starEach [e] env = [(false, eval e env)] := by intro _; with_unfolding_all rfl) : PW prog w B n sc ρ (.Call (.Name "range" np) [.Call (.Name "len" np2) [e] [] pos2] [] pos) ((List.range x.length).map fun (i : Nat) => .int (i : Int)) := by
  have := pw_range1 (np := np) (pos := pos) hr h1 (pe_b1 (np := np2) (pos := pos2) hlen h2 he uo_len_list hs) (by lia) (by lia)
  exact this

structure HInv (a : Nat) (rules : List (List (List It))) (names : List Str) (acc : List Int) (ρ : Rho) : Prop where
  own : ρ.own = [(("hits" : Str), a, acc.map D.int)]
  rules : ρ.nm "rules" = some (.list (rules.map ruD))
  names : ρ.nm "names" = some (.list (names.map .str))

theorem px_hits (b : Bn B) (h7 : 7 ≤ n) {am : Nat} (hm : GlobFn B "_law_meant" am) (fm : ∀ its nm, nm.length ≤ 100 → FA prog w B n am [.list (its.map itD), .str nm] (.bool (meant its nm))) {rules : List (List (List It))} {names : List Str} (hr : rules.length ≤ 1000) (hn : names.length ≤ 1000) (hnl : ∀ nm ∈ names, nm.length ≤ 100) :
    PX prog w B n (fsc 36) (rho [("rules", .list (rules.map ruD)), ("names", .list (names.map .str))]) (fb 36) { nx := fun _ => False, rt := (· = .list ((hitsL rules names).map .int)) } := by
  unfold fb stm
  change PX _ _ _ _ _ _ (_ :: _) _
  with_reducible refine px_new (ds := []) pes_nil ?_ ?_ ?_ fun a => ?_
  · exact .inl (by decide +kernel)
  · decide +kernel
  · decide +kernel
  change PX _ _ _ _ _ _ (_ :: _) _
  have hat : ∀ i d, ((List.range (rules.map ruD).length).map fun (k : Nat) => D.int (k : Int))[i]? = some d → i < rules.length ∧ d = .int i := fun i d e => by
    rw [List.getElem?_map, List.length_map] at e
    by_cases hi : i < rules.length
    · rw [List.getElem?_range hi] at e
      cases e
      exact ⟨hi, rfl⟩
    · rw [List.getElem?_eq_none (by rw [List.length_range]; lia)] at e
      cases e
  with_reducible refine px_for (ds := (List.range (rules.map ruD).length).map fun (k : Nat) => D.int (k : Int)) (P := HInv a rules names (hitsL rules names)) (fun i => HInv a rules names ((List.range i).foldl (hitStep rules names) [])) (fun d ρ => ρ.set "k" d) (pw_rlen_list b.range b.len ?_ ?_ (pe_name ?_) ?_) (fun d _ => as_name ?_ ?_ ?_) (fun i d ρ' hi' hI => ?_) ?_ ?_ (fun ρ1 h1 => ?_)
  · decide +kernel
  · decide +kernel
  · exact rfl
  · rw [List.length_map]; lia
  · exact .inr (by decide +kernel)
  · decide +kernel
  · decide +kernel
  · obtain ⟨hi, rfl⟩ := hat i d hi'
    have e : hitStep rules names ((List.range i).foldl (hitStep rules names) []) i = (List.range (i + 1)).foldl (hitStep rules names) [] := by rw [List.range_succ, List.foldl_append]; rfl
    rw [← e]
    generalize hacc : (List.range i).foldl (hitStep rules names) [] = acc at hI ⊢
    have hal : acc.length ≤ 1000 := by
      have h1 := hitFold_len rules names (List.range i) []
      rw [hacc, List.length_range] at h1
      simp at h1
      lia
    have n1 : (ρ'.set "k" (.int i)).nm "k" = some (.int i) := Rho.set_eq
    have n2 : (ρ'.set "k" (.int i)).nm "rules" = some (.list (rules.map ruD)) := (Rho.set_ne (by decide +kernel)).trans hI.rules
    have n3 : (ρ'.set "k" (.int i)).nm "names" = some (.list (names.map .str)) := (Rho.set_ne (by decide +kernel)).trans hI.names
    have ho : (ρ'.set "k" (.int i)).own = [(("hits" : Str), a, acc.map D.int)] := by show List.filter _ ρ'.own = _; rw [hI.own]; rfl
    generalize hru : (rules[i]?).getD [] = rule
    have hrule : atD (rules.map ruD) (i : Int) = some (ruD rule) := by
      unfold atD
      rw [if_pos (by lia), Int.toNat_natCast, List.getElem?_map, List.getElem?_eq_getElem hi, ← hru, List.getElem?_eq_getElem hi]
      rfl
    have hst : hitStep rules names acc i = if hit rule names then acc ++ [(i : Int)] else acc := by unfold hitStep; rw [hru]
    rw [hst]
    change PX _ _ _ _ _ _ (_ :: _) _
    have e5 : (((rule.length : Int) == (names.length : Int)) && (PyData.eqv (toPy (.list (((hitIx rule names).map fun (k : Nat) => (k : Int)).map D.int))) (toPy (.list [])) && true)) = hit rule names := by
      rw [eqv_nil, Bool.and_true]; rfl
    with_reducible refine px_if (b := hit rule names) (PT.to (pt_and (pt_cmp (a := .int rule.length) (b := .int names.length) (pe_b1 b.len ?_ (pe_item_list (d := ruD rule) (pe_name n2) (pe_name n1) hrule) ?_) (pe_b1 b.len ?_ (pe_name n3) ?_) bo_eq_int) fun hl => pt_and (pt_of_cmp (pe_eqD (a := .list (((hitIx rule names).map fun (k : Nat) => (k : Int)).map D.int)) (b := .list []) ?_ (pe_list pes_nil) h7 ?_ ?_ ?_ ?_) ?_) fun _ => pt_and_nil) e5) ?_
    · decide +kernel
    · have h2 := uo_len_list (prog := prog) (w := w) (B := B) (l := rule.map fun i => D.list (i.map itD))
      rw [List.length_map] at h2
      exact h2
    · decide +kernel
    · have h2 := uo_len_list (prog := prog) (w := w) (B := B) (l := names.map D.str)
      rw [List.length_map] at h2
      exact h2
    · have hlen : rule.length = names.length := by have := eq_of_beq hl; lia
      unfold hitIx
      rw [← hit_filt]
      have el : (names.map D.str).length = names.length := List.length_map ..
      have src : ∀ {np pos np2 pos2 p3 : Pos}, PI prog w B true n (fsc 36) (ρ'.set "k" (.int i)) (.Call (.Name "range" np) [.Call (.Name "len" np2) [.Name "names" p3] [] pos2] [] pos) ((List.range names.length).map fun (k : Nat) => .int (k : Int)) := fun {np pos np2 pos2 p3} => by
        have := pi_rlen_list (np := np) (pos := pos) (np2 := np2) (pos2 := pos2) (sc := fsc 36) (n := n) (prog := prog) (w := w) b.range b.len (by decide +kernel) (by decide +kernel) (pe_name n3 (pos := p3)) (by rw [el]; lia)
        rw [el] at this
        exact this
      have m1 : ∀ (s1 : Scope) (d : D), s1.names.lookup ("k" : Str) = some .free → (rhoC s1 (ρ'.set "k" (.int i)) "n" d).nm "k" = some (.int i) := fun s1 d hl => by
        unfold rhoC; simp only; rw [if_neg (by decide +kernel), if_pos hl]; exact n1
      have m2 : ∀ (s1 : Scope) (d : D), s1.names.lookup ("rules" : Str) = some .free → (rhoC s1 (ρ'.set "k" (.int i)) "n" d).nm "rules" = some (.list (rules.map ruD)) := fun s1 d hl => by
        unfold rhoC; simp only; rw [if_neg (by decide +kernel), if_pos hl]; exact n2
      have m3 : ∀ (s1 : Scope) (d : D), s1.names.lookup ("names" : Str) = some .free → (rhoC s1 (ρ'.set "k" (.int i)) "n" d).nm "names" = some (.list (names.map .str)) := fun s1 d hl => by
        unfold rhoC; simp only; rw [if_neg (by decide +kernel), if_pos hl]; exact n3
      have m4 : ∀ (s1 : Scope) (d : D), (rhoC s1 (ρ'.set "k" (.int i)) "n" d).nm "n" = some d := fun s1 d => by simp [rhoC]
      with_reducible refine pe_comp (z := true) (notMeantD rule names) id ?_ ?_ ?_ src (fun d hd => ?_) (fun d hd _ => ?_) ?_
      · decide +kernel
      · decide +kernel
      · decide +kernel
      · obtain ⟨k, hk, rfl⟩ := List.mem_map.mp hd
        have hk' := List.mem_range.mp hk
        have hkr : k < rule.length := by grind
        show PTs _ _ _ _ _ _ _ (!meant ((rule[(k : Int).toNat]?).getD []) ((names[(k : Int).toNat]?).getD ""))
        rw [Int.toNat_natCast]
        have e7 : atD (rule.map fun i => D.list (i.map itD)) (k : Int) = some (.list (((rule[k]?).getD []).map itD)) := by
          unfold atD
          rw [if_pos (by lia), Int.toNat_natCast, List.getElem?_map, List.getElem?_eq_getElem hkr]
          rfl
        have e8 : atD (names.map D.str) (k : Int) = some (.str ((names[k]?).getD "")) := by
          unfold atD
          rw [if_pos (by lia), Int.toNat_natCast, List.getElem?_map, List.getElem?_eq_getElem hk']
          rfl
        have hnk : ((names[k]?).getD "").length ≤ 100 := by
          rw [List.getElem?_eq_getElem hk']
          exact hnl _ (List.getElem_mem hk')
        with_reducible refine pts_one (pt_not (pt_plain (pe_call hm ?_ (pes_cons (pe_item_list (ds := rule.map fun i => D.list (i.map itD)) (pe_item_list (d := ruD rule) (pe_name (m2 _ _ ?_)) (pe_name (m1 _ _ ?_)) hrule) (pe_name (m4 _ _)) e7) (pes_cons (pe_item_list (pe_name (m3 _ _ ?_)) (pe_name (m4 _ _)) e8) pes_nil)) (fm _ _ hnk)) to_bool))
        · decide +kernel
        · decide +kernel
        · decide +kernel
        · decide +kernel
      · with_reducible exact pe_name (m4 _ _)
      · rw [List.length_map, List.length_range]; lia
    · simp only [okP]; exact okPs_ints _
    · rfl
    · exact shaped_ints _
    · exact shaped_ints []
    · exact ⟨_, _, _, _, rfl, by with_unfolding_all rfl⟩
    cases hit rule names with
    | true =>
      change PX _ _ _ _ _ _ (_ :: _) _
      with_reducible refine px_append (d := .int i) (l := acc.map D.int) (a := a) (pe_name n1) ?_ ?_ ?_
      · rw [ho]; exact .head _
      · rw [List.length_map]; lia
      · conv => arg 7; whnf
        refine px_nil ⟨?_, n2, n3⟩
        show List.map _ (ρ'.set "k" (.int i)).own = _
        rw [ho]
        have : (acc ++ [(i : Int)]).map D.int = acc.map D.int ++ [D.int i] := by rw [List.map_append]; rfl
        simp only [if_true]
        rw [this]
        rfl
    | false =>
      conv => arg 7; whnf
      exact px_nil ⟨ho, n2, n3⟩
  · exact ⟨rfl, rfl, rfl⟩
  · intro ρ' h
    rw [List.length_map, List.length_range, List.length_map] at h
    exact h
  · change PX _ _ _ _ _ _ (_ :: _) _
    with_reducible refine px_return_see (d := .list ((hitsL rules names).map .int)) (pe_name (see_own (p := (("hits" : Str), a, (hitsL rules names).map D.int)) ?_)) rfl
    rw [h1.own]; rfl
end
end Mine
end

section
open PySem PySem.W PySem.Calls PyProof.Rows
set_option Elab.async false
set_option maxRecDepth 100000
namespace Mine
section
variable {prog : Program} {w : World} {A : Around} {E : Value → Shared → Prop} {s : Shared}

theorem raise_sz {α : Type} {M : Model} {cls : String} {args : List Value} {Q : α → Shared → Prop} (hp : PlainExc cls) (hh : A.handled = none)
    (h : ∀ h' e, Heap.NewExc s.heap h' e cls → s.heap.objs.size ≤ h'.objs.size → E (.ref e) { s with heap := h' }) (hsz : args.length ≤ sizeLine := by size_fits) : wpAny M A (do raiseNew (← newExc (.type cls) args) : Sem α) Q E s := by
  refine wpAny_bind ?_
  unfold newExc newTuple
  refine wpAny_bind (wpAny_newObj_type ?_ (show args.toArray.size ≤ sizeLine by simpa using hsz))
  refine wpAny_bind (m := firstArgMember _ _) (wpAny_of_eq (a := Value.none) (by simp only [firstArgMember, hp.first]; rfl) ?_)
  rw [hp.own]
  refine wpAny_newObj_type ?_ (by size_fits)
  unfold raiseNew
  refine wpAny_bind (wpAny_handled ?_)
  rw [hh]
  first
    | refine wpAny_throw ?_
    | refine wpAny_bind (wpAny_pure (wpAny_throw ?_))
  refine h _ _ ⟨fun b o hb => Heap.get?_push_of_some _ (Heap.get?_push_of_some _ hb), Heap.get?_none_of_le (by simp), _, .ref s.heap.objs.size, Heap.get?_push_size _ rfl, rfl, by simp⟩ ?_
  rw [Heap.size_push, Heap.size_push]
  exact Nat.le_succ_of_le (Nat.le_succ _)

theorem dict_miss {k : Int} {d : Nat} {key : Value} (hkey : (intKind prog w).is k key = true) (hd : (d == sysModules) = false) :
    MeetsIn prog w (Builtin.«dict.__getitem__» ⟨[.ref d, key], []⟩) (fun A R s => A.handled = none ∧ ∃ f, s.heap.MapOf (intKind prog w) d f ∧ f k = none ∧
      ∀ h' e, Heap.NewExc s.heap h' e "KeyError" → s.heap.objs.size ≤ h'.objs.size → R (.error (.ref e)) { s with heap := h', toks := s.toks + 1 }) :=
  .of_wp fun A R s ⟨hh, f, hm, hf, h⟩ => by
    show wpAny _ _ (dictGet d key >>= _) _ _ s
    refine wpAny_bind (wpAny_dictGet_of hkey hm ?_)
    rw [hf]
    show wpAny _ _ (Builtin.Dict.missed d key >>= _) _ _ _
    refine wpAny_bind (wpAny_missed_other hd ?_)
    refine wpAny_bind (wpAny_typeOf (s := { s with toks := s.toks + 1 }) hm.typeIs ?_)
    show wpAny _ _ (if (Value.type "dict" != Value.type "dict") = true then _ else _) _ _ _
    rw [if_neg (by decide)]
    exact wpAny_bind (wpAny_rule (raise_sz (A := A.in1) (s := { s with toks := s.toks + 1 }) plainExc_KeyError hh h))

theorem look_keep {d c : Nat} {f : Int → Option Value} {Q : Builtin.Str.Mapped → Shared → Prop} (hh : A.handled = none) (hd : (d == sysModules) = false) (hm : s.heap.MapOf (intKind prog w) d f) (hf : f c = none)
    (hQ : ∀ h' tk, (∀ b o, s.heap.get? b = some o → h'.get? b = some o) → s.heap.objs.size ≤ h'.objs.size → Q .keep { s with heap := h', toks := tk }) : wpAny (model prog w) A (Builtin.Str.tableLookup (.ref d) c) Q E s := by
  unfold Builtin.Str.tableLookup
  refine wpAny_bind (wpAny_attempt ?_)
  refine wpAny_bind (wpAny_mkInt ?_)
  have hm1 : ({ s with toks := s.toks + 1 } : Shared).heap.MapOf (intKind prog w) d f := hm
  refine wpAny_getItem_slot (s := { s with toks := s.toks + 1 }) hm1.typeIs (by decide) slot_dict_getitem (call_meetsIn slot_dict_getitem hm1.typeIs entry_dict_getitem (args_dict_getitem _ _) (dict_miss (intKind_is prog w _ _) hd) ⟨hh, f, hm1, hf, fun h' e ne sz => ?_⟩)
  obtain ⟨ob, t, he, hcls, _⟩ := ne.there
  refine wpAny_bind (wpAny_isInstance (T := "KeyError") (b := true) ⟨ob, he, hcls⟩ (by first | rfl | kernel_rfl) ?_)
  simp only [if_true]
  exact wpAny_bind (wpAny_rule (wpAny_pure (hQ _ _ ne.keeps sz)))

theorem look_text {d c : Nat} {f : Int → Option Value} {x : Str} {t : Tok} {Q : Builtin.Str.Mapped → Shared → Prop} (hm : s.heap.MapOf (intKind prog w) d f) (hf : f c = some (.str x t))
    (hQ : ∀ tk, Q (.text x) { s with toks := tk }) : wpAny (model prog w) A (Builtin.Str.tableLookup (.ref d) c) Q E s := by
  unfold Builtin.Str.tableLookup
  refine wpAny_bind (wpAny_attempt ?_)
  refine wpAny_bind (wpAny_mkInt ?_)
  have hm1 : ({ s with toks := s.toks + 1 } : Shared).heap.MapOf (intKind prog w) d f := hm
  refine wpAny_getItem_of (s := { s with toks := s.toks + 1 }) (intKind_is prog w _ _) hm1 hf ?_
  refine wpAny_bind (wpAny_of_eq (a := none) rfl ?_)
  refine wpAny_bind (wpAny_of_eq (a := some x) rfl ?_)
  exact wpAny_pure (hQ _)

theorem translate_keep {d c : Nat} {f : Int → Option Value} {t : Tok} {Q : Fin → Shared → Prop} (hc : c < 128) (hh : A.handled = none) (hd : (d == sysModules) = false) (hm : s.heap.MapOf (intKind prog w) d f) (hf : f c = none)
    (hQ : ∀ h' tk v, (∀ b o, s.heap.get? b = some o → h'.get? b = some o) → s.heap.objs.size ≤ h'.objs.size → Q (.done (.ret (.str ⟨#[c]⟩ v))) { s with heap := h', toks := tk }) :
    wpAny (model prog w) A (Builtin.«str.translate» ⟨[.str ⟨#[c]⟩ t, .ref d], []⟩) Q E s := by
  unfold Builtin.«str.translate»
  refine wpAny_bind (wpAny_of_eq (a := (Value.str ⟨#[c]⟩ t, ⟨#[c]⟩, Value.ref d)) rfl ?_)
  dsimp only
  rw [if_neg (show ¬ (((⟨#[c]⟩ : Str).length == 0) = true) by intro h; cases h)]
  have e : (#[c].all fun x => decide (x < 128)) = true := by simp [hc]
  have e0 : Builtin.Str.tooLong 0 = false := by decide
  have e1 : Builtin.Str.tooLong (0 + 1) = false := by decide
  refine wpAny_bind ?_
  rw [e, ← Array.forIn_toList, List.forIn_cons]
  refine wpAny_bind ?_
  simp only [e0, Bool.false_eq_true, if_false, if_true, List.lookup]
  refine wpAny_bind (look_keep hh hd hm hf fun h' tk kp sz => ?_)
  dsimp only
  refine wpAny_bind (wpAny_pure ?_)
  dsimp only
  refine wpAny_pure ?_
  dsimp only
  rw [List.forIn_nil]
  refine wpAny_pure ?_
  dsimp only
  simp only [e1, Bool.false_eq_true, if_false]
  show wpAny _ _ (retStr ⟨#[c]⟩) _ _ _
  refine wpAny_bind (wpAny_mkStr (wpAny_pure ?_) (by show 1 ≤ sizeLine; decide))
  exact hQ _ _ _ kp sz

theorem translate_text {d c : Nat} {f : Int → Option Value} {x : Str} {t tx : Tok} {Q : Fin → Shared → Prop} (hc : c < 128) (hm : s.heap.MapOf (intKind prog w) d f) (hf : f c = some (.str x tx)) (hx : x.length = 2)
    (hQ : ∀ tk v, Q (.done (.ret (.str x v))) { s with toks := tk }) :
    wpAny (model prog w) A (Builtin.«str.translate» ⟨[.str ⟨#[c]⟩ t, .ref d], []⟩) Q E s := by
  unfold Builtin.«str.translate»
  refine wpAny_bind (wpAny_of_eq (a := (Value.str ⟨#[c]⟩ t, ⟨#[c]⟩, Value.ref d)) rfl ?_)
  dsimp only
  rw [if_neg (show ¬ (((⟨#[c]⟩ : Str).length == 0) = true) by intro h; cases h)]
  have e : (#[c].all fun x => decide (x < 128)) = true := by simp [hc]
  have e0 : Builtin.Str.tooLong 0 = false := by decide
  have e1 : Builtin.Str.tooLong (0 + 2) = false := by decide
  refine wpAny_bind ?_
  rw [e, ← Array.forIn_toList, List.forIn_cons]
  refine wpAny_bind ?_
  simp only [e0, Bool.false_eq_true, if_false, if_true, List.lookup]
  refine wpAny_bind (look_text hm hf fun tk => ?_)
  have e2 : (x.length == 1 && x.cps.all fun x => decide (x < 128)) = false := by rw [hx]; rfl
  simp only [e2, Bool.false_eq_true, if_false]
  refine wpAny_bind (wpAny_pure ?_)
  dsimp only
  refine wpAny_bind (wpAny_rule (wpAny_bind (look_text (s := { s with toks := tk }) hm hf fun tk2 => ?_)))
  dsimp only
  refine wpAny_pure ?_
  dsimp only
  rw [List.forIn_nil]
  refine wpAny_pure ?_
  dsimp only
  rw [hx]
  simp only [e1, Bool.false_eq_true, if_false]
  have e3 : (⟨[x].reverse.foldl (fun acc p => acc ++ p.cps) #[]⟩ : Str) = x := by obtain ⟨a⟩ := x; simp
  show wpAny _ _ (retStr _) _ _ _
  rw [e3]
  refine wpAny_bind (wpAny_mkStr (wpAny_pure ?_) (by rw [hx]; decide))
  exact hQ _ _
end
end Mine
end

section
open PySem PySem.W PySem.Calls PyProof.Rows
set_option Elab.async false
set_option linter.unusedVariables false
set_option linter.unusedSectionVars false
set_option maxRecDepth 10000
namespace Mine
variable [Star]

section
variable {prog : Program} {w : World} {B : Heap} {n : Nat} {sc : Scope} {ρ : Rho}

noncomputable def GlobRef (B : Heap) (f : Str) (a : Nat) : Prop := ∃ mg, B.Ns mainGlobals mg ∧ mg f = some (.ref a)
theorem pe_gref {f : Str} {a : Nat} {pos : Pos} (hg : GlobRef B f a) (hk : sc.names.lookup f = some .globalImplicit) (hd : (f == ("__debug__" : Str)) = false := by decide +kernel) : PE prog w B n sc ρ (.Name f pos) (.rf a) := fun A env E s X Q r o c v k => by
  obtain ⟨mg, h1, h2⟩ := hg
  exact name_global o c hk h1 h2 (k _ _ (Ks.refl s) (.rf a)) hd

structure EscTab (prog : Program) (w : World) (B : Heap) (d : Nat) : Prop where
  ns : (d == sysModules) = false
  at_ : ∃ f : Int → Option Value, (∀ h : Heap, (∀ b o, B.get? b = some o → h.get? b = some o) → h.MapOf (intKind prog w) d f) ∧ (∃ t, f 32 = some (.str "\\ " t)) ∧ (∃ t, f 92 = some (.str "\\\\" t)) ∧ ∀ c : Nat, c ∈ [97, 98, 101, 103, 114, 34] → f c = none
noncomputable def escS (c : Nat) : Str := if c = 32 then "\\ " else if c = 92 then "\\\\" else ⟨#[c]⟩

theorem sm_translate {d c : Nat} (h : EscTab prog w B d) (hc : c ∈ [32, 92, 97, 98, 101, 103, 114, 34]) : SM1 prog w B "translate" ⟨#[c]⟩ (.rf d) (.str (escS c)) := fun A E s X Q pos t T r hT => by
  obtain ⟨hns, f, hm, ⟨t1, h32⟩, ⟨t2, h92⟩, hno⟩ := h
  have hc128 : c < 128 := (by decide : ∀ c ∈ [32, 92, 97, 98, 101, 103, 114, 34], c < 128) c hc
  refine ⟨"str", _, F.plainAttrs_str, F.slot_str_translate, F.type_str_translate, typeIs_str _ _ _, (fun _ e => nomatch e), ?_⟩
  refine Calls.callWith_builtin rfl (Calls.evalArgs_plain (Calls.spliced_cons (wpAny_mono hT (fun v s1 h1 => Calls.spliced_nil ?_) fun _ _ e => e)))
  obtain ⟨cx, tv, q⟩ := h1
  cases tv using Tl.rfE
  refine wpAny_call_entry F.slot_str_translate (typeIs_str _ _ _) F.entry_str_translate ?_ (F.args_str_translate_2 _ _)
  by_cases h1 : c = 32
  · subst h1
    exact translate_text (by assumption) (hm _ cx.base) h32 (by decide +kernel) fun tk v => ⟨_, rfl, q _ _ (Ks.tok s1 tk) (.str _ _)⟩
  · by_cases h2 : c = 92
    · subst h2
      exact translate_text (by assumption) (hm _ cx.base) h92 (by decide +kernel) fun tk v => ⟨_, rfl, q _ _ (Ks.tok s1 tk) (.str _ _)⟩
    · have e : escS c = ⟨#[c]⟩ := by unfold escS; rw [if_neg h1, if_neg h2]
      rw [e] at q
      exact translate_keep hc128 r.hand hns (hm _ cx.base) (hno c ((by decide : ∀ c ∈ [32, 92, 97, 98, 101, 103, 114, 34], c ≠ 32 → c ≠ 92 → c ∈ [97, 98, 101, 103, 114, 34]) c hc h1 h2)) fun h' tk v kp sz => ⟨_, rfl, q _ _ (Ks.of kp sz) (.str _ _)⟩

theorem px_escape (b : Bn B) {d c : Nat} (hd : GlobRef B "_special_chars_map" d) (h : EscTab prog w B d) (hc : c ∈ [32, 92, 97, 98, 101, 103, 114, 34]) :
    PX prog w B n (fsc 7) (rho [("pattern", .str ⟨#[c]⟩)]) (fb 7) { nx := fun _ => False, rt := (· = .str (escS c)) } := by
  unfold fb stm
  change PX _ _ _ _ _ _ (_ :: _) _
  with_reducible refine px_if (b := true) (pt_plain (pe_b2 b.isinstance ?_ (a1 := .str ⟨#[c]⟩) ?_ (pe_bname b.str ?_) b2_isinst_str) to_bool) ?_
  · decide +kernel
  · with_reducible refine pe_name ?_
    exact rfl
  · decide +kernel
  change PX _ _ _ _ _ _ (_ :: _) _
  with_reducible refine px_return (d := .str (escS c)) (pe_m1 (x := ⟨#[c]⟩) (a := .rf d) (pe_name ?_) (pe_gref hd ?_) (sm_translate h hc)) rfl
  · exact rfl
  · decide +kernel
end
end Mine
end

section
open PySem PySem.W PySem.Calls PyProof.Rows
set_option Elab.async false
set_option maxRecDepth 100000
set_option maxHeartbeats 1000000
namespace Mine
section
variable {prog : Program} {w : World} {A : Around} {E : Value → Shared → Prop} {s : Shared}

theorem mdg_slot : Slot "method_descriptor" "__get__" "method_descriptor.__get__" :=
  .of (owner := "method_descriptor") (n := "__get__") (by rw [typeLookup_type, builtinLookup_eq_fast]; kernel_rfl) (by decide +kernel) (by decide +kernel) (by decide +kernel)
    (by first | exact .inl (by decide +kernel) | exact .inr (by decide +kernel)) (by rw [isSubtype_type]; kernel_rfl)
theorem mdg_entry : entryFor table "method_descriptor.__get__" = some Builtin.«method_descriptor.__get__» := entryFor_of_tree (by kernel_rfl)
theorem mdg_args (a b c : Value) : argsOk "method_descriptor.__get__" ⟨[a, b, c], []⟩ := by unfold argsOk; kernel_rfl

theorem get_append {a : Nat} {Q : Fin → Shared → Prop} (hT : s.TypeIs (.ref a) "list") (hQ : Q (.done (.ret (.ref s.heap.objs.size))) { s with heap := s.heap.push { cls := .type "builtin_function_or_method", data := .fields #[.builtin "list.append", .ref a] } }) :
    wpAny (model prog w) A (Builtin.«method_descriptor.__get__» ⟨[.builtin "list.append", .ref a, .type "list"], []⟩) Q E s := by
  unfold Builtin.«method_descriptor.__get__»
  repeat (any_goals (first | assumption | wp_step))
  refine wpAny_of_eq (a := true) (by first | rfl | (rw [isSubtype_type]; kernel_rfl) | kernel_rfl) ?_
  repeat (any_goals (first | assumption | wp_step))

theorem get_append_meets {a : Nat} : MeetsIn prog w (Builtin.«method_descriptor.__get__» ⟨[.builtin "list.append", .ref a, .type "list"], []⟩) (fun _ R s => s.TypeIs (.ref a) "list" ∧
    R (.ok (.ret (.ref s.heap.objs.size))) { s with heap := s.heap.push { cls := .type "builtin_function_or_method", data := .fields #[.builtin "list.append", .ref a] } }) :=
  .of_wp fun A R s ⟨hT, h⟩ => get_append hT ⟨_, rfl, h⟩

theorem ga_append {a : Nat} {xs : Array Value} {k : Nat} {u : Tok} {Q : Fin → Shared → Prop} (hx : s.heap.get? a = some { cls := .type "list", dict := none, data := .seq xs k, slots := #[] })
    (hQ : Q (.done (.ret (.ref s.heap.objs.size))) { s with heap := s.heap.push { cls := .type "builtin_function_or_method", data := .fields #[.builtin "list.append", .ref a] } }) :
    wpAny (model prog w) A (Builtin.«object.__getattribute__» ⟨[.ref a, .str "append" u], []⟩) Q E s := by
  obtain ⟨hp, g, d, tk, os⟩ := s
  have hT : (⟨hp, g, d, tk, os⟩ : Shared).TypeIs (.ref a) "list" := ⟨_, hx, rfl⟩
  unfold Builtin.«object.__getattribute__»
  have f1 := slot_list_append.lookup
  have f2 := F.type_list_append
  have f3 := mdg_slot.lookup
  have f4 : typeLookup (.type "method_descriptor") "__set__" = pure none := by rw [typeLookup_type, builtinLookup_eq_fast]; kernel_rfl
  have f5 : typeLookup (.type "method_descriptor") "__delete__" = pure none := by rw [typeLookup_type, builtinLookup_eq_fast]; kernel_rfl
  repeat (any_goals (first | assumption | wp_step))
  refine codeAny_call_builtin mdg_slot.plain mdg_entry (mdg_slot.check _ _ _ _ _ _ _ _ f2 (mdg_args _ _ _) (get_append_meets A (fun r s' => match r with | .ok (.ret v) => wpAny (model prog w) A (ret v) Q E s' | .ok _ => False | .error e => E e s') _ ⟨hT, ?_⟩))
  exact wpAny_pure hQ

end
end Mine
end

section
open PySem PySem.W PySem.Calls PyProof.Rows
set_option Elab.async false
set_option maxRecDepth 100000
set_option maxHeartbeats 1000000
namespace Mine
section
variable {prog : Program} {w : World} {A : Around} {E : Value → Shared → Prop} {s : Shared}

theorem ga_meets {a : Nat} {xs : Array Value} {k : Nat} {u : Tok} : MeetsIn prog w (Builtin.«object.__getattribute__» ⟨[.ref a, .str "append" u], []⟩) (fun _ R s => s.heap.get? a = some { cls := .type "list", dict := none, data := .seq xs k, slots := #[] } ∧
    R (.ok (.ret (.ref s.heap.objs.size))) { s with heap := s.heap.push { cls := .type "builtin_function_or_method", data := .fields #[.builtin "list.append", .ref a] } }) :=
  .of_wp fun A R s ⟨hx, h⟩ => ga_append hx ⟨_, rfl, h⟩

theorem getAttr_append {a : Nat} {xs : Array Value} {k : Nat} {Q : Value → Shared → Prop} (hx : s.heap.get? a = some { cls := .type "list", dict := none, data := .seq xs k, slots := #[] })
    (hQ : ∀ tk, Q (.ref s.heap.objs.size) { s with heap := s.heap.push { cls := .type "builtin_function_or_method", data := .fields #[.builtin "list.append", .ref a] }, toks := tk }) :
    wpAny (model prog w) A (getAttr (.ref a) "append" true) Q E s := by
  obtain ⟨hp, g, d, tk, os⟩ := s
  have hT : ∀ tk', (⟨hp, g, d, tk', os⟩ : Shared).TypeIs (.ref a) "list" := fun _ => ⟨_, hx, rfl⟩
  have f3 := F.slot_list_getattribute.lookup
  have f4 := F.slot_list_getattribute.bind (.ref a)
  have f5 := am_list_getattr_none
  unfold getAttr getAttrBy
  repeat (any_goals (first | assumption | exact hT _ | wp_step))
  let RR : Result → Shared → Prop := fun r s' =>
      match r with
      | Except.ok (Flow.ret v) =>
        wpAny (model prog w) A
          (match (Except.ok v : Except Value Value) with
          | Except.ok v => handedOut v
          | Except.error e => getattributeRaised (Value.ref a) (Value.str (Str.ofString "append") tk) (.type "list") e none true true)
          Q E s'
      | Except.ok a => False
      | Except.error e =>
        wpAny (model prog w) A
          (match (Except.error e : Except Value Value) with
          | Except.ok v => handedOut v
          | Except.error e => getattributeRaised (Value.ref a) (Value.str (Str.ofString "append") tk) (.type "list") e none true true)
          Q E s'
  refine codeAny_call_builtin F.slot_list_getattribute.plain am_entry_list_getattribute (F.slot_list_getattribute.check _ _ _ _ _ _ _ _ (hT _) (F.args_list_getattribute_2 _ _) (ga_meets A RR _ ⟨hx, ?_⟩))
  show wpAny _ _ (handedOut _) _ _ _
  exact wpAny_pure (hQ _)

end
end Mine
end

section
open PySem PySem.W PySem.Calls PyProof.Rows
set_option Elab.async false
set_option maxRecDepth 100000
set_option maxHeartbeats 1000000
namespace Mine
section
variable {prog : Program} {w : World} {A : Around} {E : Value → Shared → Prop} {s : Shared}

theorem check_bound {a : Nat} {v : Value} {xs : Array Value} {Q : Unit → Shared → Prop} (hl : s.heap.PlainList a xs) (h : Q () s) : wpAny (model prog w) A (checkBoundCall "list.append" ⟨[.ref a, v], []⟩) Q E s := by
  obtain ⟨n0, ho⟩ := id hl
  have hT : s.TypeIs (.ref a) "list" := hl.isList.typeIs
  unfold checkBoundCall
  have e1 : builtinKind "list.append" = some .method := by decide +kernel
  have e2 : Manifest.signature? "list.append" = some ⟨.oneArg, "list.append", "append", .self, [⟨"object", .posOnly, true⟩]⟩ := by
    rw [signature?_of (id := "list.append") (n := ['d', 'n', 'e', 'p', 'p', 'a']) (o := ['t', 's', 'i', 'l']) (by kernel_rfl) F.owner_list]; kernel_rfl
  have e3 : isSubtype (.type "list") (.type "module") = pure false := by rw [isSubtype_type]; kernel_rfl
  have e4 : Manifest.varargsMethods.contains "list.append" = false := by decide +kernel
  have e5 : isSubtype (.type "list") (.type "type") = pure false := by rw [isSubtype_type]; kernel_rfl
  rw [e2]
  simp only [e1]
  rw [if_neg (by decide)]
  refine wpAny_bind (wpAny_isInstance hT e3 ?_)
  simp only [e4, Bool.or_false, Bool.false_eq_true, if_false]
  refine wpAny_bind ?_
  unfold isType
  refine wpAny_bind (AutoSeq1.wpAny_loadPart' ho (wpAny_pure ?_))
  simp only [Bool.false_eq_true, if_false]
  refine wpAny_bind (wpAny_typeOf hT ?_)
  dsimp only
  exact wpAny_of_eq (a := ()) (by first | rfl | kernel_rfl) h

theorem call_bound {m a : Nat} {o : Obj} {v : Value} {xs : Array Value} {Q : Value → Shared → Prop} (ho : s.heap.get? m = some o) (hc : o.cls = .type "builtin_function_or_method") (hd : o.data = .fields #[.builtin "list.append", .ref a])
    (hl : s.heap.PlainList a xs) (hz : xs.size ≤ sizeLine) (h : ∀ h', h'.PlainList a (xs.push v) → Heap.SameBut a s.heap h' → Q .none { s with heap := h' }) : wpAny (model prog w) A (call (.ref m) [v]) Q E s := by
  obtain ⟨c, dc, dt, sl⟩ := o
  simp only at hc hd
  subst hc hd
  refine wpAny_call (codeAny_of_tree ?_)
  show wpAny _ _ (callAny (.ref m) _) _ _ _
  simp only [callAny]
  refine wpAny_bind (wpAny_load ho ?_)
  dsimp only
  rw [if_pos (by decide)]
  show wpAny _ _ (if (Value.type "builtin_function_or_method" != Value.type "method") = true then _ else _) _ _ _
  rw [if_pos (by decide)]
  refine wpAny_bind (check_bound hl ?_)
  refine wpAny_bind (wpAny_pure (wpAny_pure ⟨Code.quiet_builtin _ (by decide +kernel), codeAny_builtin entry_list_append ?_⟩))
  obtain ⟨n0, hl0⟩ := hl
  show wpAny _ _ (updateSeq a (·.push v) >>= fun _ => ret .none) _ _ s
  refine wpAny_bind (wpAny_updateSeq hl0 rfl (wpAny_pure (h _ ⟨n0 + 1, ?_⟩ (Heap.SameBut.update ..))) hz)
  rw [Heap.get?_update_self _ hl0 (by rw [Obj.mapSeq_push_plain]; rfl), Obj.mapSeq_push_plain]
end
end Mine
end

section
open PySem PySem.W PySem.Calls PyProof.Rows
set_option Elab.async false
set_option linter.unusedVariables false
set_option linter.unusedSectionVars false
set_option maxRecDepth 10000
namespace Mine
variable [Star]

section
variable {prog : Program} {w : World} {B : Heap} {n : Nat} {sc : Scope} {ρ : Rho}

theorem px_meth {x y : Str} {p p1 ap pos : Pos} {l : List D} {a : Nat} {rest : List Stmt} {R : Post} (hx : (x, a, l) ∈ ρ.own) (hy : sc.names.lookup y = some .local ∨ sc.names.lookup y = some .cell) (hd : (y == ("__debug__" : Str)) = false) (hc : (y == ("__classdict__" : Str)) = false)
    (h2 : PX prog w B n sc (ρ.set y (.meth a)) rest R) : PX prog w B n sc ρ (.Assign [.Name y p] (.Attribute (.Name x p1) "append" ap) pos :: rest) R := px_step (fun A env E s X Q rm o f k => by
  have hnm := (f.vs.own _ hx).2
  refine wpAny_Assign_Name (Attribute_name (pe_name (d := .rf a) hnm A env E s X _ rm o f.cx f.vs fun v s1 k1 t1 => ?_)) rfl
  cases t1 using Tl.rfE
  have f1 := k1.fs f
  obtain ⟨⟨q1, q2, us, q3, q4, q5⟩, q6⟩ := f1.vs.own _ hx
  obtain ⟨n0, e0⟩ := id q3
  refine getAttr_append e0 fun tk => ?_
  have k2 : Ks X s1 { s1 with heap := s1.heap.push { cls := .type "builtin_function_or_method", data := .fields #[.builtin "list.append", .ref a] }, toks := tk } := Ks.push s1 _ tk
  have tm : Tl (s1.heap.push { cls := .type "builtin_function_or_method", data := .fields #[.builtin "list.append", .ref a] }) X (.ref s1.heap.objs.size) (.meth a) := .meth ⟨_, Heap.get?_push_size _ rfl, rfl, rfl⟩ fun q => Nat.lt_irrefl _ (f1.cx.xlt _ q)
  exact store_name o (k2.fs f1) hy tm hd hc fun s2 f2 t2 => k _ (((k1.trans k2).tn).trans t2 fun b m => .inl m) (Rho.set_own s) f2) h2

theorem callWith_meth {A : Around} {E : Value → Shared → Prop} {s : Shared} {pos : Pos} {m : Nat} {T : Sem Value} {Q : Value → Shared → Prop}
    (h : wpAny (model prog w) A T (fun v s1 => (∃ o vs, s1.heap.get? m = some o ∧ o.cls = .type "builtin_function_or_method" ∧ o.data = .fields vs) ∧ wpAny (model prog w) A (call (.ref m) [v]) Q E s1) E s) : wpAny (model prog w) A (callWith pos (.ref m) [] [(false, T)] []) Q E s := by
  unfold callWith
  refine wpAny_bind (wpAny_holding (Calls.evalArgs_plain (Calls.spliced_cons (wpAny_mono h (fun v s1 h1 => Calls.spliced_nil ?_) fun _ _ x => x))))
  obtain ⟨⟨o, vs, h2, h3, h4⟩, h5⟩ := h1
  refine wpAny_bind (wpAny_standAt ?_)
  refine wpAny_bind ?_
  unfold keeperOf
  refine wpAny_bind (wpAny_load h2 ?_)
  rw [h4, h3]
  dsimp only
  rw [if_pos (by decide)]
  refine wpAny_pure ?_
  exact wpAny_bind (wpAny_mono h5 (fun r s2 hr => wpAny_bind (wpAny_holding (wpAny_point (wpAny_pure hr)))) fun _ _ x => x)

theorem px_add {x y : Str} {np cp pos : Pos} {e : Expr} {d : D} {l : List D} {a : Nat} {rest : List Stmt} {R : Post} (hy : ρ.nm y = some (.meth a)) (he : PE prog w B n sc ρ e d) (hx : (x, a, l) ∈ ρ.own) (hz : l.length < 100000)
    (h2 : PX prog w B n sc (ρ.put x (l ++ [d])) rest R) (hs : ∀ env, starEach [e] env = [(false, eval e env)] := by intro _; with_unfolding_all rfl)
    (hn : ∀ env : Env, Eo sc env → swapsWith (.Call (.Name y np) [e] [] cp) none pos.line env = pure false := by intro _ _; with_unfolding_all rfl) : PX prog w B n sc ρ (.Expr (.Call (.Name y np) [e] [] cp) pos :: rest) R := by
  refine px_step (fun A env E s X Q rm o f k => ?_) h2
  have hi : interactive env = false := by unfold interactive; rw [o.iss, o.kind]; rfl
  refine wpAny_Expr ?_ hi (hn env o)
  refine wpAny_Call_NameR (pe_name hy A env E s X _ rm o f.cx f.vs fun m s1 k1 t1 => ?_)
  have hs2 : backTo cp (starEach [e] env) = [(false, eval e env)] := by rw [hs env]; rfl
  rw [hs2]
  cases t1 using Tl.methE with
  | @meth m im nx =>
  have f1 := k1.fs f
  refine callWith_meth (he A env E s1 X _ rm o f1.cx f1.vs fun u s2 k2 t2 => ?_)
  have f2 := k2.fs f1
  obtain ⟨ob, i1, i2, i3⟩ := im
  have i1' := k2.kp m ob (fun z => nx (z ▸ f1.cx.tb)) i1
  refine ⟨⟨ob, _, i1', i2, i3⟩, ?_⟩
  obtain ⟨⟨q1, q2, ws, q3', q4', q5'⟩, q6⟩ := f2.vs.own _ hx
  have hlen' : ws.length = l.length := q5'.length
  refine call_bound i1' i2 i3 q3' (by rw [List.size_toArray, sizeLine_eq]; lia) fun h' hl hs' => ?_
  have hl' : h'.PlainList a (ws ++ [u]).toArray := by simpa using hl
  obtain ⟨f3, t3⟩ := Fs.put (t := s2.toks) f2 hx hs' hl' (by simp; lia) ((q5'.append (.cons t2 .nil)).same hs' q1)
  exact k _ ((k1.tn.trans k2.tn fun b m => .inl m).trans t3 fun b m => .inl m) (Rho.put_own s) f3
end
end Mine
end

section
open PySem PySem.W PySem.Calls PyProof.Rows
set_option Elab.async false
set_option linter.unusedVariables false
set_option linter.unusedSectionVars false
set_option maxRecDepth 10000
namespace Mine
variable [Star]

section
variable {prog : Program} {w : World} {B : Heap} {n : Nat} {sc : Scope} {ρ : Rho}

theorem px_tassign2 {x y : Str} {p1 p2 tp vp pos : Pos} {k k2 : Nat} {v1 v2 : Expr} {d1 d2 : D} {rest : List Stmt} {R : Post} (he : PE prog w B n sc ρ (.Tuple [v1, v2] k2 vp) (.tup [d1, d2]))
    (hx : sc.names.lookup x = some .local) (hy : sc.names.lookup y = some .local) (hw : ∀ env, Eo sc env → swappedStores [.Tuple [.Name x p1, .Name y p2] k tp] (.Tuple [v1, v2] k2 vp) env = pure (some [x, y]))
    (hxd : (x == ("__debug__" : Str)) = false) (hxc : (x == ("__classdict__" : Str)) = false) (hyd : (y == ("__debug__" : Str)) = false) (hyc : (y == ("__classdict__" : Str)) = false)
    (h2 : PX prog w B n sc ((ρ.set y d2).set x d1) rest R) : PX prog w B n sc ρ (.Assign [.Tuple [.Name x p1, .Name y p2] k tp] (.Tuple [v1, v2] k2 vp) pos :: rest) R := px_step (fun A env E s X Q rm o f kk => by
  refine Assign_Tuple_swapped (names := [x, y]) (he A env E s X _ rm o f.cx f.vs fun v s1 k1 t1 => ?_) rfl (hw env o)
  refine unpack_seq rm.hand (k1.cx f.cx) (.inr t1) rfl fun vs s2 kb ts => ?_
  cases ts using Tls.consE with
  | cons ta tb =>
  cases tb using Tls.consE with
  | cons tb tn =>
  cases tn using Tls.nilE
  rename_i u1 u2
  have f2 := kb.fs (k1.fs f)
  show wpAny _ _ (do holding [u1] (bindName env y u2); do holding [] (bindName env x u1); pure ()) _ _ _
  refine wpAny_bind (wpAny_holding (wpAny_bindName (store_name o f2 (.inl hy) tb hyd hyc fun s3 f3 t3 => ?_)))
  have ta3 : Tl s3.heap X u1 d1 := ta.move (fun b ob nb e => t3.kp b ob (fun m => nb (Mut.inX f2 m)) (fun z => nb (z ▸ f.cx.tb)) e) fun _ q => .inl q
  refine wpAny_bind (wpAny_holding (wpAny_bindName (store_name o f3 (.inl hx) ta3 hxd hxc fun s4 f4 t4 => wpAny_pure ?_)))
  exact kk s4 ((((k1.trans kb).tn).trans t3 fun b m => .inl m).trans t4 fun b m => (Mut.le (Rho.set_own (x := y) (d := d2) s) m)) ((Rho.set_own s).trans (Rho.set_own s) (Nat.le_refl _)) f4) h2

theorem px_assert {t : Expr} {pos : Pos} {rest : List Stmt} {R : Post} (ht : PT prog w B n sc ρ t true) (h2 : PX prog w B n sc ρ rest R) : PX prog w B n sc ρ (.Assert t none pos :: rest) R := px_step (fun A env E s X Q rm o f k => by
  refine wpAny_Assert_new rm.hand (ht A env E s X _ rm o f.cx f.vs fun s1 k1 => ?_)
  simp only [if_true]
  exact k s1 k1.tn (OwnIn.refl ρ s) (k1.fs f)) h2
end
example : ∀ env, Eo (fsc 9) env → swappedStores [.Tuple [.Name "i" ⟨0,0,0,0⟩, .Name "n" ⟨0,0,0,0⟩] 0 ⟨0,0,0,0⟩] (.Tuple [.Constant (.int 0) 0 ⟨0,0,0,0⟩, .Call (.Name "len" ⟨0,0,0,0⟩) [.Name "pat" ⟨0,0,0,0⟩] [] ⟨0,0,0,0⟩] 0 ⟨0,0,0,0⟩) env = pure (some [(("i" : Str)), (("n" : Str))]) := by
  intro env o
  obtain ⟨scope, a1, a2, a3, a4, a5, a6, a7⟩ := env
  have e : scope = fsc 9 := o.iss
  subst e
  with_unfolding_all rfl
end Mine
end

section
open PySem PySem.W PySem.Calls PyProof.Rows
set_option Elab.async false
set_option linter.unusedVariables false
set_option linter.unusedSectionVars false
set_option maxRecDepth 10000
namespace Mine
variable [Star]

noncomputable def notStarD : D → Bool
  | .star => false
  | _ => true
noncomputable def PartOk (d : D) : Prop := d = .star ∨ ∃ x, d = .str x
noncomputable def tstep (res : List D) (c : Nat) : List D :=
  if c = 42 then (if res.isEmpty || notStarD (res.getLastD .star) then res ++ [.star] else res)
  else if c = 63 then res ++ [.str "."] else res ++ [.str (escS c)]

theorem chr_beq (c d : Nat) : ((⟨#[c]⟩ : Str) == ⟨#[d]⟩) = decide (c = d) := by
  rw [Bool.eq_iff_iff, beq_iff_eq, decide_eq_true_eq, Str.mk.injEq]
  simp

structure TInv (a : Nat) (pat : Str) (i : Int) (res : List D) (ρ : Rho) : Prop where
  own : ρ.own = [(("res" : Str), a, res)]
  add : ρ.nm "add" = some (.meth a)
  pt : ρ.nm "pat" = some (.str pat)
  star : ρ.nm "STAR" = some .star
  qm : ρ.nm "QUESTION_MARK" = some (.str ".")
  i : ρ.nm "i" = some (.int i)
  n : ρ.nm "n" = some (.int pat.length)

section
variable {prog : Program} {w : World} {B : Heap} {n : Nat} {sc : Scope} {ρ : Rho}

theorem bo_isnot {d : D} (h : PartOk d) : BO prog w B (compareOp .IsNot) d .star (.bool (notStarD d)) := by
  rcases h with rfl | ⟨x, rfl⟩
  · exact bo_isnot_star
  · exact bo_isnot_str
theorem atD_lastD {res : List D} (h : res ≠ []) : atD res (-1) = some (res.getLastD .star) := by
  have hl : 0 < res.length := List.length_pos_iff.mpr h
  unfold atD
  rw [if_neg (by decide), if_pos (by lia)]
  rw [neg1, ← List.getLast?_eq_getElem?, List.getLast?_eq_some_getLast h, List.getLastD_eq_getLast?, List.getLast?_eq_some_getLast h]
  rfl

theorem TInv.set {a : Nat} {pat : Str} {i : Int} {res : List D} {ρ : Rho} (h : TInv a pat i res ρ) {x : Str} (d : D) (h1 : (("res" : Str) == x) = false) (h2 : (("add" : Str) == x) = false) (h3 : (("pat" : Str) == x) = false) (h4 : (("STAR" : Str) == x) = false) (h5 : (("QUESTION_MARK" : Str) == x) = false) (h6 : (("i" : Str) == x) = false) (h7 : (("n" : Str) == x) = false) : TInv a pat i res (ρ.set x d) where
  own := by
    show ρ.own.filter _ = _
    rw [h.own]
    simp [bne, h1]
  add := (Rho.set_ne h2).trans h.add
  pt := (Rho.set_ne h3).trans h.pt
  star := (Rho.set_ne h4).trans h.star
  qm := (Rho.set_ne h5).trans h.qm
  i := (Rho.set_ne h6).trans h.i
  n := (Rho.set_ne h7).trans h.n
theorem TInv.setI {a : Nat} {pat : Str} {i j : Int} {res : List D} {ρ : Rho} (h : TInv a pat i res ρ) : TInv a pat j res (ρ.set "i" (.int j)) where
  own := by show ρ.own.filter _ = _; rw [h.own]; rfl
  add := (Rho.set_ne (by decide +kernel)).trans h.add
  pt := (Rho.set_ne (by decide +kernel)).trans h.pt
  star := (Rho.set_ne (by decide +kernel)).trans h.star
  qm := (Rho.set_ne (by decide +kernel)).trans h.qm
  i := Rho.set_eq
  n := (Rho.set_ne (by decide +kernel)).trans h.n
theorem TInv.put {a : Nat} {pat : Str} {i : Int} {res res' : List D} {ρ : Rho} (h : TInv a pat i res ρ) : TInv a pat i res' (ρ.put "res" res') where
  own := by show ρ.own.map _ = _; rw [h.own]; rfl
  add := h.add
  pt := h.pt
  star := h.star
  qm := h.qm
  i := h.i
  n := h.n

theorem px_tbody {ae : Nat} (he : GlobFn B "escape" ae) (fe : ∀ c ∈ [32, 92, 97, 98, 101, 103, 114, 34], FA prog w B n ae [.str ⟨#[c]⟩] (.str (escS c))) {a : Nat} {pat : Str} {i : Int} {res : List D} {ρ : Rho} {c : Nat} (h : TInv a pat i res ρ) (hp : pat.length ≤ 1000) (hr : res.length ≤ 1000) (ok : ∀ d ∈ res, PartOk d)
    (hc : atD pat.cps.toList i = some c) (hcc : c = 42 ∨ c = 63 ∨ c ∈ [32, 92, 97, 98, 101, 103, 114, 34]) :
    PX prog w B n (fsc 9) ρ (forB (fb 9)[3]?) { nx := TInv a pat (i + 1) (tstep res c) } := by
  unfold fb stm
  change PX _ _ _ _ _ _ (_ :: _) _
  with_reducible refine px_assign (d := .str ⟨#[c]⟩) (pe_item_str (pe_name h.pt) (pe_name h.i) hc ?_) ?_ ?_ ?_ ?_ ?_
  · lia
  · exact .inl (by decide +kernel)
  · exact fun _ _ => rfl
  · decide +kernel
  · decide +kernel
  have h1 := h.set (x := "c") (.str ⟨#[c]⟩) (by decide +kernel) (by decide +kernel) (by decide +kernel) (by decide +kernel) (by decide +kernel) (by decide +kernel) (by decide +kernel)
  change PX _ _ _ _ _ _ (_ :: _) _
  with_reducible refine px_assign (d := .int (i + 1)) (pe_binop (pe_name h1.i) pe_int bo_add_int) ?_ ?_ ?_ ?_ ?_
  · exact .inl (by decide +kernel)
  · exact fun _ _ => rfl
  · decide +kernel
  · decide +kernel
  have h2 := h1.setI (j := i + 1)
  have hcn : ((ρ.set "c" (.str ⟨#[c]⟩)).set "i" (.int (i + 1))).nm "c" = some (.str ⟨#[c]⟩) := (Rho.set_ne (by decide +kernel)).trans Rho.set_eq
  generalize (ρ.set "c" (.str ⟨#[c]⟩)).set "i" (.int (i + 1)) = ρ2 at h2 hcn ⊢
  have hmem : (("res" : Str), a, res) ∈ ρ2.own := by rw [h2.own]; exact .head _
  have hsee : ρ2.see.nm "res" = some (.list res) := see_own (p := (("res" : Str), a, res)) (by rw [h2.own]; rfl)
  have hstar : ρ2.see.nm "STAR" = some .star := (see_nm (by rw [h2.own, List.find?_cons]; rfl)).trans h2.star
  have q1 : ((⟨#[c]⟩ : Str) == "*") = decide (c = 42) := by
    have e : ("*" : Str) = ⟨#[42]⟩ := by decide +kernel
    rw [e]; exact chr_beq _ _
  have q2 : ((⟨#[c]⟩ : Str) == "?") = decide (c = 63) := by
    have e : ("?" : Str) = ⟨#[63]⟩ := by decide +kernel
    rw [e]; exact chr_beq _ _
  have q3 : ((⟨#[c]⟩ : Str) == "[") = decide (c = 91) := by
    have e : ("[" : Str) = ⟨#[91]⟩ := by decide +kernel
    rw [e]; exact chr_beq _ _
  change PX _ _ _ _ _ _ (_ :: _) _
  with_reducible refine px_if (b := decide (c = 42)) (PT.to (pt_cmp (a := .str ⟨#[c]⟩) (b := .str "*") (pe_name hcn) pe_str bo_eq_str) q1) ?_
  by_cases c1 : c = 42
  · subst c1
    change PX _ _ _ _ _ _ (_ :: _) _
    have e3 : ((!(!res.isEmpty)) || (notStarD (res.getLastD .star) || false)) = (res.isEmpty || notStarD (res.getLastD .star)) := by simp
    with_reducible refine px_if (b := res.isEmpty || notStarD (res.getLastD .star)) (PT.to (pt_see (pt_or (pt_not (pt_plain (pe_name hsee) to_list)) fun hne => pt_or (pt_cmp (pe_item_list (i := -1) (d := res.getLastD .star) (pe_name hsee) (pe_neg pe_int) ?_) (pe_name hstar) (bo_isnot ?_)) fun _ => pt_or_nil)) e3) ?_
    · refine atD_lastD fun e => ?_
      rw [e] at hne; cases hne
    · cases hres : res with
      | nil => exact .inl rfl
      | cons x r =>
        rw [List.getLastD_eq_getLast?, List.getLast?_eq_some_getLast (by simp)]
        exact ok _ (by rw [hres]; exact List.getLast_mem _)
    have et : tstep res 42 = if res.isEmpty || notStarD (res.getLastD .star) then res ++ [.star] else res := by unfold tstep; rw [if_pos rfl]
    rw [et]
    cases (res.isEmpty || notStarD (res.getLastD .star)) with
    | true =>
      change PX _ _ _ _ _ _ (_ :: _) _
      with_reducible refine px_add (d := .star) h2.add (pe_name h2.star) hmem ?_ ?_
      · lia
      · conv => arg 7; whnf
        exact px_nil h2.put
    | false =>
      conv => arg 7; whnf
      exact px_nil h2
  · rw [decide_eq_false c1]
    change PX _ _ _ _ _ _ (_ :: _) _
    with_reducible refine px_if (b := decide (c = 63)) (PT.to (pt_cmp (a := .str ⟨#[c]⟩) (b := .str "?") (pe_name hcn) pe_str bo_eq_str) q2) ?_
    by_cases c2 : c = 63
    · subst c2
      have et : tstep res 63 = res ++ [.str "."] := by unfold tstep; rw [if_neg (by decide), if_pos rfl]
      rw [et]
      change PX _ _ _ _ _ _ (_ :: _) _
      with_reducible refine px_add (d := .str ".") h2.add (pe_name h2.qm) hmem ?_ ?_
      · lia
      · conv => arg 7; whnf
        exact px_nil h2.put
    · rw [decide_eq_false c2]
      have hce : c ∈ [32, 92, 97, 98, 101, 103, 114, 34] := by
        rcases hcc with h | h | h
        · exact (c1 h).elim
        · exact (c2 h).elim
        · exact h
      have c3 : c ≠ 91 := by simp at hce; lia
      have et : tstep res c = res ++ [.str (escS c)] := by unfold tstep; rw [if_neg c1, if_neg c2]
      rw [et]
      change PX _ _ _ _ _ _ (_ :: _) _
      with_reducible refine px_if (b := false) (PT.to (pt_cmp (a := .str ⟨#[c]⟩) (b := .str "[") (pe_name hcn) pe_str bo_eq_str) (q3.trans (decide_eq_false c3))) ?_
      change PX _ _ _ _ _ _ (_ :: _) _
      with_reducible refine px_add (d := .str (escS c)) h2.add (pe_call he ?_ (pes_cons (pe_name hcn) pes_nil) (fe c hce)) hmem ?_ ?_
      · decide +kernel
      · lia
      · conv => arg 7; whnf
        exact px_nil h2.put
end
end Mine
end

section
open PySem PySem.W PySem.Calls PyProof.Rows
open PySem.Builtin.Re
set_option Elab.async false
set_option maxRecDepth 100000
namespace Mine
section
variable {prog : Program} {w : World} {A : Around} {E : Value → Shared → Prop} {s : Shared}

noncomputable def turnN : Nat → Sre.M → Sre.M
  | 0, m => m
  | k + 1, m => turnN k (m.runFor reTurnSteps)
noncomputable def failsIn : Nat → Sre.M → Bool
  | 0, _ => false
  | k + 1, m => match (m.runFor reTurnSteps).outcome with
    | some .failed => true
    | some _ => false
    | none => failsIn k (m.runFor reTurnSteps)

theorem drive_fails : ∀ (k N : Nat) (m : Sre.M) (s : Shared) (Q : Sre.M → Shared → Prop), k ≤ N → failsIn k m = true → (∀ m', m'.outcome = some .failed → Q m' s) → wpAny (model prog w) A (reDrive N m) Q E s
  | 0, _, m, s, Q, _, h, _ => by cases h
  | k + 1, 0, m, s, Q, hk, _, _ => by lia
  | k + 1, N + 1, m, s, Q, hk, h, hQ => by
    show wpAny _ _ (if (m.runFor reTurnSteps).outcome.isSome = true then pure (m.runFor reTurnSteps) else do rule "sre.turn"; reDrive N (m.runFor reTurnSteps)) _ _ _
    unfold failsIn at h
    cases ho : (m.runFor reTurnSteps).outcome with
    | none =>
      rw [ho] at h
      simp only [Option.isSome_none, Bool.false_eq_true, if_false]
      exact wpAny_bind (wpAny_rule (drive_fails k N _ s Q (by lia) h hQ))
    | some o =>
      rw [ho] at h
      simp only [Option.isSome_some, if_true]
      cases o with
      | failed => exact wpAny_pure (hQ _ ho)
      | matched => cases h
      | stuck w => cases h

theorem rules_in (c : Nat → Bool) (nm : Nat → String) : ∀ (l : List Nat) (Q : PUnit → Shared → Prop), Q ⟨⟩ s → wpAny (model prog w) A (forIn l PUnit.unit fun i _ => if c i = true then do rule (nm i); pure (ForInStep.yield PUnit.unit) else pure (ForInStep.yield PUnit.unit)) Q E s
  | [], Q, h => by rw [List.forIn_nil]; exact wpAny_pure h
  | i :: r, Q, h => by
    rw [List.forIn_cons]
    refine wpAny_bind ?_
    split
    · exact wpAny_bind (wpAny_rule (wpAny_pure (rules_in c nm r Q h)))
    · exact wpAny_pure (rules_in c nm r Q h)

theorem run_fails {k : Nat} {m : Sre.M} {Q : Option Sre.M → Shared → Prop} (hk : k ≤ 2 ^ 64) (h : failsIn k m = true) (hQ : Q none s) : wpAny (model prog w) A (reRunToEnd m) Q E s := by
  unfold reRunToEnd
  refine wpAny_bind (drive_fails k _ m s _ hk h fun m' hm => ?_)
  refine wpAny_bind ?_
  refine wpAny_mono (rules_in (fun i => m'.seen.has i) (fun i => Sre.names.getD i "") _ (fun _ s' => s' = s) rfl) (fun _ s' e => ?_) fun _ _ e => e
  subst e
  rw [hm]
  exact wpAny_pure hQ

noncomputable def subCode : Array Nat := #[14, 14, 4, 1, 1, 9, 0, 64, 0, 1342177280, 0, 0, 0, 0, 0, 17, 0, 13, 11, 9, 0, 64, 0, 1342177280, 0, 0, 0, 0, 0, 17, 1, 1]
example : failsIn 40 (Sre.forSearch subCode #[35] 1 0 1 false) = true := by decide +kernel
example : failsIn 40 (Sre.forSearch subCode #[33, 97] 1 0 2 false) = true := by decide +kernel
example : failsIn 40 (Sre.forSearch subCode #[97, 45, 99] 1 0 3 false) = true := by decide +kernel
end
end Mine
end

section
open PySem PySem.W PySem.Calls PyProof.Rows
open PySem.Builtin.Re
set_option Elab.async false
set_option maxRecDepth 100000
set_option maxHeartbeats 1000000
namespace Mine

theorem rsub_slot : Slot "re.Pattern" "sub" "re.Pattern.sub" :=
  .of (owner := "re.Pattern") (n := "sub") (by rw [typeLookup_type, builtinLookup_eq_fast]; kernel_rfl) (by decide +kernel) (by decide +kernel) (by decide +kernel)
    (by first | exact .inl (by decide +kernel) | exact .inr (by decide +kernel)) (by rw [isSubtype_type]; kernel_rfl)
theorem rsub_type : typeOf (.builtin "re.Pattern.sub") = pure (.type "method_descriptor") := by show builtinType _ = _; rw [builtinType_eq_fast]; kernel_rfl
theorem rsub_entry : entryFor table "re.Pattern.sub" = some Builtin.«re.Pattern.sub» := entryFor_of_tree (by kernel_rfl)
theorem rloop_entry : entryFor table "re.Pattern.sub.loop" = some Builtin.«re.Pattern.sub.loop» := entryFor_of_tree (by kernel_rfl)
theorem rsub_args (a b c : Value) : argsOk "re.Pattern.sub" ⟨[a, b, c], []⟩ := by unfold argsOk; kernel_rfl
theorem rsub_plain : PlainAttrs "re.Pattern" :=
  ⟨by first
    | exact ⟨"object.__getattribute__", by rw [typeLookup_type, builtinLookup_eq_fast]; kernel_rfl, by decide +kernel⟩
    | exact ⟨"re.Pattern.__getattribute__", by rw [typeLookup_type, builtinLookup_eq_fast]; kernel_rfl, by decide +kernel⟩, by rw [typeLookup_type, builtinLookup_eq_fast]; kernel_rfl⟩

noncomputable def subTup : Array Value := subCode.map fun (k : Nat) => .int k 0
structure PatAt (h : Heap) (P C : Nat) : Prop where
  pat : ∃ t1 t2, h.get? P = some { cls := .type "re.Pattern", dict := none, data := .fields #[.str "([&~|])" t1, .int 32 t2, .int 1 0, .none, .none, .ref C, .int 0 0], slots := #[] }
  code : h.get? C = some { cls := .type "tuple", dict := none, data := .seq subTup 0, slots := #[] }

section
variable {prog : Program} {w : World} {A : Around} {E : Value → Shared → Prop} {s : Shared}

theorem target_ {P C : Nat} {x : Str} {t : Tok} {Q : ReTarget → Shared → Prop} (hp : PatAt s.heap P C) (hQ : Q { pattern := .ref P, string := .str x t, code := subCode, text := x.cps, kind := 0, groups := 1, pos := 0, lim := x.cps.size } s) :
    wpAny (model prog w) A (reWholeTarget (.ref P) (.str x t)) Q E s := by
  obtain ⟨⟨t1, t2, e1⟩, e2⟩ := hp
  obtain ⟨hp', g, d, tk, os⟩ := s
  unfold reWholeTarget
  repeat (any_goals (first | assumption | wp_step))
  have e : Array.map (fun x : Int => x.toNat) (Array.map reRawOf ((some subTup).getD #[])) = subCode := by decide +kernel
  rw [e]
  exact hQ

theorem sub_loop {P C fn L : Nat} {x : Str} {t : Tok} {Q : Fin → Shared → Prop} (hp : PatAt s.heap P C) (hl : s.heap.PlainList L #[]) (hx0 : 0 < x.cps.size) (hxl : x.cps.size ≤ 1000) (hf : failsIn 40 (Sre.forSearch subCode x.cps 1 0 x.cps.size false) = true)
    (hQ : ∀ h' tk v, (∀ b o, b ≠ L → s.heap.get? b = some o → h'.get? b = some o) → s.heap.objs.size ≤ h'.objs.size → Q (.done (.ret (.str x v))) { s with heap := h', toks := tk }) :
    wpAny (model prog w) A (Builtin.«re.Pattern.sub.loop» ⟨[.ref P, .str x t, .ref fn, rawInt 1, rawInt 0, rawInt 0, rawInt 0, rawInt 0, .bool false, .ref L, .bool false], []⟩) Q E s := by
  unfold Builtin.«re.Pattern.sub.loop»
  show wpAny _ _ (reWholeTarget (.ref P) (.str x t) >>= _) _ _ _
  refine wpAny_bind (target_ hp ?_)
  rw [if_neg (by decide)]
  refine wpAny_bind ?_
  rw [if_neg (by decide)]
  refine run_fails (k := 40) (by decide) hf ?_
  dsimp only
  rw [if_pos (show (0 : Int).toNat < x.cps.size from hx0)]
  have ex : (⟨x.cps.extract 0 x.cps.size⟩ : Str) = x := by obtain ⟨a⟩ := x; simp
  have ey : (⟨x.cps.extract 0 0⟩ : Str) = ⟨#[]⟩ := by obtain ⟨a⟩ := x; simp
  obtain ⟨n0, hl0⟩ := id hl
  refine wpAny_bind ?_
  show wpAny _ _ (mkStr ⟨x.cps.extract 0 x.cps.size⟩) _ _ _
  rw [ex]
  refine wpAny_mkStr ?_ (by show x.cps.size ≤ sizeLine; rw [sizeLine_eq]; lia)
  have hl1 : ({ s with toks := s.toks + 1 } : Shared).heap.get? L = some _ := hl0
  refine wpAny_bind (wpAny_updateSeq (s := { s with toks := s.toks + 1 }) hl0 rfl ?_)
  have h1 : (s.heap.update L (Obj.mapSeq (·.push (.str x s.toks)))).get? L = some { cls := .type "list", dict := none, data := .seq #[.str x s.toks] (n0 + 1), slots := #[] } := by
    rw [Heap.get?_update_self _ hl0 (by rw [Obj.mapSeq_push_plain]; rfl), Obj.mapSeq_push_plain]; rfl
  have hsb : Heap.SameBut L s.heap (s.heap.update L (Obj.mapSeq (·.push (.str x s.toks)))) := Heap.SameBut.update ..
  refine wpAny_bind ?_
  show wpAny _ _ (mkStr ⟨x.cps.extract 0 0⟩) _ _ _
  rw [ey]
  refine wpAny_mkStr ?_ (by show 0 ≤ sizeLine; (exact Nat.zero_le _))
  refine wpAny_bind (wpAny_seqItems h1 rfl ?_)
  rw [if_neg (by simp)]
  refine wpAny_bind ?_
  show wpAny _ _ (call (.builtin "str.join") [.str ⟨#[]⟩ _, .ref L]) _ _ _
  refine call_meets F.slot_str_join (typeIs_str _ _ _) F.entry_str_join (F.args_str_join_2 _ _) (meets_str_join_list ⟨#[]⟩ _ L [(x, s.toks)] ?_) ⟨⟨_, h1, rfl, _, rfl⟩, ?_⟩
  · have : x.length ≤ 1000 := hxl
    simp [Builtin.Str.tooLong, sizeLine_eq]
    show x.length + 0 ≤ _
    lia
  · show wpAny _ _ (if false = true then _ else ret (.str x s.toks)) _ _ _
    rw [if_neg (by decide)]
    exact wpAny_pure (hQ _ _ _ (fun b o ne e => hsb.extBut b o ne e) (Nat.le_of_eq hsb.1.symm))
end
end Mine
end

section
open PySem PySem.W PySem.Calls PyProof.Rows
open PySem.Builtin.Re
set_option Elab.async false
set_option maxRecDepth 100000
set_option maxHeartbeats 1000000
namespace Mine
section
variable {prog : Program} {w : World} {A : Around} {E : Value → Shared → Prop} {s : Shared}

theorem call_sub_ {P C fn : Nat} {o : Obj} {x : Str} {t : Tok} {Q : Value → Shared → Prop} (hp : PatAt s.heap P C) (hfo : s.heap.get? fn = some o) (hfc : o.cls = .type "function") (hx0 : 0 < x.cps.size) (hxl : x.cps.size ≤ 1000) (hf : failsIn 40 (Sre.forSearch subCode x.cps 1 0 x.cps.size false) = true)
    (hQ : ∀ h' tk v, (∀ b o, s.heap.get? b = some o → h'.get? b = some o) → s.heap.objs.size ≤ h'.objs.size → Q (.str x v) { s with heap := h', toks := tk }) :
    wpAny (model prog w) A (call (.builtin "re.Pattern.sub") [.ref P, .ref fn, .str x t]) Q E s := by
  have hT : s.TypeIs (.ref P) "re.Pattern" := let ⟨⟨_, _, e⟩, _⟩ := hp; ⟨_, e, rfl⟩
  have hTf : s.TypeIs (.ref fn) "function" := ⟨o, hfo, hfc⟩
  refine wpAny_call (codeAny_call_builtin rsub_slot.plain rsub_entry (rsub_slot.check _ _ _ _ _ _ _ _ hT (rsub_args _ _ _) ?_))
  unfold Builtin.«re.Pattern.sub» reSubstitute
  have f1 : typeLookup (.type "function") "__call__" = pure (some (.builtin "function.__call__")) := by rw [typeLookup_type, builtinLookup_eq_fast]; kernel_rfl
  have f2 : isSubtype (.type "str") (.type "bytearray") = pure false := by rw [isSubtype_type]; kernel_rfl
  dsimp only
  refine wpAny_bind (wpAny_of_eq (a := [some (.ref fn), some (.str x t), none]) (by first | rfl | kernel_rfl) ?_)
  dsimp only
  refine wpAny_bind (wpAny_pure ?_)
  refine wpAny_bind (wpAny_specialOf hTf f1 ?_)
  simp only [Option.isSome_some, if_true]
  refine wpAny_bind (wpAny_pure (wpAny_bind (wpAny_pure (wpAny_bind (wpAny_holding (target_ hp ?_))))))
  dsimp only
  rw [if_pos (by decide)]
  refine wpAny_bind ?_
  unfold reNotHeld
  refine wpAny_bind (wpAny_isInstance (typeIs_str _ _ _) f2 ?_)
  simp only [Bool.false_eq_true, if_false]
  refine wpAny_pure ?_
  refine wpAny_bind ?_
  show wpAny _ _ (newList []) _ _ _
  refine wpAny_newObj_type ?_ (by size_fits)
  refine wpAny_pure ⟨Code.quiet_builtin _ (by decide +kernel), codeAny_builtin rloop_entry ?_⟩
  obtain ⟨⟨t1, t2, e1⟩, e2⟩ := hp
  refine sub_loop (L := s.heap.objs.size) ⟨⟨t1, t2, Heap.get?_push_of_some _ e1⟩, Heap.get?_push_of_some _ e2⟩ ⟨0, Heap.get?_push_size _ rfl⟩ hx0 hxl hf fun h' tk v kp sz => ?_
  refine hQ h' tk v (fun b o e => kp b o (fun q => ?_) (Heap.get?_push_of_some _ e)) ?_
  · have := Heap.lt_size e
    rw [q] at this
    exact Nat.lt_irrefl _ this
  · have h2 := Heap.size_push s.heap { cls := .type "list", data := .seq ([] : List Value).toArray }
    have h3 : (s.heap.push { cls := .type "list", data := .seq ([] : List Value).toArray }).objs.size ≤ h'.objs.size := sz
    rw [h2] at h3
    exact Nat.le_of_succ_le h3
end
end Mine
end

section
open PySem PySem.W PySem.Calls PyProof.Rows
set_option Elab.async false
set_option linter.unusedVariables false
set_option linter.unusedSectionVars false
set_option maxRecDepth 10000
namespace Mine
variable [Star]

theorem among_snoc {pos q : Pos} {c cv : Value} : ∀ (l : List Value), TriplesOk l → codeAmong pos (l ++ [rawInt q.line, rawInt q.col, c]) = some cv → codeAmong pos l = some cv ∨ cv = c
  | [], _, h => by
    simp only [List.nil_append, rawInt] at h
    unfold codeAmong at h
    split at h
    · exact .inr (Option.some.inj h).symm
    · simp [codeAmong] at h
  | .int a t :: .int b u :: d :: rest, ht, h => by
    simp only [List.cons_append] at h
    unfold codeAmong at h ⊢
    split at h
    · rename_i hc; rw [if_pos hc]; exact .inl h
    · rename_i hc; rw [if_neg hc]; exact among_snoc rest ht h

structure LamG (B : Heap) : Prop where
  hd : CodeHd B tc tb
  ba : ∃ mg, B.Ns mainGlobals mg ∧ B.BuiltinsAt mg tb

section
variable {prog : Program} {w : World} {B : Heap} {n : Nat} {sc : Scope} {ρ : Rho}

theorem CodeHd.up {h h' : Heap} {c P : Nat} (x : CodeHd h c P) (k : ∀ b o, h.get? b = some o → h'.get? b = some o) : CodeHd h' c P := by
  obtain ⟨o, vs, file, tf, flags, tg, inF, text, tt, h1, r⟩ := x
  exact ⟨o, vs, file, tf, flags, tg, inF, text, tt, k _ _ h1, r⟩
theorem BuiltinsAt.up {h h' : Heap} {mg : Str → Option Value} {P : Nat} (x : h.BuiltinsAt mg P) (k : ∀ b o, h.get? b = some o → h'.get? b = some o) : h'.BuiltinsAt mg P := by
  obtain ⟨bm, o, h1, h2, h3, h4, h5, r⟩ := x
  exact ⟨bm, o, h1, h2, h3, h4, k _ _ h5, r⟩

theorem lam_ {A : Around} {env : Env} {E : Value → Shared → Prop} {s : Shared} {X : Nat → Prop} {Q : Value → Shared → Prop} {params : Arguments} {body : Expr} {scope : Scope} {pos : Pos} (o : Eo sc env) (hq : sc.names.lookup ("QUESTION_MARK" : Str) = some .local) (g : LamG B) (c : Cx B X s) (hdef : defaultsOf params env = ([], []))
    (hfree : ∀ x, (x, NameKind.free) ∉ scope.names)
    (k : ∀ a s' ob, Ks X s s' → s'.heap.get? a = some ob → ob.cls = .type "function" → Q (.ref a) s') : wpAny (model prog w) A (eval (.Lambda params body scope pos) env) Q E s := by
  obtain ⟨hcode, hcells⟩ := o.code hq
  obtain ⟨mg, hmg, hba⟩ := g.ba
  refine kla_eval hdef ?_
  obtain ⟨ps, hP, ht, hent⟩ := c.ti
  have hcl : closureFor scope env = pure (clOf env scope.names []) := closure_eq fun y hy => (hfree y hy).elim
  have C := CodeHd.up g.hd c.base
  have ba := BuiltinsAt.up hba c.base
  have hmg' : s.heap.Ns mainGlobals mg := hmg.keeps c.base
  cases hf : codeAmong pos ps.toList with
  | some cv =>
    refine kla_makeFunctionHit hcl o.glob hmg' hcode C hP ht hf ba fun ctv h' tk kp sz => ?_
    have k1 : Ks X s { s with heap := h'.push { cls := .type "function", data := .func (kla_fn "<lambda>" (env.qual ++ "<lambda>") params body scope (clOf env scope.names []) ((mg "__name__").getD .none) cv ctv) }, toks := tk } :=
      Ks.of (fun b ob e => Heap.get?_push_of_some _ (kp b ob e)) (by rw [Heap.size_push]; exact Nat.le_succ_of_le sz)
    exact k _ _ _ k1 (Heap.get?_push_size _ rfl) rfl
  | none =>
    refine kla_makeFunction hcl o.glob hmg' hcode C hP ht hf (by decide) ba fun c' ctv h' tk hx hge hlt hrec htab => ?_
    have htbs : tb < s.heap.objs.size := c.xlt _ c.tb
    have hsz : s.heap.objs.size ≤ h'.objs.size := Nat.le_trans hge (Nat.le_of_lt hlt)
    have k1 : Ks X s { s with heap := h'.push (kla_obj "<lambda>" (env.qual ++ "<lambda>") params body scope (clOf env scope.names []) ((mg "__name__").getD .none) c' ctv), toks := tk } := by
      refine ⟨rfl, rfl, fun b ob ne e => Heap.get?_push_of_some _ (hx b ob ne e), by rw [Heap.size_push]; exact Nat.le_succ_of_le hsz, fun _ => ?_, id⟩
      refine ⟨ps ++ #[rawInt pos.line, rawInt pos.col, .ref c'], Heap.get?_push_of_some _ htab, by rw [Array.toList_append]; exact TriplesOk_snoc _ _ _ _ ht, fun pos' cv e => ?_⟩
      rw [Array.toList_append] at e
      rcases among_snoc _ ht e with e | rfl
      · obtain ⟨c2, ob, vs, q, t, e1, nx, ne, e2, r⟩ := hent pos' cv e
        exact ⟨c2, ob, vs, q, t, e1, nx, ne, Heap.get?_push_of_some _ (hx _ _ ne e2), r⟩
      · obtain ⟨c2, ob, vs, t, e1, e2, e3, e4⟩ := hrec
        cases e1
        exact ⟨c', ob, vs, _, t, rfl, fun q => by have h1 := c.xlt _ q; exact Nat.lt_irrefl _ (Nat.lt_of_lt_of_le h1 hge), fun q => by rw [q] at hge; exact Nat.lt_irrefl _ (Nat.lt_of_lt_of_le htbs hge), Heap.get?_push_of_some _ e2, e3, e4⟩
    exact k _ _ _ k1 (Heap.get?_push_size _ rfl) rfl
end
end Mine
end

section
open PySem PySem.W PySem.Calls PyProof.Rows
set_option Elab.async false
set_option linter.unusedVariables false
set_option linter.unusedSectionVars false
set_option maxRecDepth 10000
namespace Mine
variable [Star]

section
variable {prog : Program} {w : World} {B : Heap} {n : Nat} {sc : Scope} {ρ : Rho}

theorem pe_sub {P C : Nat} {f : Str} {np ap sp lp cp : Pos} {params : Arguments} {body : Expr} {scope : Scope} {e : Expr} {x : Str} (hg : GlobRef B f P) (hk : sc.names.lookup f = some .globalImplicit) (hp : PatAt B P C) (g : LamG B) (hq : sc.names.lookup ("QUESTION_MARK" : Str) = some .local)
    (hdef : ∀ env, defaultsOf params env = ([], [])) (hfree : ∀ x, (x, NameKind.free) ∉ scope.names) (he : PE prog w B n sc ρ e (.str x)) (hx0 : 0 < x.cps.size) (hxl : x.cps.size ≤ 1000) (hf : failsIn 40 (Sre.forSearch subCode x.cps 1 0 x.cps.size false) = true)
    (hs : ∀ env, starEach [.Lambda params body scope lp, e] env = [(false, eval (.Lambda params body scope lp) env), (false, eval e env)] := by intro _; with_unfolding_all rfl) (hline : (ap.endLine == cp.line) = true := by with_unfolding_all rfl) (hb : ∀ env, attributeBase (.Name f np) "sub" env (eval (.Name f np) env) = eval (.Name f np) env := by intro _; with_unfolding_all rfl)
    (hd : (f == ("__debug__" : Str)) = false := by decide +kernel) :
    PE prog w B n sc ρ (.Call (.Attribute (.Name f np) "sub" ap) [.Lambda params body scope lp, e] [] cp) (.str x) := fun A env E s X Q r o c v k => by
  refine Call_method2 (hb env) (hs env) hline (pe_gref hg hk hd A env E s X _ r o c v fun u s1 k1 t1 => ?_)
  cases t1 using Tl.rfE
  have c1 := k1.cx c
  obtain ⟨⟨t1, t2, e1⟩, e2⟩ := hp
  have p1 := c1.base _ _ e1
  refine ⟨"re.Pattern", _, rsub_plain, rsub_slot, rsub_type, ⟨_, p1, rfl⟩, fun b eb => (by cases eb; exact ⟨_, p1, rfl⟩), ?_⟩
  refine Calls.callWith_builtin rfl (Calls.evalArgs_plain (Calls.spliced_cons (lam_ o hq g c1 (hdef env) hfree fun fa s2 ob k2 hfo hfc => Calls.spliced_cons (he A env E s2 X _ r o (k2.cx c1) (k2.vs c1 (k1.vs c v)) fun u3 s3 k3 t3 => Calls.spliced_nil ?_))))
  cases t3 using Tl.strE
  have c3 := k3.cx (k2.cx c1)
  have hfa : fa ≠ tb := fun q => by
    rw [q] at hfo
    obtain ⟨ps, h1, _⟩ := (k2.cx c1).ti
    rw [h1] at hfo
    cases hfo
    cases hfc
  refine call_sub_ ⟨⟨t1, t2, c3.base _ _ e1⟩, c3.base _ _ e2⟩ (k3.kp fa ob hfa hfo) hfc hx0 hxl hf fun h' tk v' kp sz => ?_
  exact k _ _ (((k1.trans k2).trans k3).trans (Ks.of kp sz)) (.str _ _)
end
end Mine
end

section
open PySem PySem.W PySem.Calls PyProof.Rows
set_option Elab.async false
set_option linter.unusedVariables false
set_option linter.unusedSectionVars false
set_option maxRecDepth 10000
namespace Mine
variable [Star]

section
variable {prog : Program} {w : World} {B : Heap} {n : Nat} {sc : Scope} {ρ : Rho}

theorem pe_fstr {a b x : Str} {k1 k2 : Nat} {p1 p2 p3 pos : Pos} {e : Expr} (he : PE prog w B n sc ρ e (.str x)) (hx : a.length + x.length + b.length ≤ 100000) :
    PE prog w B n sc ρ (.JoinedStr [.Constant (.str a) k1 p1, .FormattedValue e (-1) none p2, .Constant (.str b) k2 p3] pos) (.str (a ++ x ++ b)) := fun A env E s X Q r o c v k => by
  have hsl : sizeLine = 2 ^ 24 := by decide
  have e0 : (Str.empty ++ a : Str) = a := by obtain ⟨a⟩ := a; show Str.mk (#[] ++ a) = _; simp
  refine wpAny_JoinedStr (Joins_cons (wpAny_mkText ⟨_, _, rfl, by rw [e0, hsl]; lia, Joins_cons (wpAny_FormattedValue_plain ?_)⟩))
  have kt : Ks X s { s with toks := s.toks + 1 } := Ks.tok s _
  refine he A env E _ X _ r o (kt.cx c) (kt.vs c v) fun u s1 k1' t1 => ?_
  cases t1 using Tl.strE
  refine SB.field_str (fun t' kk => ⟨_, _, rfl, by rw [e0, Str.length_append, hsl]; lia, Joins_cons (wpAny_mkText ⟨_, _, rfl, by rw [e0, Str.length_append, Str.length_append, hsl]; lia, Joins_nil ⟨by rw [e0, Str.length_append, Str.length_append, hsl]; lia, ?_⟩⟩)⟩) (by rw [hsl]; lia)
  rw [e0]
  exact k _ _ ((kt.trans k1').trans (Ks.tok s1 _)) (.str _ _)

theorem bo_in_tup_str {x : Str} {l : List Str} : BO prog w B (compareOp .In) (.str x) (.tup (l.map .str)) (.bool (l.any (fun m => m == x))) := fun A E s X Q u v _ _ t1 t2 k' => by
  cases t1 using Tl.strE
  cases t2 using Tl.tupE with
  | @tup a vs p nx z ts =>
    refine SeqAt.in_tupleAt (fun y => match y with | .str m _ => m == x | _ => false) p (fun y hy => ?_) ?_
    · have hv : y ∈ vs := by simpa using hy
      obtain ⟨j, hj, e⟩ := List.getElem_of_mem hv
      obtain ⟨d, e1, t⟩ := ts.get' (i := j) (v := y) (by rw [← e]; simp [hj])
      rw [List.getElem?_map] at e1
      cases hns : l[j]? with
      | none => rw [hns] at e1; cases e1
      | some m => rw [hns] at e1; cases e1; cases t using Tl.strE; exact SeqAt.EqAt.str_str _ _ _ _
    · have e : (vs.toArray.any fun y => match y with | .str m _ => m == x | _ => false) = l.any (fun m => m == x) := by
        rw [List.any_toArray]
        clear p nx z k'
        induction l generalizing vs with
        | nil => cases ts using Tls.nilE; rfl
        | cons m r ih =>
          cases ts using Tls.consE with
          | cons a b =>
            cases a using Tl.strE
            simp only [List.any_cons, ih b]
      rw [e]
      exact k' _ _ (Ks.refl s) (.bool _)
end
end Mine
end

section
open PySem PySem.W PySem.Calls PyProof.Rows
set_option Elab.async false
set_option linter.unusedVariables false
set_option linter.unusedSectionVars false
set_option maxRecDepth 10000
namespace Mine
variable [Star]

section
variable {prog : Program} {w : World} {B : Heap} {n : Nat} {sc : Scope} {ρ : Rho}

theorem TInv.set7 {a : Nat} {pat : Str} {i : Int} {res : List D} {ρ : Rho} (h : TInv a pat i res ρ) {x : Str} (d : D) (hx : (["res", "add", "pat", "STAR", "QUESTION_MARK", "i", "n"].any fun y => Str.ofString y == x) = false) : TInv a pat i res (ρ.set x d) := by
  simp only [List.any_cons, List.any_nil, Bool.or_false, Bool.or_eq_false_iff] at hx
  exact h.set d hx.1 hx.2.1 hx.2.2.1 hx.2.2.2.1 hx.2.2.2.2.1 hx.2.2.2.2.2.1 hx.2.2.2.2.2.2

structure Br (pat : Str) (x out : Str) (b1 : Bool) (J : Nat) : Prop where
  len : pat.length ≤ 1000
  c0 : atD pat.cps.toList 0 = some 91
  c1 : ∃ c, atD pat.cps.toList 1 = some c ∧ ((⟨#[c]⟩ : Str) == "!") = b1
  c2 : ∃ c, atD pat.cps.toList (if b1 then 2 else 1) = some c ∧ ((⟨#[c]⟩ : Str) == "]") = false
  mid : ∀ j : Nat, (if b1 then 2 else 1) ≤ j → j < J → ∃ c, atD pat.cps.toList (j : Int) = some c ∧ ((⟨#[c]⟩ : Str) == "]") = false
  fin : ∃ c, atD pat.cps.toList (J : Int) = some c ∧ ((⟨#[c]⟩ : Str) == "]") = true
  lt : J < pat.length
  ge : (if b1 then 2 else 1) ≤ J
  slice : Txt.slice pat (some 1) (some (J : Int)) = x
  xl : 0 < x.cps.size ∧ x.cps.size ≤ 100
  none : failsIn 40 (Sre.forSearch subCode x.cps 1 0 x.cps.size false) = true
end
end Mine
end

section
open PySem PySem.W PySem.Calls PyProof.Rows
set_option Elab.async false
set_option linter.unusedVariables false
set_option linter.unusedSectionVars false
set_option maxRecDepth 10000
namespace Mine
variable [Star]

noncomputable def thB (s : Option Stmt) : List Stmt := match s with | some (Stmt.If _ b _ _) => b | _ => []
noncomputable def orB (s : Option Stmt) : List Stmt := match s with | some (Stmt.If _ _ b _) => b | _ => []
noncomputable def brB : List Stmt := thB ((orB ((orB ((forB (fb 9)[3]?)[2]?))[0]?))[0]?)

noncomputable def brOut (x : Str) (b1 : Bool) : Str := ("[" : Str) ++ (if b1 then "^" ++ Txt.slice x (some 1) none else x) ++ "]"

section
variable {prog : Program} {w : World} {B : Heap} {n : Nat} {sc : Scope} {ρ : Rho}

theorem px_weak {ρ' : Rho} {ss : List Stmt} {R : Post} (h : ρ.Le ρ') (ho : ∀ p ∈ ρ.own, ρ.nm p.1 = some (.rf p.2.1)) (hx : PX prog w B n sc ρ ss R) : PX prog w B n sc ρ' ss R := fun A env E s X Q rm o f k =>
  hx A env E s X Q rm o (f.weak h ho) fun fl s' X' t x1 x2 ok => by
    have hm : ∀ b, Mut env ρ b → Mut env ρ' b := fun b m => by
      rcases m with m | m | ⟨p, hp, e⟩
      · exact .inl m
      · exact .inr (.inl m)
      · exact .inr (.inr ⟨p, h.own p hp, e⟩)
    have ho' : ∀ {ρ1}, OwnIn ρ ρ1 s → OwnIn ρ' ρ1 s := fun oi p hp => by
      rcases oi p hp with ⟨q, hq, e⟩ | z
      · exact .inl ⟨q, h.own q hq, e⟩
      · exact .inr z
    refine k fl s' X' ⟨t.os, t.dr, fun b o nm => t.kp b o fun m => nm (hm b m), t.sz⟩ x1 x2 ?_
    cases fl with
    | next => obtain ⟨ρ1, a, b, c⟩ := ok; exact ⟨ρ1, a, b, ho' c⟩
    | cont => obtain ⟨ρ1, a, b, c⟩ := ok; exact ⟨ρ1, a, b, ho' c⟩
    | brk => obtain ⟨ρ1, a, b, c⟩ := ok; exact ⟨ρ1, a, b, ho' c⟩
    | ret v =>
      obtain ⟨d, Y, a, b, c, e, f⟩ := ok
      refine ⟨d, Y, a, b, c, e, fun b hb => ?_⟩
      rcases f b hb with ⟨p, hp, q⟩ | z
      · exact .inl ⟨p, h.own p hp, q⟩
      · exact .inr z

structure St (x : Str) (b1 : Bool) : Prop where
  c0 : ∃ c, atD x.cps.toList 0 = some c ∧ ((⟨#[c]⟩ : Str) == "!") = b1 ∧ ([("^" : Str), ("[" : Str)].any fun m => m == (⟨#[c]⟩ : Str)) = false
  ne : (x == "!") = false
  xl : 0 < x.cps.size ∧ x.cps.size ≤ 100
  sl : (Txt.slice x (some 1) none).length ≤ 100
  none : failsIn 40 (Sre.forSearch subCode x.cps 1 0 x.cps.size false) = true

theorem px_br2 {P C : Nat} (hg : GlobRef B "_twin_re_1" P) (hp : PatAt B P C) (g : LamG B) {a : Nat} {pat : Str} {i : Int} {res : List D} {ρ : Rho} {J : Nat} {x : Str} {b1 : Bool} (h : TInv a pat i res ρ) (hj : ρ.nm "j" = some (.int J)) (hx : ρ.nm "stuff" = some (.str x)) (hr : res.length ≤ 1000) (st : St x b1) :
    PX prog w B n (fsc 9) ρ ((orB brB[4]?).drop 2) { nx := TInv a pat (J + 1) (res ++ [.str (brOut x b1)]) } := by
  have hl : x.length = x.cps.size := rfl
  have hsl : sizeLine = 2 ^ 24 := by decide
  have xl := st.xl
  change PX _ _ _ _ _ _ (_ :: _) _
  with_reducible refine px_assign (d := .str x) (pe_sub (sp := ⟨0, 0, 0, 0⟩) hg ?_ hp g ?_ (fun _ => rfl) ?_ (pe_name hx) xl.1 ?_ st.none) ?_ ?_ ?_ ?_ ?_
  · decide +kernel
  · decide +kernel
  · intro x hx
    simp at hx
  · lia
  · exact .inl (by decide +kernel)
  · exact fun _ _ => rfl
  · decide +kernel
  · decide +kernel
  have h1 := h.set7 (x := "stuff") (.str x) (by decide +kernel)
  change PX _ _ _ _ _ _ (_ :: _) _
  with_reducible refine px_assign (d := .int ((J : Int) + 1)) (pe_binop (pe_name ((Rho.set_ne ?_).trans hj)) pe_int bo_add_int) ?_ ?_ ?_ ?_ ?_
  · decide +kernel
  · exact .inl (by decide +kernel)
  · exact fun _ _ => rfl
  · decide +kernel
  · decide +kernel
  have h2 := h1.setI (j := (J : Int) + 1)
  have hx2 : ((ρ.set "stuff" (.str x)).set "i" (.int ((J : Int) + 1))).nm "stuff" = some (.str x) := (Rho.set_ne (by decide +kernel)).trans Rho.set_eq
  generalize (ρ.set "stuff" (.str x)).set "i" (.int ((J : Int) + 1)) = ρ2 at h2 hx2 ⊢
  have hmem : ∀ {ρ3 : Rho}, TInv a pat ((J : Int) + 1) res ρ3 → (("res" : Str), a, res) ∈ ρ3.own := fun h3 => by rw [h3.own]; exact .head _
  change PX _ _ _ _ _ _ (_ :: _) _
  have hne : ((x.length : Int) != 0) = true := by simp; lia
  with_reducible refine px_if (b := false) (PT.to (pt_not (pt_plain (a := .str x) (pe_name hx2) (to_str ?_))) ?_) ?_
  · lia
  · rw [hne]; rfl
  change PX _ _ _ _ _ _ (_ :: _) _
  with_reducible refine px_if (b := false) (PT.to (pt_cmp (a := .str x) (b := .str "!") (pe_name hx2) pe_str bo_eq_str) st.ne) ?_
  change PX _ _ _ _ _ _ (_ :: _) _
  obtain ⟨c, e1, e2, e3⟩ := st.c0
  with_reducible refine px_if (b := b1) (PT.to (pt_cmp (a := .str ⟨#[c]⟩) (b := .str "!") (pe_item_str (pe_name hx2) pe_int e1 ?_) pe_str bo_eq_str) e2) ?_
  · lia
  have q1 : ("[" : Str).length = 1 := by decide +kernel
  have q2 : ("]" : Str).length = 1 := by decide +kernel
  cases b1 with
  | true =>
    change PX _ _ _ _ _ _ (_ :: _) _
    have q3 : ("^" : Str).length = 1 := by decide +kernel
    have q4 : (Txt.slice x (some 1) none).length ≤ 100 := st.sl
    with_reducible refine px_assign (d := .str ("^" ++ Txt.slice x (some 1) none)) (pe_binop pe_str (pe_slice_str (x := x) (lo := some 1) (hi := none) (pe_name hx2) ?_ ?_ ?_) (bo_add_str ?_)) ?_ ?_ ?_ ?_ ?_
    · exact pe_int
    · exact True.intro
    · lia
    · lia
    · exact .inl (by decide +kernel)
    · exact fun _ _ => rfl
    · decide +kernel
    · decide +kernel
    have h3 := h2.set7 (x := "stuff") (.str ("^" ++ Txt.slice x (some 1) none)) (by decide +kernel)
    change PX _ _ _ _ _ _ (_ :: _) _
    with_reducible refine px_add (d := .str (brOut x true)) h3.add (pe_fstr (pe_name Rho.set_eq) ?_) (hmem h3) ?_ ?_
    · rw [Str.length_append]; lia
    · lia
    · conv => arg 7; whnf
      exact px_nil h3.put
  | false =>
    change PX _ _ _ _ _ _ (_ :: _) _
    with_reducible refine px_if (b := false) (PT.to (pt_cmp (a := .str ⟨#[c]⟩) (b := .tup (([("^" : Str), ("[" : Str)]).map .str)) (pe_item_str (pe_name hx2) pe_int e1 ?_) (pe_tuple (pes_cons pe_str (pes_cons pe_str pes_nil))) bo_in_tup_str) e3) ?_
    · lia
    change PX _ _ _ _ _ _ (_ :: _) _
    with_reducible refine px_add (d := .str (brOut x false)) h2.add (pe_fstr (pe_name hx2) ?_) (hmem h2) ?_ ?_
    · lia
    · lia
    · conv => arg 7; whnf
      exact px_nil h2.put
end
end Mine
end

section
open PySem PySem.W PySem.Calls PyProof.Rows
set_option Elab.async false
set_option linter.unusedVariables false
set_option linter.unusedSectionVars false
set_option maxRecDepth 10000
namespace Mine
variable [Star]

section
variable {prog : Program} {w : World} {B : Heap} {n : Nat} {sc : Scope} {ρ : Rho}

theorem px_brw {a : Nat} {pat : Str} {res : List D} {ρ : Rho} {j0 J : Nat} (hp : pat.length ≤ 1000) (mid : ∀ j : Nat, j0 ≤ j → j < J → ∃ c, atD pat.cps.toList (j : Int) = some c ∧ ((⟨#[c]⟩ : Str) == "]") = false)
    (fin : ∃ c, atD pat.cps.toList (J : Int) = some c ∧ ((⟨#[c]⟩ : Str) == "]") = true) (lt : J < pat.length) (ge : j0 ≤ J) (h : TInv a pat 1 res ρ) (hj : ρ.nm "j" = some (.int j0)) {Rt : Post}
    (hrest : ∀ ρ1, TInv a pat 1 res ρ1 ∧ ρ1.nm "j" = some (.int J) → PX prog w B n (fsc 9) ρ1 (orB brB[4]?) Rt) :
    PX prog w B n (fsc 9) ρ (brB.drop 3) Rt := by
  change PX _ _ _ _ _ _ (_ :: _) _
  with_reducible refine px_while (P := fun ρ1 => TInv a pat 1 res ρ1 ∧ ρ1.nm "j" = some (.int J)) (fun k ρ' => TInv a pat 1 res ρ' ∧ ∃ j : Nat, j0 ≤ j ∧ j + k = J ∧ ρ'.nm "j" = some (.int j)) (J - j0) ⟨h, j0, Nat.le_refl _, by grind, hj⟩ (fun k ρ' hI => ?_) (fun ρ1 h1 => ?_)
  · obtain ⟨h1, j, g1, g2, g3⟩ := hI
    by_cases hk : j < J
    · obtain ⟨c, e1, e2⟩ := mid j g1 hk
      refine ⟨true, PT.to (b := decide ((j : Int) < pat.length) && (((⟨#[c]⟩ : Str) != "]") && true)) (pt_and (pt_cmp (pe_name g3) (pe_name h1.n) bo_lt_int) fun _ => pt_and (pt_cmp (pe_item_str (pe_name h1.pt) (pe_name g3) e1 ?_) pe_str bo_ne_str) fun _ => pt_and_nil) ?_, fun q => by (cases q), fun _ => ?_⟩
      · lia
      · have e3 : decide ((j : Int) < pat.length) = true := by simp; lia
        rw [e3, bne, e2]; rfl
      · with_reducible refine px_assign (d := .int ((j : Int) + 1)) (pe_binop (pe_name g3) pe_int bo_add_int) ?_ ?_ ?_ ?_ ?_
        · exact .inl (by decide +kernel)
        · exact fun _ _ => rfl
        · decide +kernel
        · decide +kernel
        · exact px_nil ⟨k - 1, by lia, h1.set7 _ (by decide +kernel), j + 1, by lia, by lia, Rho.set_eq⟩
    · have hjJ : j = J := by lia
      subst hjJ
      obtain ⟨c, e1, e2⟩ := fin
      refine ⟨false, PT.to (b := decide ((j : Int) < pat.length) && (((⟨#[c]⟩ : Str) != "]") && true)) (pt_and (pt_cmp (pe_name g3) (pe_name h1.n) bo_lt_int) fun _ => pt_and (pt_cmp (pe_item_str (pe_name h1.pt) (pe_name g3) e1 ?_) pe_str bo_ne_str) fun _ => pt_and_nil) ?_, fun _ => ⟨h1, g3⟩, fun q => by (cases q)⟩
      · lia
      · rw [bne, e2]; simp
  · change PX _ _ _ _ _ _ (_ :: _) _
    with_reducible refine px_if (b := false) (PT.to (pt_cmp (pe_name h1.2) (pe_name h1.1.n) bo_ge_int) ?_) ?_
    · simp; assumption
    · exact hrest ρ1 h1

theorem px_br0 {a : Nat} {pat : Str} {res : List D} {ρ : Rho} {x : Str} {b1 : Bool} {J : Nat} (br : Br pat x x b1 J) (h : TInv a pat 1 res ρ) {Rt : Post}
    (hrest : ∀ ρ1, TInv a pat 1 res ρ1 ∧ ρ1.nm "j" = some (.int J) → PX prog w B n (fsc 9) ρ1 (orB brB[4]?) Rt) :
    PX prog w B n (fsc 9) ρ brB Rt := by
  have hp := br.len
  change PX _ _ _ _ _ _ (_ :: _) _
  with_reducible refine px_assign (d := .int 1) (pe_name h.i) ?_ ?_ ?_ ?_ ?_
  · exact .inl (by decide +kernel)
  · exact fun _ _ => rfl
  · decide +kernel
  · decide +kernel
  have h1 := h.set7 (x := "j") (.int 1) (by decide +kernel)
  change PX _ _ _ _ _ _ (_ :: _) _
  obtain ⟨c1, e1, e2⟩ := br.c1
  have lt := br.lt
  have ge := br.ge
  have p1 : (1 : Nat) ≤ J := by split at ge <;> omega
  with_reducible refine px_if (b := b1) (PT.to (b := decide ((1 : Int) < pat.length) && (((⟨#[c1]⟩ : Str) == "!") && true)) (pt_and (pt_cmp (pe_name Rho.set_eq) (pe_name h1.n) bo_lt_int) fun _ => pt_and (pt_cmp (pe_item_str (pe_name h1.pt) (pe_name Rho.set_eq) e1 ?_) pe_str bo_eq_str) fun _ => pt_and_nil) ?_) ?_
  · lia
  · rw [e2]
    have e3 : decide ((1 : Int) < pat.length) = true := by simp; lia
    rw [e3]; simp
  obtain ⟨c2, e4, e5⟩ := br.c2
  have mid := br.mid
  have key : ∀ {ρ2 : Rho} {j0 : Nat}, TInv a pat 1 res ρ2 → ρ2.nm "j" = some (.int j0) → j0 ≤ J → (∃ c, atD pat.cps.toList j0 = some c ∧ ((⟨#[c]⟩ : Str) == "]") = false) → (∀ j : Nat, j0 ≤ j → j < J → ∃ c, atD pat.cps.toList (j : Int) = some c ∧ ((⟨#[c]⟩ : Str) == "]") = false) →
      PX prog w B n (fsc 9) ρ2 (brB.drop 2) Rt := by
    intro ρ2 j0 h2 hj g1 g2 g3
    obtain ⟨c, g4, g5⟩ := g2
    change PX _ _ _ _ _ _ (_ :: _) _
    with_reducible refine px_if (b := false) (PT.to (b := decide ((j0 : Int) < pat.length) && (((⟨#[c]⟩ : Str) == "]") && true)) (pt_and (pt_cmp (pe_name hj) (pe_name h2.n) bo_lt_int) fun _ => pt_and (pt_cmp (pe_item_str (pe_name h2.pt) (pe_name hj) g4 ?_) pe_str bo_eq_str) fun _ => pt_and_nil) ?_) ?_
    · lia
    · rw [g5]; simp
    · exact px_brw hp g3 br.fin lt g1 h2 hj hrest
  cases b1 with
  | true =>
    change PX _ _ _ _ _ _ (_ :: _) _
    with_reducible refine px_assign (d := .int 2) (pe_binop (pe_name Rho.set_eq) pe_int bo_add_int) ?_ ?_ ?_ ?_ ?_
    · exact .inl (by decide +kernel)
    · exact fun _ _ => rfl
    · decide +kernel
    · decide +kernel
    · exact key (j0 := 2) (h1.set7 _ (by decide +kernel)) Rho.set_eq (by simpa using ge) ⟨c2, by simpa using e4, e5⟩ (by simpa using mid)
  | false =>
    exact key (j0 := 1) h1 Rho.set_eq (by simpa using ge) ⟨c2, by simpa using e4, e5⟩ (by simpa using mid)
end
end Mine
end

section
open PySem PySem.W PySem.Calls PyProof.Rows PySem.Builtin PySem.Builtin.Str
set_option Elab.async false
set_option linter.unusedVariables false
set_option linter.unusedSectionVars false
set_option maxRecDepth 10000
namespace Mine
variable [Star]

section
variable {prog : Program} {w : World} {B : Heap} {n : Nat} {sc : Scope} {ρ : Rho}

theorem px_brN {P C : Nat} (hg : GlobRef B "_twin_re_1" P) (hp : PatAt B P C) (g : LamG B) {a : Nat} {pat : Str} {res : List D} {ρ : Rho} {x : Str} {b1 : Bool} {J : Nat} (br : Br pat x x b1 J) (st : St x b1) (nd : Txt.contains x "-" = false) (nb : (occurrences x "\\" 0 x.length (x.length + 1)).isEmpty = true) (hr : res.length ≤ 1000) (h : TInv a pat 1 res ρ) :
    PX prog w B n (fsc 9) ρ brB { nx := TInv a pat (J + 1) (res ++ [.str (brOut x b1)]) } := by
  have xl := st.xl
  have hl : x.length = x.cps.size := rfl
  have hsl : sizeLine = 2 ^ 24 := by decide
  have hpl := br.len
  refine px_br0 br h fun ρ1 h1 => ?_
  obtain ⟨h1, hj⟩ := h1
  change PX _ _ _ _ _ _ (_ :: _) _
  with_reducible refine px_assign (d := .str x) (br.slice ▸ pe_slice_str (x := pat) (lo := some 1) (hi := some (J : Int)) (pe_name h1.pt) ?_ ?_ ?_) ?_ ?_ ?_ ?_ ?_
  · exact pe_name h1.i
  · exact pe_name hj
  · lia
  · exact .inl (by decide +kernel)
  · exact fun _ _ => rfl
  · decide +kernel
  · decide +kernel
  have h2 := h1.set7 (x := "stuff") (.str x) (by decide +kernel)
  have hj2 : (ρ1.set "stuff" (.str x)).nm "j" = some (.int J) := (Rho.set_ne (by decide +kernel)).trans hj
  change PX _ _ _ _ _ _ (_ :: _) _
  with_reducible refine px_if (b := true) (PT.to (pt_cmp (a := .str "-") (b := .str x) pe_str (pe_name Rho.set_eq) bo_notin_str) ?_) ?_
  · rw [nd]; rfl
  change PX _ _ _ _ _ _ (_ :: _) _
  with_reducible refine px_assign (d := .str x) (pe_replace0 (pe_name Rho.set_eq) pe_str pe_str nb) ?_ ?_ ?_ ?_ ?_
  · exact .inl (by decide +kernel)
  · exact fun _ _ => rfl
  · decide +kernel
  · decide +kernel
  exact px_br2 hg hp g (h2.set7 (x := "stuff") (.str x) (by decide +kernel)) ((Rho.set_ne (by decide +kernel)).trans hj2) Rho.set_eq hr st
end
end Mine
end

section
open PySem PySem.W PySem.Calls PyProof.Rows PySem.Builtin PySem.Builtin.Str
set_option Elab.async false
set_option linter.unusedVariables false
set_option linter.unusedSectionVars false
set_option maxRecDepth 10000
namespace Mine
variable [Star]

theorem gives_find4 (x y : Str) (i j : Int) (t u v v2 : Tok) : Gives («str.find» ⟨[.str x t, .str y u, .int i v, .int j v2], []⟩) (.int (match occurrences x y (fromIndex x.length i) (min (fromIndex x.length j) x.length) 1 with | k :: _ => (k : Int) | [] => -1)) := by
  show Gives (match occurrences x y (fromIndex x.length i) (min (fromIndex x.length j) x.length) 1 with | k :: _ => retInt k | [] => (do rule "str.find.not-found"; retInt (-1))) _
  cases occurrences x y (fromIndex x.length i) (min (fromIndex x.length j) x.length) 1 with
  | nil => exact .rule (.of_eq rfl)
  | cons k _ => exact .of_eq rfl

section
variable {prog : Program} {w : World} {B : Heap} {n : Nat} {sc : Scope} {ρ : Rho}

theorem pe_find4 {o e1 e2 e3 : Expr} {apos pos : Pos} {x y : Str} {i j r : Int} (ho : PE prog w B n sc ρ o (.str x)) (h1 : PE prog w B n sc ρ e1 (.str y)) (h2 : PE prog w B n sc ρ e2 (.int i)) (h3 : PE prog w B n sc ρ e3 (.int j))
    (hr : (match occurrences x y (fromIndex x.length i) (min (fromIndex x.length j) x.length) 1 with | k :: _ => (k : Int) | [] => -1) = r)
    (hs : ∀ env, starEach [e1, e2, e3] env = [(false, eval e1 env), (false, eval e2 env), (false, eval e3 env)] := by intro _; with_unfolding_all rfl) (hline : (apos.endLine == pos.line) = true := by with_unfolding_all rfl) (hb : ∀ env, attributeBase o "find" env (eval o env) = eval o env := by intro _; with_unfolding_all rfl) :
    PE prog w B n sc ρ (.Call (.Attribute o "find" apos) [e1, e2, e3] [] pos) (.int r) := fun A env E s X Q rm oo c v k => by
  refine wpAny_Call_method_lateS (hb env) (by rw [hs]; rfl) hline ?_
  rw [hs]
  refine ho A env E s X _ rm oo c v fun u s1 k1 t1 => ?_
  cases t1 using Tl.strE
  refine ⟨"str", _, F.plainAttrs_str, F.slot_str_find, F.type_str_find, typeIs_str _ _ _, (fun _ e => nomatch e), ?_⟩
  refine Calls.callWith_builtin rfl (Calls.evalArgs_plain (Calls.spliced_cons (h1 A env E s1 X _ rm oo (k1.cx c) (k1.vs c v) fun u2 s2 k2 t2 =>
    Calls.spliced_cons (h2 A env E s2 X _ rm oo (k2.cx (k1.cx c)) (k2.vs (k1.cx c) (k1.vs c v)) fun u3 s3 k3 t3 => Calls.spliced_cons (h3 A env E s3 X _ rm oo (k3.cx (k2.cx (k1.cx c))) (k3.vs (k2.cx (k1.cx c)) (k2.vs (k1.cx c) (k1.vs c v))) fun u4 s4 k4 t4 => Calls.spliced_nil ?_)))))
  cases t2 using Tl.strE
  cases t3 using Tl.intE
  cases t4 using Tl.intE
  refine call_gives F.slot_str_find (typeIs_str _ _ _) F.entry_str_find (F.args_str_find_4 _ _ _ _) (gives_find4 x y i j _ _ _ _) ?_
  rw [hr]
  exact k _ _ ((((k1.trans k2).trans k3).trans k4).trans (Ks.tok _ _)) (.int _ _)

theorem bo_gt_str {a b : Str} : BO prog w B (compareOp .Gt) (.str a) (.str b) (.bool (decide (b.cps.toList < a.cps.toList))) := fun A E s X Q u v _ _ t1 t2 k => by cases t1 using Tl.strE; cases t2 using Tl.strE; exact P.gt_str (k _ _ (Ks.refl s) (.bool _))

theorem gencode_ {A : Around} {env : Env} {E : Value → Shared → Prop} {s : Shared} {X : Nat → Prop} {Q : Value → Shared → Prop} {q : Str} {scope : Scope} {pos : Pos} (o : Eo sc env) (hq : sc.names.lookup ("QUESTION_MARK" : Str) = some .local) (g : LamG B) (c : Cx B X s)
    (k : ∀ cv s', Ks X s s' → Q cv s') : wpAny (model prog w) A (genexprCode env pos q scope) Q E s := by
  obtain ⟨hcode, hcells⟩ := o.code hq
  obtain ⟨ps, hP, ht, hent⟩ := c.ti
  have C := CodeHd.up g.hd c.base
  cases hf : codeAmong pos ps.toList with
  | some cv =>
    obtain ⟨o', vs', file, tf, flags, tg, inF, text, tt, op, ho, hd, h11, h2, h7, h9, h10, hop, hpd, htr, hne⟩ := C.code hP ht
    unfold genexprCode codeAt
    rw [hcode, if_neg (show ¬ ((Value.ref tc == Value.none) = true) from Bool.false_ne_true)]
    refine wpAny_bind (wpAny_fieldsOf ho hd ?_)
    rw [h11]
    refine wpAny_bind (wpAny_fieldsOf hop hpd ?_)
    rw [hf]
    exact wpAny_pure (k cv s (Ks.refl s))
  | none =>
    refine wpAny_genexprCodeX hcode (C.code hP ht) (C.tab hP) hf fun c' h' tk hx hge hlt _ hrec htab _ => ?_
    have htbs : tb < s.heap.objs.size := c.xlt _ c.tb
    have hsz : s.heap.objs.size ≤ h'.objs.size := Nat.le_trans hge (Nat.le_of_lt hlt)
    refine k _ _ ⟨rfl, rfl, fun b ob ne e => hx b ob ne e, hsz, fun _ => ?_, id⟩
    refine ⟨ps ++ #[rawInt pos.line, rawInt pos.col, .ref c'], htab.2, by rw [Array.toList_append]; exact TriplesOk_snoc _ _ _ _ ht, fun pos' cv e => ?_⟩
    rw [Array.toList_append] at e
    rcases among_snoc _ ht e with e | rfl
    · obtain ⟨c2, ob, vs, q, t, e1, nx, ne, e2, r⟩ := hent pos' cv e
      exact ⟨c2, ob, vs, q, t, e1, nx, ne, hx _ _ ne e2, r⟩
    · obtain ⟨c2, ob, vs, t, e1, e2, e3, e4⟩ := hrec
      cases e1
      exact ⟨c', ob, vs, _, t, rfl, fun q => by have h1 := c.xlt _ q; exact Nat.lt_irrefl _ (Nat.lt_of_lt_of_le h1 hge), fun q => by rw [q] at hge; exact Nat.lt_irrefl _ (Nat.lt_of_lt_of_le htbs hge), e2, e3, e4⟩
end
end Mine
end

section
open PySem PySem.W PySem.Calls PyProof.Rows PySem.Builtin PySem.Builtin.Str
set_option Elab.async false
set_option linter.unusedVariables false
set_option linter.unusedSectionVars false
set_option maxRecDepth 10000
namespace Mine
variable [Star]

theorem strs_get {h : Heap} {X : Nat → Prop} {texts : List Str} {vs : List Value} (ts : Tls h X vs (texts.map .str)) {i : Nat} {v : Value} (e : vs[i]? = some v) : ∃ x u, texts[i]? = some x ∧ v = .str x u := by
  obtain ⟨d, e1, t1⟩ := ts.get' e
  rw [List.getElem?_map] at e1
  cases hx : texts[i]? with
  | none => rw [hx] at e1; cases e1
  | some x => rw [hx] at e1; cases e1; cases t1 using Tl.strE; exact ⟨x, _, rfl, rfl⟩

theorem nm2 {b C I : Nat} (h1 : b < I) (h2 : I < C) : b ∉ [C, I] := fun q => by simp at q; lia
theorem nm2' {b C I : Nat} (h1 : b ≠ I) (h2 : b < C) : b ∉ [C, I] := fun q => by simp at q; lia
theorem nm2'' {b C I : Nat} (h1 : I < C) (h2 : C < b) : b ∉ [C, I] := fun q => by simp at q; lia
section
variable {prog : Program} {w : World} {B : Heap} {n : Nat} {sc : Scope} {ρ : Rho}

theorem pe_joingen {sep x y : Str} {k1 : Nat} {p1 ap px py gp cp : Pos} {elt : Expr} {scope : Scope} {texts : List Str} (hy : ρ.nm y = some (.list (texts.map .str))) (hlim : B.NoLimit) (hq : sc.names.lookup ("QUESTION_MARK" : Str) = some .local) (g : LamG B)
    (hco : scope.isCoroutine = false) (hfree : ∀ x, (x, NameKind.free) ∉ scope.names) (hcell : ∀ y ∈ scope.names, y.2 ≠ .cell) (h0 : scope.names.lookup (".0" : Str) = some NameKind.local) (hx : scope.names.lookup x = some .local) (hkind : scope.kind = .function)
    (helt : ∀ (cenv : Env) (A' : Around) (E' : Value → Shared → Prop) (t : Str) (u : Tok) (s₂ : Shared) (m₂ : Str → Option Value), cenv.scope = scope → A'.handled = none → t ∈ texts → s₂.heap.Ns cenv.locals m₂ → m₂ x = some (.str t u) →
      wpAny (model prog w) A' (eval elt cenv) (fun v s₃ => (∃ u', v = .str t u') ∧ Keeps s₂ s₃) E' s₂)
    (hok : JoinOk sep texts = true) (hz : texts.length ≤ 1000)
    (hs : ∀ env, starEach [Expr.GeneratorExp elt [⟨.Name x px, .Name y py, [], 0⟩] scope gp] env = [(false, eval (Expr.GeneratorExp elt [⟨.Name x px, .Name y py, [], 0⟩] scope gp) env)] := by intro _; with_unfolding_all rfl) (hline : (ap.endLine == cp.line) = true := by with_unfolding_all rfl) (hb : ∀ env, attributeBase (.Constant (.str sep) k1 p1) "join" env (eval (.Constant (.str sep) k1 p1) env) = eval (.Constant (.str sep) k1 p1) env := by intro _; with_unfolding_all rfl) :
    PE prog w B n sc ρ (.Call (.Attribute (.Constant (.str sep) k1 p1) "join" ap) [.GeneratorExp elt [⟨.Name x px, .Name y py, [], 0⟩] scope gp] [] cp) (.str (Txt.join sep texts)) := fun A env E s X Q r o c v k => by
  refine Call_method1 (hb env) (hs env) hline (wpAny_mkText ?_)
  refine ⟨"str", _, F.plainAttrs_str, F.slot_str_join, F.type_str_join, typeIs_str _ _ _, (fun _ e => nomatch e), ?_⟩
  refine Calls.callWith_builtin rfl (Calls.evalArgs_plain (Calls.spliced_cons ?_))
  have kt : Ks X s { s with toks := s.toks + 1 } := Ks.tok s _
  have hcl : closureFor scope env = pure (clOf env scope.names []) := closure_eq fun y hy => (hfree y hy).elim
  refine wpAny_GeneratorExp_walksQ r.hand hco hcl hcell h0 hx hkind (by have := r.depth; lia) ?_ (fun _ => rfl)
  refine pe_name hy A env E _ X _ r o (kt.cx c) (kt.vs c v) fun u s1 k1' t1 => ?_
  have k01 := kt.trans k1'
  have c1 := k01.cx c
  cases t1 using Tl.listE with
  | list p nx z ts =>
  rename_i a vs
  have hl := ts.length
  rw [List.length_map] at hl
  have hlt : a < s1.heap.objs.size := let ⟨_, e⟩ := p; ltz e
  generalize hI : s1.heap.objs.size = I at *
  refine wpAny_pyIter_list p.isList ?_
  rw [hI]
  have c2 : Cx B (fun b => X b ∨ b = I) { s1 with heap := s1.heap.push { cls := .type "list_iterator", data := .fields #[.ref a, .int 0 0] } } := by
    rw [← hI]; exact c1.moreI _ s1.toks
  have i2 : (s1.heap.push { cls := .type "list_iterator", data := .fields #[.ref a, .int 0 0] }).get? I = some { cls := .type "list_iterator", data := .fields #[.ref a, .int 0 0] } := by rw [← hI]; exact Heap.get?_push_size _ rfl
  have sz2 : (s1.heap.push { cls := .type "list_iterator", data := .fields #[.ref a, .int 0 0] }).objs.size = I + 1 := by rw [Heap.size_push, hI]
  have kp2 : ∀ b ob, s1.heap.get? b = some ob → (s1.heap.push { cls := .type "list_iterator", data := .fields #[.ref a, .int 0 0] }).get? b = some ob := fun b ob e => Heap.get?_push_of_some _ e
  generalize (s1.heap.push { cls := .type "list_iterator", data := .fields #[.ref a, .int 0 0] }) = H2 at c2 i2 sz2 kp2 ⊢
  refine ⟨hlim.keeps c2.base, gencode_ (X := fun b => X b ∨ b = I) o hq g c2 fun cv s3 k3 => ?_⟩
  have c3 := k3.cx c2
  obtain ⟨mg, hmg, hba⟩ := g.ba
  obtain ⟨bm, ob, hbm, hne0, _, hneP, hbo, hcls, hdict, hdata⟩ := BuiltinsAt.up hba c3.base
  rw [o.glob]
  refine wpAny_builtinsFor (hmg.keeps c3.base) hbm hne0 hbo hcls hdict hdata ?_
  have htb : tb < I := by have := c1.xlt _ c1.tb; lia
  have nI : I ≠ tb := nen (by lia)
  have na : a ≠ tb := fun q => nx (q ▸ c1.tb)
  have hI3 : I < s3.heap.objs.size := ltz (k3.kp I _ nI i2)
  have p3 : s3.heap.PlainList a vs.toArray := p.at fun o e => k3.kp a o na (kp2 a o e)
  have hlim3 : s3.heap.NoLimit := hlim.keeps c3.base
  refine ⟨I, [I, a], [I], vs.toArray.size, fun i v => vs.toArray[i]? = some v, fun i h => h.IsListIter I a i ∧ h.IsList a vs.toArray, fun _ => true, fun i y => ∃ u', y = .str (texts.getD i "") u', rfl,
    fun A' hA => Walks.list hA _ _ (nen (by lia)) vs.toArray, ⟨⟨_, k3.kp I _ nI i2, rfl, rfl⟩, p3.isList⟩, ?_, hlim3, ?_, ?_, ?_⟩
  · intro b hb
    simp at hb
    rcases hb with rfl | rfl
    · exact hI3
    · exact Nat.lt_trans hlt hI3
  · intro hm
    simp at hm
    obtain ⟨m0, e1, _⟩ := hlim
    have h1 := c1.base
    obtain ⟨o0, _, _, e2, _⟩ := e1
    have := ltz (h1 _ _ e2)
    rw [hm, hI] at this
    exact Nat.lt_irrefl _ this
  · intro href hhref
    refine ⟨fun A' E' i v' s₂ m₂ hA hP hn hm hk => ?_, fun A' E' i v' s₂ m₂ hA hP hpz hn hm hk => ?_⟩
    · rw [List.forIn_nil]
      exact wpAny_pure ⟨rfl, s₂.heap, s₂.toks, rfl, fun _ _ e => e⟩
    · obtain ⟨x', u', e1, rfl⟩ := strs_get ts (i := i) (v := v') (by simpa using hP)
      refine wpAny_mono (helt _ A' E' x' u' s₂ m₂ rfl hA (List.mem_of_getElem? e1) hn hm) (fun y s₃ hy => ⟨?_, hy.2⟩) fun _ _ e => e
      obtain ⟨u2, e2⟩ := hy.1
      exact ⟨u2, by rw [e2, List.getD_eq_getElem?_getD, e1]; rfl⟩
  · intro a' h5 tk gs hgb hlt' hsz5 hk5 W hat
    refine Calls.spliced_nil ?_
    show wpAny _ _ (call (.builtin "str.join") [.str sep _, .ref a']) _ _ _
    have hps : passing (fun _ => true) vs.toArray.size 0 = List.range vs.length := by
      unfold passing
      rw [List.filter_eq_self.mpr fun _ _ => rfl]; simp
    rw [hps] at W
    rw [List.length_range] at W
    refine SC.joinGen W.in4_2 (fun i s' st => st.1.typeIs) hat ?_ List.mem_cons_self (fun j v' hv => ?_) (fun s' l hm hacc => ?_) (by rw [sizeLine_eq]; lia)
    · intro b hb
      show b < h5.objs.size
      rw [hsz5]
      simp at hb
      rcases hb with rfl | rfl | hb
      · exact Nat.lt_succ_self _
      · exact Nat.lt_succ_of_lt hlt'
      · exact Nat.lt_succ_of_lt (Nat.lt_trans hb hlt')
    · obtain ⟨i, _, u', e⟩ := hv
      exact ⟨_, u', e⟩
    · have hlen : l.length = texts.length := by
        have := hacc.1
        simp [strValues] at this
        lia
      have hle : l.map (·.1) = texts := by
        refine List.ext_getElem? fun j => ?_
        by_cases hj : j < l.length
        · have hv := hacc.2 j (.str l[j].1 l[j].2) (by simp [strValues, List.getElem?_eq_getElem hj])
          obtain ⟨i, e1, u', e2⟩ := hv
          have hij : i = j := by
            rw [List.getElem?_range (by grind)] at e1
            exact (Option.some.inj e1).symm
          subst hij
          injection e2 with e2 _
          rw [List.getElem?_map, List.getElem?_eq_getElem hj, Option.map_some, e2, List.getD_eq_getElem?_getD, List.getElem?_eq_getElem (by lia)]
          rfl
        · rw [List.getElem?_eq_none (by simp; grind), List.getElem?_eq_none (by lia)]
      rw [hle]
      refine ⟨hok, fun t' kk => k _ _ ?_ (.str _ _)⟩
      -- all kept
      have hX : ∀ b, X b → b < s.heap.objs.size := c.xlt
      have hs1 : s.heap.objs.size ≤ I := by rw [← hI]; exact k01.sz
      have old : ∀ b ob, b ≠ tb → s.heap.get? b = some ob → s'.heap.get? b = some ob := fun b ob ne e => by
        exact hm.heap b ob (nm2 (Nat.lt_of_lt_of_le (ltz e) hs1) hI3) (hk5 b ob (k3.kp b ob ne (kp2 b ob (k01.kp b ob ne e))))
      have szz : s.heap.objs.size ≤ s'.heap.objs.size := by
        obtain ⟨o5, _, _, e5, _⟩ := hat.1
        have h6 := ltz (hm.heap a' o5 (nm2'' hI3 hlt') e5)
        exact Nat.le_of_lt (Nat.lt_trans (Nat.lt_of_le_of_lt hs1 (Nat.lt_trans hI3 hlt')) h6)
      refine ⟨hm.os.trans (k3.os.trans k01.os), hm.drawn.trans (k3.dr.trans k01.dr), old, szz, fun _ => ?_, fun _ => (AllBare.movedS (s := { s3 with gens := s3.gens.push gs, toks := tk, heap := h5 }) (s' := s') ((k3.gn c1.gn).push hgb) hm : AllBare s'.gens)⟩
      have ti3 : TI s3.heap (fun b => X b ∨ b = I) := c3.ti
      obtain ⟨ps, q1, q2, q3⟩ := ti3
      have up : ∀ b ob, b ≠ I → s3.heap.get? b = some ob → s'.heap.get? b = some ob := fun b ob ne e => by
        exact hm.heap b ob (nm2' ne (ltz e)) (hk5 b ob e)
      refine ⟨ps, up _ _ (Ne.symm nI) q1, q2, fun pos cv' e => ?_⟩
      obtain ⟨c', ob', vs', q, t, e1, n1, ne, e2, r⟩ := q3 pos cv' e
      exact ⟨c', ob', vs', q, t, e1, fun z => n1 (.inl z), ne, up _ _ (fun z => n1 (.inr z)) e2, r⟩
end
end Mine
end

section
open PySem PySem.W PySem.Calls PyProof.Rows PySem.Builtin PySem.Builtin.Str
set_option Elab.async false
set_option linter.unusedVariables false
set_option linter.unusedSectionVars false
set_option maxRecDepth 10000
namespace Mine
variable [Star]

theorem kpt {s s1 : Shared} (k : Keeps s s1) (t : Nat) : Keeps s { s1 with toks := t } := by
  obtain ⟨h', tk, rfl, kk⟩ := k
  exact ⟨h', t, rfl, kk⟩

section
variable {prog : Program} {w : World} {A : Around} {E : Value → Shared → Prop} {s : Shared}

theorem el_replace0 {o : Expr} {k1 k2 : Nat} {p1 p2 ap pos : Pos} {env : Env} {x y z : Str} (h : wpAny (model prog w) A (eval o env) (fun v s1 => (∃ u, v = .str x u) ∧ Keeps s s1) E s) (hn : (occurrences x y 0 x.length (x.length + 1)).isEmpty = true)
    (hline : (ap.endLine == pos.line) = true := by with_unfolding_all rfl) (hb : attributeBase o "replace" env (eval o env) = eval o env := by with_unfolding_all rfl) :
    wpAny (model prog w) A (eval (.Call (.Attribute o "replace" ap) [.Constant (.str y) k1 p1, .Constant (.str z) k2 p2] [] pos) env) (fun v s1 => (∃ u, v = .str x u) ∧ Keeps s s1) E s := by
  refine Call_method2 hb (by rfl) hline (wpAny_mono h (fun v s1 hv => ?_) fun _ _ e => e)
  obtain ⟨⟨u, rfl⟩, kk⟩ := hv
  refine ⟨"str", _, F.plainAttrs_str, F.slot_str_replace, F.type_str_replace, typeIs_str _ _ _, (fun _ e => nomatch e), ?_⟩
  refine Calls.callWith_builtin rfl (Calls.evalArgs_plain (Calls.spliced_cons (wpAny_mkText (Calls.spliced_cons (wpAny_mkText (Calls.spliced_nil ?_))))))
  refine call_gives F.slot_str_replace (typeIs_str _ _ _) F.entry_str_replace (F.args_str_replace_3 _ _ _) (gives_str_replace x y z _ _ _ fun h => by rw [hn] at h; cases h) ?_
  rw [hn]
  exact ⟨⟨_, rfl⟩, kpt (kpt kk _) _⟩

theorem el_name {x t : Str} {u : Tok} {m : Str → Option Value} {env : Env} {pos : Pos} (hk : env.scope.kind = .function) (hx : env.scope.names.lookup x = some .local) (hm : s.heap.Ns env.locals m) (hv : m x = some (.str t u)) (hd : (x == ("__debug__" : Str)) = false := by decide +kernel) :
    wpAny (model prog w) A (eval (.Name x pos) env) (fun v s1 => (∃ u, v = .str t u) ∧ Keeps s s1) E s :=
  wpAny_Name (wpAny_loadName_local hk hx hm hv ⟨⟨u, rfl⟩, s.heap, s.toks, rfl, fun _ _ e => e⟩) hd
end
end Mine
end

section
open PySem PySem.W PySem.Calls PyProof.Rows PySem.Builtin PySem.Builtin.Str
set_option Elab.async false
set_option linter.unusedVariables false
set_option linter.unusedSectionVars false
set_option maxRecDepth 10000
namespace Mine
variable [Star]

structure DI (own : List (Str × Nat × List D)) (nm : List (Str × D)) (ρ : Rho) : Prop where
  own : ρ.own = own
  nm : ∀ p ∈ nm, ρ.nm p.1 = some p.2
noncomputable def allGet (nm l : List (Str × D)) : Prop := l.map (fun p => nm.lookup p.1) = l.map (fun p => some p.2)

theorem DI.get {own nm} {ρ : Rho} (h : DI own nm ρ) {x : Str} {d : D} (e : nm.lookup x = some d) : ρ.nm x = some d := h.nm (x, d) (mem_of_lookup' e)
theorem DI.set {own nm} {ρ : Rho} (h : DI own nm ρ) (x : Str) (d : D) : DI (own.filter fun p => p.1 != x) ((x, d) :: nm.filter fun p => p.1 != x) (ρ.set x d) where
  own := by show ρ.own.filter _ = _; rw [h.own]
  nm := fun p hp => by
    cases hp with
    | head => exact Rho.set_eq
    | tail _ hp =>
      have hp2 := List.mem_filter.mp hp
      have : p.1 ≠ x := by simpa using hp2.2
      exact (Rho.set_ne (by simpa using this)).trans (h.nm p hp2.1)
theorem DI.new {own nm} {ρ : Rho} (h : DI own nm ρ) (x : Str) (a : Nat) (l : List D) : DI ((x, a, l) :: own.filter fun p => p.1 != x) ((x, .rf a) :: nm.filter fun p => p.1 != x) (ρ.new x a l) where
  own := by show _ :: ρ.own.filter _ = _; rw [h.own]
  nm := fun p hp => by
    cases hp with
    | head => exact if_pos rfl
    | tail _ hp =>
      have hp2 := List.mem_filter.mp hp
      have : p.1 ≠ x := by simpa using hp2.2
      exact (if_neg this).trans (h.nm p hp2.1)
theorem DI.put {own nm} {ρ : Rho} (h : DI own nm ρ) (x : Str) (l : List D) : DI (own.map fun p => if p.1 = x then (p.1, p.2.1, l) else p) nm (ρ.put x l) where
  own := by show ρ.own.map _ = _; rw [h.own]
  nm := h.nm
theorem DI.pick {own nm} {ρ : Rho} (h : DI own nm ρ) {own' : List (Str × Nat × List D)} {l : List (Str × D)} (e : own = own') (a : allGet nm l) : DI own' l ρ where
  own := h.own.trans e
  nm := fun p hp => h.get (List.map_inj_left.mp a p hp)
theorem DI.see {own nm} {ρ : Rho} (h : DI own nm ρ) {x : Str} {d : D} (e : own.find? (fun p => p.1 == x) = none) (g : nm.lookup x = some d) : ρ.see.nm x = some d :=
  (see_nm (by rw [h.own]; exact e)).trans (h.get g)
theorem DI.seeO {own nm} {ρ : Rho} (h : DI own nm ρ) {x : Str} {a : Nat} {l : List D} (e : own.find? (fun p => p.1 == x) = some (x, a, l)) : ρ.see.nm x = some (.list l) :=
  see_own (p := (x, a, l)) (by rw [h.own]; exact e)
theorem DI.mem {own nm} {ρ : Rho} (h : DI own nm ρ) {p : Str × Nat × List D} (e : p ∈ own) : p ∈ ρ.own := by rw [h.own]; exact e

theorem TInv.di {a : Nat} {pat : Str} {i : Int} {res : List D} {ρ : Rho} (h : TInv a pat i res ρ) : DI [(("res" : Str), a, res)] [(("add" : Str), .meth a), ("pat", .str pat), ("STAR", .star), ("QUESTION_MARK", .str "."), ("i", .int i), ("n", .int pat.length)] ρ where
  own := h.own
  nm := fun p hp => by
    simp at hp
    rcases hp with rfl | rfl | rfl | rfl | rfl | rfl
    · exact h.add
    · exact h.pt
    · exact h.star
    · exact h.qm
    · exact h.i
    · exact h.n

section
variable {prog : Program} {w : World} {B : Heap} {n : Nat} {sc : Scope} {ρ : Rho}
theorem px_forget {own : List (Str × Nat × List D)} {ss : List Stmt} {R : Post} (hs : own.Sublist ρ.own) (h : PX prog w B n sc { nm := ρ.nm, own := own } ss R) : PX prog w B n sc ρ ss R := fun A env E s X Q rm o f k => by
  have le : Rho.Le { nm := ρ.nm, own := own } ρ := ⟨fun _ _ e => e, fun p hp => hs.subset hp, fun d => d.sublist hs⟩
  exact px_weak (ρ' := ρ) le (fun p hp => (f.vs.own p (hs.subset hp)).2) h A env E s X Q rm o f k
end
end Mine
end

section
open PySem PySem.W PySem.Calls PyProof.Rows PySem.Builtin PySem.Builtin.Str
set_option Elab.async false
set_option linter.unusedVariables false
set_option linter.unusedSectionVars false
set_option maxRecDepth 10000
namespace Mine
variable [Star]

section
variable {prog : Program} {w : World} {B : Heap} {n : Nat} {sc : Scope} {ρ : Rho}

noncomputable abbrev pD : Str := "[a-c] b"
noncomputable def dOwn (a a2 : Nat) (res ch : List D) : List (Str × Nat × List D) := [(("chunks" : Str), a2, ch), (("res" : Str), a, res)]
noncomputable def dNm (a : Nat) (i : Int) : List (Str × D) := [("i", .int i), ("j", .int 4), ("add", .meth a), ("pat", .str pD), ("STAR", .star), ("QUESTION_MARK", .str "."), ("n", .int 7)]
theorem pe_to {e : Expr} {d d' : D} (q : d = d') (h : PE prog w B n sc ρ e d) : PE prog w B n sc ρ e d' := q ▸ h
theorem pe_addI {l r : Expr} {pos : Pos} {i j k : Int} (q : i + j = k) (hl : PE prog w B n sc ρ l (.int i)) (hr : PE prog w B n sc ρ r (.int j)) : PE prog w B n sc ρ (.BinOp l .Add r pos) (.int k) := q ▸ pe_binop hl hr bo_add_int
theorem brD : Br pD "a-c" "a-c" false 4 where
  len := by decide +kernel
  c0 := by decide +kernel
  c1 := ⟨97, by decide +kernel, by decide +kernel⟩
  c2 := ⟨97, by decide +kernel, by decide +kernel⟩
  mid := fun j h1 h2 => by
    have : j = 1 ∨ j = 2 ∨ j = 3 := by simp at h1; lia
    rcases this with rfl | rfl | rfl
    · exact ⟨97, by decide +kernel, by decide +kernel⟩
    · exact ⟨45, by decide +kernel, by decide +kernel⟩
    · exact ⟨99, by decide +kernel, by decide +kernel⟩
  fin := ⟨93, by decide +kernel, by decide +kernel⟩
  lt := by decide +kernel
  ge := by decide +kernel
  slice := by decide +kernel
  xl := by decide +kernel
  none := by decide +kernel
theorem stD : St "a-c" false where
  c0 := ⟨97, by decide +kernel, by decide +kernel, by decide +kernel⟩
  ne := by decide +kernel
  xl := by decide +kernel
  sl := by decide +kernel
  none := by decide +kernel

theorem px_brD {P C : Nat} (b : Bn B) (hlim : B.NoLimit) (hg : GlobRef B "_twin_re_1" P) (hp : PatAt B P C) (g : LamG B) {a : Nat} {res : List D} {ρ : Rho} (hr : res.length ≤ 1000) (h : TInv a pD 1 res ρ) :
    PX prog w B n (fsc 9) ρ brB { nx := TInv a pD 5 (res ++ [.str (brOut "a-c" false)]) } := by
  have hsl : sizeLine = 2 ^ 24 := by decide
  refine px_br0 brD h fun ρ1 h1 => ?_
  obtain ⟨h1, hj⟩ := h1
  change PX _ _ _ _ _ _ (_ :: _) _
  with_reducible refine px_assign (d := .str "a-c") (brD.slice ▸ pe_slice_str (x := pD) (lo := some 1) (hi := some ((4 : Nat) : Int)) (pe_name h1.pt) ?_ ?_ ?_) ?_ ?_ ?_ ?_ ?_
  · exact pe_name h1.i
  · exact pe_name hj
  · decide +kernel
  · exact .inl (by decide +kernel)
  · exact fun _ _ => rfl
  · decide +kernel
  · decide +kernel
  have h2 := h1.set7 (x := "stuff") (.str "a-c") (by decide +kernel)
  have hj2 : (ρ1.set "stuff" (.str "a-c")).nm "j" = some (.int (4 : Nat)) := (Rho.set_ne (by decide +kernel)).trans hj
  have hst : (ρ1.set "stuff" (.str "a-c")).nm "stuff" = some (.str "a-c") := Rho.set_eq
  generalize ρ1.set "stuff" (.str "a-c") = ρ2 at h2 hj2 hst ⊢
  change PX _ _ _ _ _ _ (_ :: _) _
  with_reducible refine px_if (b := false) (PT.to (pt_cmp (a := .str "-") (b := .str "a-c") pe_str (pe_name hst) bo_notin_str) ?_) ?_
  · decide +kernel
  have d2 : DI [(("res" : Str), a, res)] (("j", .int (4 : Nat)) :: [(("add" : Str), .meth a), ("pat", .str pD), ("STAR", .star), ("QUESTION_MARK", .str "."), ("i", .int 1), ("n", .int pD.length)]) ρ2 := ⟨h2.own, fun p hp => by
    cases hp with
    | head => exact hj2
    | tail _ hp => exact h2.di.nm p hp⟩
  change PX _ _ _ _ _ _ (_ :: _) _
  with_reducible refine px_new (ds := []) pes_nil ?_ ?_ ?_ fun a2 => ?_
  · exact .inl (by decide +kernel)
  · decide +kernel
  · decide +kernel
  have d3 := d2.new "chunks" a2 []
  generalize ρ2.new "chunks" a2 [] = ρ3 at d3 ⊢
  have d4 := d3.pick (own' := dOwn a a2 res []) (l := dNm a 1) rfl rfl
  change PX _ _ _ _ _ _ (_ :: _) _
  with_reducible refine px_assign (d := .int 2) (pe_if_f (pt_cmp (a := .str ⟨#[97]⟩) (b := .str "!") (c := false) (pe_item_str (x := pD) (i := 1) (c := 97) (pe_name (d4.get ?_)) (pe_name (d4.get ?_)) ?_ ?_) pe_str ?_) (pe_addI (i := 1) (j := 1) (by with_unfolding_all rfl) (pe_name (d4.get ?_)) pe_int)) ?_ ?_ ?_ ?_ ?_
  · exact rfl
  · exact rfl
  · decide +kernel
  · decide +kernel
  · exact BO.to bo_eq_str (by decide +kernel)
  · exact rfl
  · exact .inl (by decide +kernel)
  · exact fun _ _ => rfl
  · decide +kernel
  · decide +kernel
  have d5 := (d4.set "k" (.int 2)).pick (own' := dOwn a a2 res []) (l := ("k", .int 2) :: dNm a 1) rfl rfl
  generalize ρ3.set "k" (.int 2) = ρ4 at d5 ⊢
  change PX _ _ _ _ _ _ (_ :: _) _
  with_reducible refine px_while (P := DI (dOwn a a2 res [.str "a"]) (dNm a 3)) (fun m ρ' => (m = 1 ∧ DI (dOwn a a2 res []) (("k", .int 2) :: dNm a 1) ρ') ∨ (m = 0 ∧ DI (dOwn a a2 res [.str "a"]) (("k", .int 5) :: dNm a 3) ρ')) 1 (.inl ⟨rfl, d5⟩) (fun m ρ' hI => ?_) (fun ρ5 h5 => ?_)
  · refine ⟨true, pt_plain pe_bool to_bool, fun q => by (cases q), fun _ => ?_⟩
    rcases hI with ⟨rfl, hd⟩ | ⟨rfl, hd⟩
    · change PX _ _ _ _ _ _ (_ :: _) _
      with_reducible refine px_assign (d := .int 2) (pe_find4 (x := pD) (y := "-") (i := 2) (j := 4) (pe_name (hd.get ?_)) pe_str (pe_name (hd.get ?_)) (pe_name (hd.get ?_)) ?_) ?_ ?_ ?_ ?_ ?_
      · exact rfl
      · exact rfl
      · exact rfl
      · decide +kernel
      · exact .inl (by decide +kernel)
      · exact fun _ _ => rfl
      · decide +kernel
      · decide +kernel
      have e1 := (hd.set "k" (.int 2)).pick (own' := dOwn a a2 res []) (l := ("k", .int 2) :: dNm a 1) rfl rfl
      generalize ρ'.set "k" (.int 2) = ρ6 at e1 ⊢
      change PX _ _ _ _ _ _ (_ :: _) _
      with_reducible refine px_if (b := false) (PT.to (pt_cmp (a := .int 2) (b := .int 0) (pe_name (e1.get ?_)) pe_int bo_lt_int) ?_) ?_
      · exact rfl
      · decide +kernel
      change PX _ _ _ _ _ _ (_ :: _) _
      with_reducible refine px_append (a := a2) (l := []) (d := .str "a") (pe_to ?_ (pe_slice_str (x := pD) (lo := some 1) (hi := some 2) (pe_name (e1.get ?_)) ?_ ?_ ?_)) (e1.mem ?_) ?_ ?_
      · exact congrArg D.str (by decide +kernel)
      · exact rfl
      · exact pe_name (e1.get rfl)
      · exact pe_name (e1.get rfl)
      · decide +kernel
      · exact .head _
      · decide +kernel
      have e2 := (e1.put "chunks" ([] ++ [.str "a"])).pick (own' := dOwn a a2 res [.str "a"]) (l := ("k", .int 2) :: dNm a 1) rfl rfl
      generalize ρ6.put "chunks" ([] ++ [.str "a"]) = ρ7 at e2 ⊢
      change PX _ _ _ _ _ _ (_ :: _) _
      with_reducible refine px_assign (d := .int 3) (pe_addI (i := 2) (j := 1) (by with_unfolding_all rfl) (pe_name (e2.get ?_)) pe_int) ?_ ?_ ?_ ?_ ?_
      · exact rfl
      · exact .inl (by decide +kernel)
      · exact fun _ _ => rfl
      · decide +kernel
      · decide +kernel
      have e3 := (e2.set "i" (.int 3)).pick (own' := dOwn a a2 res [.str "a"]) (l := ("k", .int 2) :: dNm a 3) rfl rfl
      generalize ρ7.set "i" (.int 3) = ρ8 at e3 ⊢
      change PX _ _ _ _ _ _ (_ :: _) _
      with_reducible refine px_assign (d := .int 5) (pe_addI (i := 2) (j := 3) (by with_unfolding_all rfl) (pe_name (e3.get ?_)) pe_int) ?_ ?_ ?_ ?_ ?_
      · exact rfl
      · exact .inl (by decide +kernel)
      · exact fun _ _ => rfl
      · decide +kernel
      · decide +kernel
      have e4 := (e3.set "k" (.int 5)).pick (own' := dOwn a a2 res [.str "a"]) (l := ("k", .int 5) :: dNm a 3) rfl rfl
      conv => arg 7; whnf
      exact px_nil ⟨0, by (exact Nat.le_refl _), .inr ⟨rfl, e4⟩⟩
    · change PX _ _ _ _ _ _ (_ :: _) _
      with_reducible refine px_assign (d := .int (-1)) (pe_find4 (x := pD) (y := "-") (i := 5) (j := 4) (pe_name (hd.get ?_)) pe_str (pe_name (hd.get ?_)) (pe_name (hd.get ?_)) ?_) ?_ ?_ ?_ ?_ ?_
      · exact rfl
      · exact rfl
      · exact rfl
      · decide +kernel
      · exact .inl (by decide +kernel)
      · exact fun _ _ => rfl
      · decide +kernel
      · decide +kernel
      have e1 := (hd.set "k" (.int (-1))).pick (own' := dOwn a a2 res [.str "a"]) (l := ("k", .int (-1)) :: dNm a 3) rfl rfl
      generalize ρ'.set "k" (.int (-1)) = ρ6 at e1 ⊢
      change PX _ _ _ _ _ _ (_ :: _) _
      with_reducible refine px_if (b := true) (PT.to (pt_cmp (a := .int (-1)) (b := .int 0) (pe_name (e1.get ?_)) pe_int bo_lt_int) ?_) ?_
      · exact rfl
      · decide +kernel
      change PX _ _ _ _ _ _ (_ :: _) _
      exact px_brk (e1.pick (own' := dOwn a a2 res [.str "a"]) (l := dNm a 3) rfl rfl)
  · change PX _ _ _ _ _ _ (_ :: _) _
    with_reducible refine px_assign (d := .str "c") (pe_to ?_ (pe_slice_str (x := pD) (lo := some 3) (hi := some 4) (pe_name (h5.get ?_)) ?_ ?_ ?_)) ?_ ?_ ?_ ?_ ?_
    · exact congrArg D.str (by decide +kernel)
    · exact rfl
    · exact pe_name (h5.get rfl)
    · exact pe_name (h5.get rfl)
    · decide +kernel
    · exact .inl (by decide +kernel)
    · exact fun _ _ => rfl
    · decide +kernel
    · decide +kernel
    have e1 := (h5.set "chunk" (.str "c")).pick (own' := dOwn a a2 res [.str "a"]) (l := ("chunk", .str "c") :: dNm a 3) rfl rfl
    generalize ρ5.set "chunk" (.str "c") = ρ6 at e1 ⊢
    change PX _ _ _ _ _ _ (_ :: _) _
    with_reducible refine px_if (b := true) (PT.to (pt_plain (a := .str "c") (pe_name (e1.get ?_)) (to_str ?_)) ?_) ?_
    · exact rfl
    · decide +kernel
    · decide +kernel
    change PX _ _ _ _ _ _ (_ :: _) _
    with_reducible refine px_append (a := a2) (l := [.str "a"]) (d := .str "c") (pe_name (e1.get ?_)) (e1.mem ?_) ?_ ?_
    · exact rfl
    · exact .head _
    · decide +kernel
    have e2 := (e1.put "chunks" ([.str "a"] ++ [.str "c"])).pick (own' := dOwn a a2 res [.str "a", .str "c"]) (l := dNm a 3) rfl rfl
    generalize ρ6.put "chunks" ([.str "a"] ++ [.str "c"]) = ρ7 at e2 ⊢
    have hch : ∀ {ρ' : Rho}, DI (dOwn a a2 res [.str "a", .str "c"]) (dNm a 3) ρ' → ρ'.see.nm "chunks" = some (.list [.str "a", .str "c"]) := fun h => h.seeO (a := a2) (by rfl)
    change PX _ _ _ _ _ _ (_ :: _) _
    with_reducible refine px_for (ds := (List.range ((1 : Int) - 0).toNat).map fun (i : Nat) => .int (1 - i)) (P := DI (dOwn a a2 res [.str "a", .str "c"]) (dNm a 3)) (fun _ => DI (dOwn a a2 res [.str "a", .str "c"]) (dNm a 3)) (fun d ρ => ρ.set "k" d) (pw_range3 (lo := 1) (hi := 0) (st := -1) b.range ?_ (pe_see (pe_to ?_ (pe_binop (pe_b1 (a := .list [.str "a", .str "c"]) b.len ?_ (pe_name (hch e2)) uo_len_list) pe_int bo_sub_int)) ?_) pe_int (pe_neg pe_int) ?_ ?_ ?_) (fun d _ => as_name ?_ ?_ ?_) (fun i d ρ' hi hI => ?_) ?_ ?_ (fun ρ8 h8 => ?_)
    · decide +kernel
    · exact rfl
    · decide +kernel
    · exact rfl
    · decide
    · decide
    · rfl
    · exact .inl (by decide +kernel)
    · decide +kernel
    · decide +kernel
    · have hi0 : i = 0 := by
        have := (List.getElem?_eq_some_iff.mp hi).1
        rw [List.length_map, List.length_range] at this
        have e : ((1 : Int) - 0).toNat = 1 := rfl
        lia
      subst hi0
      have hd : d = .int 1 := by cases hi; rfl
      subst hd
      have e4 := (hI.set "k" (.int 1)).pick (own' := dOwn a a2 res [.str "a", .str "c"]) (l := ("k", .int 1) :: dNm a 3) rfl rfl
      generalize ρ'.set "k" (.int 1) = ρ9 at e4 ⊢
      have hs : ρ9.see.nm "chunks" = some (.list [.str "a", .str "c"]) := e4.seeO (a := a2) (by rfl)
      have hk : ρ9.see.nm "k" = some (.int 1) := e4.see (by rfl) (by rfl)
      with_reducible refine px_if (b := false) (PT.to (pt_see (pt_cmp (a := .str ⟨#[97]⟩) (b := .str ⟨#[99]⟩) (pe_item_str (x := "a") (i := -1) (c := 97) (pe_item_list (i := 0) (ds := [.str "a", .str "c"]) (d := .str "a") (pe_name hs) (pe_to ?_ (pe_binop (pe_name hk) pe_int bo_sub_int)) ?_) (pe_neg pe_int) ?_ ?_) (pe_item_str (x := "c") (i := 0) (c := 99) (pe_item_list (i := 1) (ds := [.str "a", .str "c"]) (d := .str "c") (pe_name hs) (pe_name hk) ?_) pe_int ?_ ?_) bo_gt_str)) ?_) ?_
      · exact rfl
      · exact rfl
      · decide +kernel
      · decide +kernel
      · exact rfl
      · decide +kernel
      · decide +kernel
      · decide +kernel
      conv => arg 7; whnf
      exact px_nil (e4.pick (own' := dOwn a a2 res [.str "a", .str "c"]) (l := dNm a 3) rfl rfl)
    · exact e2
    · exact fun ρ' h => h
    · change PX _ _ _ _ _ _ (_ :: _) _
      with_reducible refine px_assign (d := .str "a-c") (pe_see (pe_to ?_ (pe_joingen (texts := ["a", "c"]) ?_ hlim ?_ g ?_ ?_ ?_ ?_ ?_ ?_ ?_ ?_ ?_)) ?_) ?_ ?_ ?_ ?_ ?_
      · exact congrArg D.str (by decide +kernel)
      · exact hch h8
      · decide +kernel
      · rfl
      · intro x hx
        simp at hx
      · intro y hy
        simp at hy
        rcases hy with rfl | rfl <;> simp
      · decide +kernel
      · decide +kernel
      · rfl
      · intro cenv A' E' t u s₂ m₂ hce hA ht hn hm
        have ht' : t = "a" ∨ t = "c" := by simpa using ht
        refine el_replace0 (el_replace0 (el_name ?_ ?_ hn hm) ?_ ?_ ?_) ?_ ?_ ?_
        · rw [hce]
        · rw [hce]; decide +kernel
        · rcases ht' with rfl | rfl <;> decide +kernel
        · rfl
        · rfl
        · rcases ht' with rfl | rfl <;> decide +kernel
        · rfl
        · rfl
      · decide +kernel
      · decide +kernel
      · rfl
      · exact .inl (by decide +kernel)
      · exact fun _ _ => rfl
      · decide +kernel
      · decide +kernel
      have f1 := (h8.set "stuff" (.str "a-c")).pick (own' := dOwn a a2 res [.str "a", .str "c"]) (l := ("stuff", .str "a-c") :: dNm a 3) rfl rfl
      generalize ρ8.set "stuff" (.str "a-c") = ρ9 at f1 ⊢
      refine px_forget (own := [(("res" : Str), a, res)]) (by rw [f1.own]; exact .cons _ (.refl _)) ?_
      exact px_br2 (i := 3) (J := 4) hg hp g ⟨rfl, f1.get rfl, f1.get rfl, f1.get rfl, f1.get rfl, f1.get rfl, f1.get rfl⟩ (f1.get rfl) (f1.get rfl) hr stD
end
end Mine
end

section
open PySem PySem.W PySem.Calls PyProof.Rows PySem.Builtin PySem.Builtin.Str
set_option Elab.async false
set_option linter.unusedVariables false
set_option linter.unusedSectionVars false
set_option maxRecDepth 10000
namespace Mine
variable [Star]

section
variable {prog : Program} {w : World} {B : Heap} {n : Nat} {sc : Scope} {ρ : Rho}

theorem px_tbr {a : Nat} {pat : Str} {res : List D} {ρ : Rho} {i' : Int} {res' : List D} (h : TInv a pat 0 res ρ) (hp : pat.length ≤ 1000) (hc : atD pat.cps.toList 0 = some 91)
    (hb : ∀ ρ', TInv a pat 1 res ρ' → PX prog w B n (fsc 9) ρ' brB { nx := TInv a pat i' res' }) :
    PX prog w B n (fsc 9) ρ (forB (fb 9)[3]?) { nx := TInv a pat i' res' } := by
  change PX _ _ _ _ _ _ (_ :: _) _
  with_reducible refine px_assign (d := .str ⟨#[91]⟩) (pe_item_str (pe_name h.pt) (pe_name h.i) hc ?_) ?_ ?_ ?_ ?_ ?_
  · lia
  · exact .inl (by decide +kernel)
  · exact fun _ _ => rfl
  · decide +kernel
  · decide +kernel
  have h1 := h.set7 (x := "c") (.str ⟨#[91]⟩) (by decide +kernel)
  change PX _ _ _ _ _ _ (_ :: _) _
  with_reducible refine px_assign (d := .int 1) (pe_addI (i := 0) (j := 1) (by with_unfolding_all rfl) (pe_name h1.i) pe_int) ?_ ?_ ?_ ?_ ?_
  · exact .inl (by decide +kernel)
  · exact fun _ _ => rfl
  · decide +kernel
  · decide +kernel
  have h2 := h1.setI (j := 1)
  have hcn : ((ρ.set "c" (.str ⟨#[91]⟩)).set "i" (.int 1)).nm "c" = some (.str ⟨#[91]⟩) := (Rho.set_ne (by decide +kernel)).trans Rho.set_eq
  generalize (ρ.set "c" (.str ⟨#[91]⟩)).set "i" (.int 1) = ρ2 at h2 hcn ⊢
  change PX _ _ _ _ _ _ (_ :: _) _
  with_reducible refine px_if (b := false) (PT.to (pt_cmp (a := .str ⟨#[91]⟩) (b := .str "*") (pe_name hcn) pe_str bo_eq_str) ?_) ?_
  · decide +kernel
  change PX _ _ _ _ _ _ (_ :: _) _
  with_reducible refine px_if (b := false) (PT.to (pt_cmp (a := .str ⟨#[91]⟩) (b := .str "?") (pe_name hcn) pe_str bo_eq_str) ?_) ?_
  · decide +kernel
  change PX _ _ _ _ _ _ (_ :: _) _
  with_reducible refine px_if (b := true) (PT.to (pt_cmp (a := .str ⟨#[91]⟩) (b := .str "[") (pe_name hcn) pe_str bo_eq_str) ?_) ?_
  · decide +kernel
  exact hb ρ2 h2

theorem tstep_len (res : List D) (c : Nat) : (tstep res c).length ≤ res.length + 1 := by
  unfold tstep
  split
  · split
    · simp
    · (exact Nat.le_succ _)
  · split <;> simp
theorem tstep_ok {res : List D} (h : ∀ d ∈ res, PartOk d) (c : Nat) : ∀ d ∈ tstep res c, PartOk d := by
  unfold tstep
  intro d hd
  split at hd
  · split at hd
    · rcases List.mem_append.mp hd with q | q
      · exact h d q
      · simp at q; exact .inl q
    · exact h d hd
  · split at hd
    · rcases List.mem_append.mp hd with q | q
      · exact h d q
      · simp at q; exact .inr ⟨_, q⟩
    · rcases List.mem_append.mp hd with q | q
      · exact h d q
      · simp at q; exact .inr ⟨_, q⟩
theorem tfold_len : ∀ (l : List Nat) (res : List D), (l.foldl tstep res).length ≤ res.length + l.length
  | [], res => by simp
  | c :: r, res => by
    rw [List.foldl_cons, List.length_cons]
    have h1 := tfold_len r (tstep res c)
    have h2 := tstep_len res c
    lia
theorem tfold_ok : ∀ (l : List Nat) {res : List D}, (∀ d ∈ res, PartOk d) → ∀ d ∈ l.foldl tstep res, PartOk d
  | [], _, h => h
  | c :: r, _, h => tfold_ok r (tstep_ok h c)

noncomputable def plainC (c : Nat) : Bool := c == 42 || c == 63 || [32, 92, 97, 98, 101, 103, 114, 34].contains c

theorem px_translate (bn : Bn B) {ae : Nat} (he : GlobFn B "escape" ae) (fe : ∀ c ∈ [32, 92, 97, 98, 101, 103, 114, 34], FA prog w B n ae [.str ⟨#[c]⟩] (.str (escS c))) {pat : Str} (hp : pat.length ≤ 100) {i0 : Nat} {res0 : List D} (hi0 : i0 ≤ pat.length) (hr0 : res0.length ≤ 100) (ok0 : ∀ d ∈ res0, PartOk d)
    (hpl : ((pat.cps.toList.drop i0).all plainC) = true) (hfirst : (i0 = 0 ∧ res0 = []) ∨ (0 < pat.length ∧ ∀ a ρ, TInv a pat 0 [] ρ → PX prog w B n (fsc 9) ρ (forB (fb 9)[3]?) { nx := TInv a pat i0 res0 })) :
    PX prog w B n (fsc 9) (rho [("pat", .str pat), ("STAR", .star), ("QUESTION_MARK", .str ".")]) (fb 9) { nx := fun _ => False, rt := (· = .list ((pat.cps.toList.drop i0).foldl tstep res0)) } := by
  have hlen : pat.cps.toList.length = pat.length := by show _ = pat.cps.size; simp
  unfold fb stm
  change PX _ _ _ _ _ _ (_ :: _) _
  with_reducible refine px_new (ds := []) pes_nil ?_ ?_ ?_ fun a => ?_
  · exact .inl (by decide +kernel)
  · decide +kernel
  · decide +kernel
  change PX _ _ _ _ _ _ (_ :: _) _
  with_reducible refine px_meth (x := "res") (y := "add") (l := []) (a := a) ?_ ?_ ?_ ?_ ?_
  · exact .head _
  · exact .inl (by decide +kernel)
  · decide +kernel
  · decide +kernel
  change PX _ _ _ _ _ _ (_ :: _) _
  with_reducible refine px_tassign2 (d1 := .int 0) (d2 := .int pat.length) (pe_tuple (pes_cons pe_int (pes_cons (pe_b1 (a := .str pat) bn.len ?_ (pe_name ?_) (uo_len_str ?_)) pes_nil))) ?_ ?_ ?_ ?_ ?_ ?_ ?_ ?_
  · decide +kernel
  · exact rfl
  · lia
  · decide +kernel
  · decide +kernel
  · intro env o
    obtain ⟨scope, a1, a2, a3, a4, a5, a6, a7⟩ := env
    have e : scope = fsc 9 := o.iss
    subst e
    with_unfolding_all rfl
  · decide +kernel
  · decide +kernel
  · decide +kernel
  · decide +kernel
  have hT0 : TInv a pat 0 [] (((((rho [("pat", .str pat), ("STAR", .star), ("QUESTION_MARK", .str ".")]).new "res" a []).set "add" (.meth a)).set "n" (.int pat.length)).set "i" (.int 0)) := ⟨rfl, rfl, rfl, rfl, rfl, rfl, rfl⟩
  generalize ((((rho [("pat", .str pat), ("STAR", .star), ("QUESTION_MARK", .str ".")]).new "res" a []).set "add" (.meth a)).set "n" (.int pat.length)).set "i" (.int 0) = ρ0 at hT0 ⊢
  change PX _ _ _ _ _ _ (_ :: _) _
  let fo : Nat → List D := fun i => ((pat.cps.toList.drop i0).take (i - i0)).foldl tstep res0
  have h00 : fo i0 = res0 := by show ((pat.cps.toList.drop i0).take (i0 - i0)).foldl tstep res0 = _; simp
  have hInv0 : ∃ N, ((N = pat.length + 1 ∧ 0 < pat.length ∧ (∀ a ρ, TInv a pat 0 [] ρ → PX prog w B n (fsc 9) ρ (forB (fb 9)[3]?) { nx := TInv a pat i0 res0 }) ∧ TInv a pat 0 [] ρ0) ∨ ∃ i : Nat, i0 ≤ i ∧ i + N = pat.length ∧ TInv a pat i (fo i) ρ0) := by
    rcases hfirst with ⟨e1, e2⟩ | h
    · subst e1; subst e2
      exact ⟨pat.length, .inr ⟨0, Nat.le_refl _, by lia, h00.symm ▸ hT0⟩⟩
    · exact ⟨_, .inl ⟨rfl, h.1, h.2, hT0⟩⟩
  obtain ⟨N, hInv0⟩ := hInv0
  with_reducible refine px_while (P := TInv a pat pat.length ((pat.cps.toList.drop i0).foldl tstep res0)) (fun k ρ' => (k = pat.length + 1 ∧ 0 < pat.length ∧ (∀ a ρ, TInv a pat 0 [] ρ → PX prog w B n (fsc 9) ρ (forB (fb 9)[3]?) { nx := TInv a pat i0 res0 }) ∧ TInv a pat 0 [] ρ') ∨ ∃ i : Nat, i0 ≤ i ∧ i + k = pat.length ∧ TInv a pat i (fo i) ρ') N hInv0 (fun k ρ' hI => ?_) (fun ρ1 h1 => ?_)
  · rcases hI with ⟨hk, hpos, hbr, hT⟩ | ⟨i, g1, g2, hT⟩
    · refine ⟨true, PT.to (pt_cmp (pe_name hT.i) (pe_name hT.n) bo_lt_int) (by simp; assumption), fun q => by (cases q), fun _ => ?_⟩
      refine PX.mono (hbr a ρ' hT) (fun ρ'' h'' => ?_) (fun _ h => h.elim) (fun _ h => h.elim) (fun _ h => h.elim)
      exact ⟨pat.length - i0, by grind, .inr ⟨i0, Nat.le_refl _, by grind, h00.symm ▸ h''⟩⟩
    · by_cases hlt : i < pat.length
      · refine ⟨true, PT.to (pt_cmp (pe_name hT.i) (pe_name hT.n) bo_lt_int) (by simp; assumption), fun q => by (cases q), fun _ => ?_⟩
        obtain ⟨c, hc⟩ : ∃ c, pat.cps.toList[i]? = some c := ⟨_, List.getElem?_eq_getElem (by assumption)⟩
        have hcd : (pat.cps.toList.drop i0)[i - i0]? = some c := by rw [List.getElem?_drop]; rw [show i0 + (i - i0) = i by grind]; exact hc
        have hcp : plainC c = true := List.all_eq_true.mp hpl c (List.mem_of_getElem? hcd)
        have hfo : fo (i + 1) = tstep (fo i) c := by
          show ((pat.cps.toList.drop i0).take (i + 1 - i0)).foldl tstep res0 = _
          rw [show i + 1 - i0 = (i - i0) + 1 by grind, take_succ_eq hcd, List.foldl_append]; rfl
        have hfl := tfold_len ((pat.cps.toList.drop i0).take (i - i0)) res0
        have htl : ((pat.cps.toList.drop i0).take (i - i0)).length ≤ 100 := by rw [List.length_take]; grind
        have key := px_tbody (prog := prog) (w := w) (B := B) (n := n) he fe (c := c) hT (by lia) (by show (((pat.cps.toList.drop i0).take (i - i0)).foldl tstep res0).length ≤ 1000; lia) (tfold_ok _ ok0) (by unfold atD; rw [if_pos (by lia)]; exact hc) (by
          unfold plainC at hcp
          simp only [Bool.or_eq_true, beq_iff_eq] at hcp
          rcases hcp with (h | h) | h
          · exact .inl h
          · exact .inr (.inl h)
          · exact .inr (.inr (by simpa using h)))
        rw [← hfo] at key
        refine PX.mono key (fun ρ'' h'' => ?_) (fun _ h => h.elim) (fun _ h => h.elim) (fun _ h => h.elim)
        exact ⟨k - 1, by lia, .inr ⟨i + 1, by lia, by lia, h''⟩⟩
      · have hi : i = pat.length := by lia
        subst hi
        refine ⟨false, PT.to (pt_cmp (pe_name hT.i) (pe_name hT.n) bo_lt_int) (by simp), fun _ => ?_, fun q => by (cases q)⟩
        have e : fo pat.length = (pat.cps.toList.drop i0).foldl tstep res0 := by
          show ((pat.cps.toList.drop i0).take (pat.length - i0)).foldl tstep res0 = _
          rw [List.take_of_length_le (by rw [List.length_drop, hlen]; (exact Nat.le_refl _))]
        rw [← e]
        exact hT
  · change PX _ _ _ _ _ _ (_ :: _) _
    with_reducible refine px_assert (PT.to (pt_cmp (pe_name h1.i) (pe_name h1.n) bo_eq_int) ?_) ?_
    · simp
    change PX _ _ _ _ _ _ (_ :: _) _
    with_reducible refine px_return_see (d := .list ((pat.cps.toList.drop i0).foldl tstep res0)) (pe_name ?_) rfl
    exact see_own (p := (("res" : Str), a, (pat.cps.toList.drop i0).foldl tstep res0)) (by rw [h1.own]; rfl)
end
end Mine
end

section
open PySem PySem.W PySem.Calls PyProof.Rows
set_option Elab.async false
set_option linter.unusedVariables false
set_option linter.unusedSectionVars false
set_option maxRecDepth 10000
namespace Mine

mutual
noncomputable def sfree : D → Bool
  | .star => false
  | .list l => sfrees l
  | .tup l => sfrees l
  | _ => true
noncomputable def sfrees : List D → Bool
  | [] => true
  | a :: l => sfree a && sfrees l
end

noncomputable abbrev stAt (p : Nat) : Star := ⟨⟨p⟩⟩

mutual
theorem Tl.re {i1 i2 : Nat} {h : Heap} {X : Nat → Prop} : ∀ {d : D} {v : Value}, @Tl (stAt i1) h X v d → sfree d = true → @Tl (stAt i2) h X v d
  | .none, v, t, _ => by cases t using Tl.noneE; exact @Tl.none (stAt i2) _ _
  | .bool b, v, t, _ => by cases t using Tl.boolE; exact @Tl.bool (stAt i2) _ _ b
  | .int i, v, t, _ => by cases t using Tl.intE; exact @Tl.int (stAt i2) _ _ i _
  | .str s, v, t, _ => by cases t using Tl.strE; exact @Tl.str (stAt i2) _ _ s _
  | .rf a, v, t, _ => by cases t using Tl.rfE; exact @Tl.rf (stAt i2) _ _ a
  | .star, v, t, q => by cases q
  | .ob a l, v, t, _ => by cases t using Tl.obE with | ob p => exact @Tl.ob (stAt i2) _ _ _ _ p
  | .ty T, v, t, _ => by cases t using Tl.tyE; exact @Tl.ty (stAt i2) _ _ T
  | .meth a, v, t, _ => by cases t using Tl.methE with | meth p n => exact @Tl.meth (stAt i2) _ _ _ _ p n
  | .list l, v, t, q => by cases t using Tl.listE with | list p n z t => exact @Tl.list (stAt i2) _ _ _ _ _ p n z (Tls.re t (by simpa [sfree] using q))
  | .tup l, v, t, q => by cases t using Tl.tupE with | tup p n z t => exact @Tl.tup (stAt i2) _ _ _ _ _ p n z (Tls.re t (by simpa [sfree] using q))
theorem Tls.re {i1 i2 : Nat} {h : Heap} {X : Nat → Prop} : ∀ {ds : List D} {vs : List Value}, @Tls (stAt i1) h X vs ds → sfrees ds = true → @Tls (stAt i2) h X vs ds
  | [], _, t, _ => by cases t using Tls.nilE; exact @Tls.nil (stAt i2) _ _
  | d :: ds, _, t, q => by
    cases t using Tls.consE with
    | cons a b => exact @Tls.cons (stAt i2) _ _ _ _ _ _ (Tl.re a (by simp [sfrees] at q; exact q.1)) (Tls.re b (by simp [sfrees] at q; exact q.2))
end

theorem Fs.re {i1 i2 : Nat} {B : Heap} {env : Env} {X : Nat → Prop} {s : Shared} {ρ : Rho} (f : @Fs (stAt i1) B env X s ρ) (hρ : ∀ x d, ρ.nm x = some d → sfree d = true) (ho : ρ.own = []) : @Fs (stAt i2) B env X s ρ := by
  obtain ⟨a1, ⟨vn, vo⟩, a3, a4, a5, a6, a7, a8⟩ := f
  refine @Fs.mk (stAt i2) _ _ _ _ _ a1 (@Vs.mk (stAt i2) _ _ _ _ (fun x d e => ?_) fun p hp => by rw [ho] at hp; cases hp) a3 a4 a5 a6 a7 a8
  obtain ⟨a, b⟩ := vn x d e
  refine ⟨?_, b⟩
  rcases a with ⟨a1, a2, m, u, a3, a4, a5⟩ | ⟨c, u, a1, a2, a3, a4, a5⟩
  · exact .inl ⟨a1, a2, m, u, a3, a4, Tl.re a5 (hρ x d e)⟩
  · exact .inr ⟨c, u, a1, a2, a3, a4, Tl.re a5 (hρ x d e)⟩

section
variable {prog : Program} {w : World} {B : Heap} {n : Nat} {sc : Scope}

theorem px_star [i1 : Star] {ρ : Rho} (hρ : ∀ x d, ρ.nm x = some d → sfree d = true) (ho : ρ.own = []) {rest : List Stmt} {P : D → Prop} (hR : ∀ d, P d → sfree d = true) {x y : Str} {k k2 k3 : Nat} {p1 p2 p3 tp vp lp1 lp2 pos : Pos} (hx : sc.names.lookup x = some .local) (hy : sc.names.lookup y = some .local) (hxy : (y == x) = false)
    (hxd : (x == ("__debug__" : Str)) = false) (hxc : (x == ("__classdict__" : Str)) = false) (hyd : (y == ("__debug__" : Str)) = false) (hyc : (y == ("__classdict__" : Str)) = false)
    (hw : ∀ env, Eo sc env → swappedStores [.Tuple [.Name x p1, .Name y p2] k tp] (.Tuple [.List [.Constant (.str "*") k3 p3] lp1, .List [] lp2] k2 vp) env = pure (some [x, y]))
    (h2 : ∀ (i2 T : Nat), @PX (stAt i2) prog w B n sc ((ρ.new y T []).set x .star) rest { nx := fun _ => False, rt := P }) :
    @PX i1 prog w B n sc ρ (.Assign [.Tuple [.Name x p1, .Name y p2] k tp] (.Tuple [.List [.Constant (.str "*") k3 p3] lp1, .List [] lp2] k2 vp) pos :: rest) { nx := fun _ => False, rt := P } := fun A env E s X Q rm o f kk => by
  refine wpAny_execs_cons (Assign_Tuple_swapped (names := [x, y]) ?_ rfl (hw env o))
  refine Tuple_ (spliced_more (List_ (pes_cons (pe_str (x := "*")) pes_nil (fun _ => rfl) A env lp1 E s X _ rm o f.cx f.vs fun vs s1 k1 t1 => wpAny_newObj_type ?_ ?_)) rfl)
  rotate_left
  · have hl := t1.length
    show vs.toArray.size ≤ sizeLine
    rw [List.size_toArray, sizeLine_eq]; simp at hl; lia
  refine spliced_more (List_ (wpAny_pure (wpAny_newObj_type ?_ (by show (0 : Nat) ≤ sizeLine; (exact Nat.zero_le _))))) rfl
  show wpAny _ _ (pure []) _ _ _
  refine wpAny_pure (wpAny_newObj_type ?_ (by show (2 : Nat) ≤ sizeLine; rw [sizeLine_eq]; decide))
  obtain ⟨v1, rfl⟩ : ∃ tk, vs = [.str "*" tk] := by
    cases t1 using Tls.consE with
    | cons a b => cases b using Tls.nilE; cases a using Tl.strE; exact ⟨_, rfl⟩
  have f1 := k1.fs f
  have c1 := f1.cx
  have hX : ∀ b, X b → b < s.heap.objs.size := f.cx.xlt
  have hs1 : s.heap.objs.size ≤ s1.heap.objs.size := k1.sz
  generalize hS : s1.heap.objs.size = S at hs1 ⊢
  have e0 : (s1.heap.push { cls := .type "list", data := .seq [Value.str "*" v1].toArray }).get? S = some { cls := .type "list", data := .seq [Value.str "*" v1].toArray } := by rw [← hS]; exact Heap.get?_push_size _ rfl
  have z0 : (s1.heap.push { cls := .type "list", data := .seq [Value.str "*" v1].toArray }).objs.size = S + 1 := by rw [Heap.size_push, hS]
  have p0 : ∀ b ob, s1.heap.get? b = some ob → (s1.heap.push { cls := .type "list", data := .seq [Value.str "*" v1].toArray }).get? b = some ob := fun b ob e => Heap.get?_push_of_some _ e
  show wpAny _ _ (unpackItems (.ref ((s1.heap.push { cls := .type "list", data := .seq [Value.str "*" v1].toArray }).push { cls := .type "list", data := .seq ([] : List Value).toArray }).objs.size) 2 none) _ _
    { s1 with heap := ((s1.heap.push { cls := .type "list", data := .seq [Value.str "*" v1].toArray }).push { cls := .type "list", data := .seq ([] : List Value).toArray }).push { cls := .type "tuple", data := .seq [Value.ref S, Value.ref (s1.heap.push { cls := .type "list", data := .seq [Value.str "*" v1].toArray }).objs.size].toArray } }
  generalize (s1.heap.push { cls := .type "list", data := .seq [Value.str "*" v1].toArray }) = H1 at e0 z0 p0 ⊢
  rw [z0]
  have e1 : (H1.push { cls := .type "list", data := .seq ([] : List Value).toArray }).get? (S + 1) = some { cls := .type "list", data := .seq ([] : List Value).toArray } := by rw [← z0]; exact Heap.get?_push_size _ rfl
  have z1 : (H1.push { cls := .type "list", data := .seq ([] : List Value).toArray }).objs.size = S + 2 := by rw [Heap.size_push, z0]
  have p1 : ∀ b ob, H1.get? b = some ob → (H1.push { cls := .type "list", data := .seq ([] : List Value).toArray }).get? b = some ob := fun b ob e => Heap.get?_push_of_some _ e
  generalize (H1.push { cls := .type "list", data := .seq ([] : List Value).toArray }) = H2 at e1 z1 p1 ⊢
  rw [z1]
  have e2 : (H2.push { cls := .type "tuple", data := .seq [Value.ref S, Value.ref (S + 1)].toArray }).get? (S + 2) = some { cls := .type "tuple", data := .seq [Value.ref S, Value.ref (S + 1)].toArray } := by rw [← z1]; exact Heap.get?_push_size _ rfl
  have z2 : (H2.push { cls := .type "tuple", data := .seq [Value.ref S, Value.ref (S + 1)].toArray }).objs.size = S + 3 := by rw [Heap.size_push, z1]
  have p2 : ∀ b ob, H2.get? b = some ob → (H2.push { cls := .type "tuple", data := .seq [Value.ref S, Value.ref (S + 1)].toArray }).get? b = some ob := fun b ob e => Heap.get?_push_of_some _ e
  generalize (H2.push { cls := .type "tuple", data := .seq [Value.ref S, Value.ref (S + 1)].toArray }) = H3 at e2 z2 p2 ⊢
  have up : ∀ b ob, s1.heap.get? b = some ob → H3.get? b = some ob := fun b ob e => p2 b ob (p1 b ob (p0 b ob e))
  have f1' : @Fs (stAt S) B env X s1 ρ := @Fs.re i1.default.n S B env X s1 ρ f1 hρ ho
  have hXS : ∀ b, X b → b < S := fun b hb => Nat.lt_of_lt_of_le (hX b hb) hs1
  have c3 : Cx B (fun b => X b ∨ b = S + 1) { s1 with heap := H3 } := c1.more (s' := { s1 with heap := H3 }) (fun b q => .inl q) (fun b q => q.imp_right fun q => by rw [q, hS]; (exact Nat.le_succ _)) (fun b q => by
    show b < H3.objs.size
    rw [z2]
    rcases q with q | q
    · have := hXS b q; lia
    · lia) up rfl
  have f3 : @Fs (stAt S) B env (fun b => X b ∨ b = S + 1) { s1 with heap := H3 } ρ := @Fs.up (stAt S) B ρ env X (fun b => X b ∨ b = S + 1) s1 { s1 with heap := H3 } f1' (fun b ob _ e => up b ob e) c3 (fun _ h => .inl h) (fun b q => q.imp_right fun (q : b = S + 1) => by rw [q, hS]; (exact Nat.le_succ _))
  have nS : ¬ (X S ∨ S = S + 1) := fun q => q.elim (fun q => by have := hXS _ q; lia) (fun q => by lia)
  have nU : ¬ (X (S + 2) ∨ S + 2 = S + 1) := fun q => q.elim (fun q => by have := hXS _ q; lia) (fun q => by lia)
  have tt : @Tl (stAt S) H3 (fun b => X b ∨ b = S + 1) (.ref (S + 2)) (.tup [.star, .rf (S + 1)]) :=
    @Tl.tup (stAt S) _ _ _ [Value.ref S, Value.ref (S + 1)] _ ⟨_, e2, rfl, 0, rfl⟩ nU (by simp) (@Tls.cons (stAt S) _ _ _ _ _ _ (@Tl.star (stAt S) _ _ v1 ⟨0, p2 _ _ (p1 _ _ e0)⟩ nS) (@Tls.cons (stAt S) _ _ _ _ _ _ (@Tl.rf (stAt S) _ _ (S + 1)) (@Tls.nil (stAt S) _ _)))
  refine @unpack_seq (stAt S) prog w B A E { s1 with heap := H3 } (fun b => X b ∨ b = S + 1) _ (.ref (S + 2)) [.star, .rf (S + 1)] 2 rm.hand c3 (.inr tt) rfl fun us s4 kb ts => ?_
  cases ts using Tls.consE with
  | cons ta tb =>
  cases tb using Tls.consE with
  | cons tb tn =>
  cases tn using Tls.nilE
  rename_i u1 u2
  have f4 := @Ks.fs (stAt S) B env _ _ _ ρ kb f3
  show wpAny _ _ (do holding [u1] (bindName env y u2); do holding [] (bindName env x u1); pure ()) _ _ _
  refine wpAny_bind (wpAny_holding (wpAny_bindName (@store_name (stAt S) prog w B sc ρ A env E s4 _ _ y u2 _ o f4 (.inl hy) tb hyd hyc fun s5 f5 t5 => ?_)))
  have ta5 : @Tl (stAt S) s5.heap (fun b => X b ∨ b = S + 1) u1 .star := @Tl.move (stAt S) _ _ _ _ (fun b ob nb e => t5.kp b ob (fun m => nb (@Mut.inX (stAt S) B ρ env _ _ f4 b m)) (fun z => nb (z ▸ .inl f.cx.tb)) e) (fun _ q => .inl q) _ _ ta
  refine wpAny_bind (wpAny_holding (wpAny_bindName (@store_name (stAt S) prog w B sc (ρ.set y (.rf (S + 1))) A env E s5 _ _ x u1 _ o f5 (.inl hx) ta5 hxd hxc fun s6 f6 t6 => wpAny_pure ?_)))
  have nM : ∀ d, ¬ Mut env (ρ.set y d) (S + 1) ∧ ¬ Mut env ρ (S + 1) := fun d => by
    have key : ∀ ρ' : Rho, ρ'.own = [] → ¬ Mut env ρ' (S + 1) := fun ρ' hr m => by
      rcases m with m | ⟨z, e⟩ | ⟨p, hp, _⟩
      · have := hXS _ f.lx; lia
      · have := hXS _ (f.cel z _ e).1; lia
      · rw [hr] at hp; cases hp
    exact ⟨key _ (by show ρ.own.filter _ = []; rw [ho]; rfl), key _ ho⟩
  have nT : S + 1 ≠ Mine.tb := nen (by have := hXS _ f.cx.tb; lia)
  have hT6 : s6.heap.PlainList (S + 1) #[] := ⟨0, t6.kp _ _ (nM _).1 nT (t5.kp _ _ (nM (.rf (S + 1))).2 nT (kb.kp _ _ nT (p2 _ _ e1)))⟩
  have hown : ((ρ.new y (S + 1) []).set x .star).own = [(y, S + 1, [])] := by
    have : (y != x) = true := by simp [bne, hxy]
    simp [Rho.set, Rho.new, ho, this]
  have f7 : @Fs (stAt S) B env (fun b => X b ∨ b = S + 1) s6 ((ρ.new y (S + 1) []).set x .star) :=
    by
    obtain ⟨g1, ⟨gn, _⟩, g3, g4, g5, g6, g7, _⟩ := f6
    refine @Fs.mk (stAt S) _ _ _ _ _ g1 (@Vs.mk (stAt S) _ _ _ _ gn fun p hp => ?_) g3 g4 g5 g6 g7 (by rw [hown]; simp)
    · (
        rw [hown] at hp
        simp at hp
        subst hp
        refine ⟨⟨.inr rfl, nT, [], hT6, by simp, @Tls.nil (stAt S) _ _⟩, ?_⟩
        show (if y = x then _ else if y = y then _ else _) = _
        rw [if_neg (by simpa using hxy), if_pos rfl])
  have tn3 : Tn (Mut env ρ) s { s1 with heap := H3 } := k1.tn.trans (M' := fun _ => False) (s'' := { s1 with heap := H3 }) ⟨rfl, rfl, fun b ob _ _ e => up b ob e, by show s1.heap.objs.size ≤ H3.objs.size; rw [z2, hS]; (exact Nat.le_add_right _ _)⟩ fun _ h => h.elim
  have tn4 : Tn (Mut env ρ) s s4 := tn3.trans kb.tn fun b m => .inl m
  have tn5 := tn4.trans t5 fun b m => .inl m
  have tn6 : Tn (Mut env ρ) s s6 := tn5.trans t6 fun b m => (Mut.le (Rho.set_own (x := y) (d := .rf (S + 1)) s) m)
  have hT0 : s.heap.objs.size ≤ S + 1 := by lia
  refine h2 S (S + 1) A env E s6 _ Q rm o f7 fun fl s7 X7 t7 x1 x2 ok => kk fl s7 X7 (tn6.trans t7 fun b m => ?_) (fun b hb => x1 b (.inl hb)) (fun b hb => ?_) ?_
  · rcases m with m | m | ⟨p, hp, e⟩
    · exact .inl (.inl m)
    · exact .inl (.inr (.inl m))
    · rw [hown] at hp
      simp at hp
      subst hp
      exact .inr (by rw [← e]; exact hT0)
  · rcases x2 b hb with (q | q) | q
    · exact .inl q
    · exact .inr (by rw [q]; exact hT0)
    · exact .inr (Nat.le_trans tn6.sz q)
  · cases fl with
    | next => obtain ⟨_, q, _⟩ := ok; exact q.elim
    | cont => obtain ⟨_, q, _⟩ := ok; exact q.elim
    | brk => obtain ⟨_, q, _⟩ := ok; exact q.elim
    | ret v =>
      obtain ⟨d, Y, q1, q2, q3, q4, q5⟩ := ok
      refine ⟨d, Y, q1, @Tl.re S i1.default.n _ _ _ _ q2 (hR d q1), q3, q4, fun b hb => ?_⟩
      rcases q5 b (.inl hb) with ⟨p, hp, e⟩ | z
      · rw [hown] at hp
        simp at hp
        subst hp
        have := hX b hb
        rw [← e] at this
        have : S + 1 < s.heap.objs.size := this
        grind
      · exact .inr z
end
end Mine
end

section
open PySem PySem.W PySem.Calls PyProof.Rows
set_option Elab.async false
set_option linter.unusedVariables false
set_option linter.unusedSectionVars false
set_option maxRecDepth 10000
namespace Mine
variable [Star]

section
variable {prog : Program} {w : World} {B : Heap} {n : Nat} {sc : Scope} {ρ : Rho}

theorem pe_starL {e : Expr} (h : PE prog w B n sc ρ e .star) : PE prog w B n sc ρ e (.list [.str "*"]) := fun A env E s X Q r o c v k =>
  h A env E s X Q r o c v fun u s1 k1 t1 => k u s1 k1 (by
    cases t1 using Tl.starE with
    | star p nx => exact .list (vs := [_]) p nx (by simp) (.cons (.str _ _) .nil))

noncomputable def chrD : D → D
  | .int i => .str ⟨#[i.toNat]⟩
  | d => d
noncomputable def x0S (x : Str) : Str := ⟨#[(x.cps[0]?).getD 0]⟩
noncomputable def xlS (x : Str) : Str := ⟨#[(x.cps[x.cps.size - 1]?).getD 0]⟩
noncomputable def barS (x : Str) : Bool := (Txt.slice x (some 1) (some 2) == "^") && (x0S x == "[")
noncomputable def bodyS (x : Str) : Str := Txt.slice x (some (if barS x then 2 else 1)) (some (-1))
noncomputable def plainS (x : Str) : Bool := Txt.slice (bodyS x) (some 1) (some 2) != "-"
noncomputable def someS (x : Str) : Str := if plainS x then bodyS x else "abc"
noncomputable def thingS (x : Str) : It := if x == "." then soI else if x0S x == "[" then (x, someS x, barS x) else (x, xlS x, false)
noncomputable def thingD : D → D
  | .star => itD stI
  | .str x => itD (thingS x)
  | d => d

theorem atD0 {x : Str} (h : 0 < x.length) : atD x.cps.toList 0 = some ((x.cps[0]?).getD 0) := by
  have h' : 0 < x.cps.size := h
  unfold atD
  rw [if_pos (by decide)]
  simp [h']
theorem atDl {x : Str} (h : 0 < x.length) : atD x.cps.toList (-1) = some ((x.cps[x.cps.size - 1]?).getD 0) := by
  have h' : 0 < x.cps.size := h
  unfold atD
  rw [if_neg (by decide), if_pos (by simp; lia)]
  have e : ((-1 : Int) + (x.cps.toList.length : Int)).toNat = x.cps.size - 1 := neg1 _
  rw [e]
  have h2 : x.cps.size - 1 < x.cps.size := Nat.sub_lt h' Nat.one_pos
  simp [h2]

theorem px_thS (bn : Bn B) (hord : GlobBlt B "ord" (.builtin "ord")) (hchr : GlobBlt B "chr" (.builtin "chr")) {a : Nat} {acc : List D} {ρ : Rho} {x : Str} (h : DI [(("things" : Str), a, acc)] [("part", .str x), ("star", .star)] ρ) (hx0 : 0 < x.length) (hxl : x.length ≤ 100) (hacc : acc.length ≤ 1000) (hp : plainS x = true ∨ bodyS x = "a-c") :
    PX prog w B n (fsc 33) ρ (forB (fb 33)[1]?) { nx := DI [(("things" : Str), a, acc ++ [itD (thingS x)])] [("star", .star)] } := by
  have hsl : sizeLine = 2 ^ 24 := by decide
  change PX _ _ _ _ _ _ (_ :: _) _
  with_reducible refine px_assign (d := .bool (barS x)) (pe_and_bool (pe_cmp (a := .str (Txt.slice x (some 1) (some 2))) (b := .str "^") (pe_slice_str (x := x) (lo := some 1) (hi := some 2) (pe_name (h.get ?_)) ?_ ?_ ?_) pe_str bo_eq_str) (pe_and_one (pe_cmp (a := .str (x0S x)) (b := .str "[") (pe_item_str (x := x) (i := 0) (pe_name (h.get ?_)) pe_int (atD0 hx0) ?_) pe_str bo_eq_str))) ?_ ?_ ?_ ?_ ?_
  · exact rfl
  · exact pe_int
  · exact pe_int
  · lia
  · exact rfl
  · lia
  · exact .inl (by decide +kernel)
  · exact fun _ _ => rfl
  · decide +kernel
  · decide +kernel
  have h1 := (h.set "barred" (.bool (barS x))).pick (own' := [(("things" : Str), a, acc)]) (l := [("barred", .bool (barS x)), ("part", .str x), ("star", .star)]) rfl rfl
  generalize ρ.set "barred" (.bool (barS x)) = ρ1 at h1 ⊢
  change PX _ _ _ _ _ _ (_ :: _) _
  have hbl : (bodyS x).length ≤ 100 := Nat.le_trans (Txt.slice_le _ _ _) hxl
  with_reducible refine px_assign (d := .str (bodyS x)) (pe_slice_str (x := x) (lo := some (if barS x then 2 else 1)) (hi := some (-1)) (pe_name (h1.get ?_)) ?_ ?_ ?_) ?_ ?_ ?_ ?_ ?_
  · exact rfl
  · show PE _ _ _ _ _ _ _ (.int (if barS x then 2 else 1))
    refine pe_if' (q := barS x) (pt_plain (pe_name (x := "barred") (h1.get (x := "barred") (d := .bool (barS x)) rfl)) to_bool) (fun hq => ?_) (fun hq => ?_)
    · rw [hq]; exact pe_int
    · rw [hq]; exact pe_int
  · exact pe_neg pe_int
  · lia
  · exact .inl (by decide +kernel)
  · exact fun _ _ => rfl
  · decide +kernel
  · decide +kernel
  have h2 := (h1.set "body" (.str (bodyS x))).pick (own' := [(("things" : Str), a, acc)]) (l := [("body", .str (bodyS x)), ("barred", .bool (barS x)), ("part", .str x), ("star", .star)]) rfl rfl
  generalize ρ1.set "body" (.str (bodyS x)) = ρ2 at h2 ⊢
  change PX _ _ _ _ _ _ (_ :: _) _
  with_reducible refine px_assign (d := .str (someS x)) (pe_if' (q := plainS x) (pt_cmp (a := .str (Txt.slice (bodyS x) (some 1) (some 2))) (b := .str "-") (pe_slice_str (x := bodyS x) (lo := some 1) (hi := some 2) (pe_name (h2.get ?_)) ?_ ?_ ?_) pe_str bo_ne_str) (fun hq => ?_) (fun hq => ?_)) ?_ ?_ ?_ ?_ ?_
  · exact rfl
  · exact pe_int
  · exact pe_int
  · lia
  · have e : someS x = bodyS x := by unfold someS; rw [hq]; rfl
    rw [e]
    exact pe_name (h2.get rfl)
  · have e : someS x = "abc" := by unfold someS; rw [hq]; rfl
    have hb : bodyS x = "a-c" := hp.resolve_left (by rw [hq]; simp)
    rw [e]
    have hn : ρ2.nm "body" = some (.str "a-c") := hb ▸ h2.get rfl
    with_reducible refine pe_to ?_ (pe_m1 (x := "") (a := .list (((["a", "b", "c"] : List Str)).map .str)) pe_str ?_ (sm_join ?_))
    · exact congrArg D.str (by decide +kernel)
    · with_reducible refine pe_to ?_ (pe_map (z := true) (ds := (List.range ((100 : Int) - 97).toNat).map fun (i : Nat) => .int (97 + (i : Int))) chrD ?_ ?_ ?_ (pi_range2 bn.range ?_ (pe_b1 (a := .str ⟨#[97]⟩) hord ?_ (pe_item_str (x := "a-c") (i := 0) (c := 97) (pe_name hn) pe_int ?_ ?_) uo_ord) (pe_addI (i := 99) (j := 1) (by with_unfolding_all rfl) (pe_b1 (a := .str ⟨#[99]⟩) hord ?_ (pe_item_str (x := "a-c") (i := 2) (c := 99) (pe_name hn) pe_int ?_ ?_) uo_ord) pe_int) ?_ ?_) (fun d hd => ?_) ?_)
      · rfl
      · decide +kernel
      · decide +kernel
      · decide +kernel
      · decide +kernel
      · decide +kernel
      · decide +kernel
      · decide +kernel
      · decide +kernel
      · decide +kernel
      · decide +kernel
      · decide
      · decide
      · obtain ⟨i, hi, rfl⟩ := List.mem_map.mp hd
        have hi' : i < 3 := by have := List.mem_range.mp hi; have e : ((100 : Int) - 97).toNat = 3 := rfl; assumption
        show PE _ _ _ _ _ _ _ (.str ⟨#[((97 : Int) + (i : Int)).toNat]⟩)
        with_reducible refine pe_b1 hchr ?_ (pe_name ?_) (uo_chr ?_)
        · decide +kernel
        · exact rfl
        · lia
      · decide +kernel
    · decide +kernel
  · exact .inl (by decide +kernel)
  · exact fun _ _ => rfl
  · decide +kernel
  · decide +kernel
  have h3 := (h2.set "some" (.str (someS x))).pick (own' := [(("things" : Str), a, acc)]) (l := [("some", .str (someS x)), ("barred", .bool (barS x)), ("part", .str x), ("star", .star)]) rfl rfl
  generalize ρ2.set "some" (.str (someS x)) = ρ3 at h3 ⊢
  change PX _ _ _ _ _ _ (_ :: _) _
  have hmem : (("things" : Str), a, acc) ∈ ρ3.own := by rw [h3.own]; exact .head _
  with_reducible refine px_if (b := x == ".") (PT.to (pt_or (pt_cmp (a := .str x) (b := .star) (c := false) (pe_name (h3.get ?_)) (pe_name (h3.get ?_)) bo_is_str) fun _ => pt_or (pt_cmp (a := .str x) (b := .str ".") (pe_name (h3.get ?_)) pe_str bo_eq_str) fun _ => pt_or_nil) ?_) ?_
  · exact rfl
  · exact rfl
  · exact rfl
  · simp
  have fin : ∀ d, DI [(("things" : Str), a, acc ++ [d])] [("star", .star)] (ρ3.put "things" (acc ++ [d])) := fun d => (h3.put "things" (acc ++ [d])).pick (own' := [(("things" : Str), a, acc ++ [d])]) (l := [("star", .star)]) rfl rfl
  cases hdot : (x == ".") with
  | true =>
    have et : thingS x = soI := by unfold thingS; rw [hdot]; rfl
    rw [et]
    change PX _ _ _ _ _ _ (_ :: _) _
    with_reducible refine px_append (a := a) (l := acc) (d := itD soI) (pe_if_f (pt_cmp (a := .str x) (b := .star) (c := false) (pe_name (h3.get ?_)) (pe_name (h3.get ?_)) bo_is_str) ?_) hmem ?_ ?_
    · exact rfl
    · exact rfl
    · show PE _ _ _ _ _ _ _ (.list [.str "?", .str "", .bool true])
      with_reducible exact pe_list (pes_cons pe_str (pes_cons pe_str (pes_cons pe_bool pes_nil)))
    · lia
    conv => arg 7; whnf
    exact px_nil (fin _)
  | false =>
    change PX _ _ _ _ _ _ (_ :: _) _
    with_reducible refine px_append (a := a) (l := acc) (d := itD (thingS x)) (pe_if' (q := x0S x == "[") (pt_cmp (a := .str (x0S x)) (b := .str "[") (pe_item_str (x := x) (i := 0) (pe_name (h3.get ?_)) pe_int (atD0 hx0) ?_) pe_str bo_eq_str) (fun hq => ?_) (fun hq => ?_)) hmem ?_ ?_
    · exact rfl
    · lia
    · have et : itD (thingS x) = .list [.str x, .str (someS x), .bool (barS x)] := by
        have : thingS x = (x, someS x, barS x) := by unfold thingS; rw [hdot, hq]; simp only [Bool.false_eq_true, if_false, if_true]
        rw [this, itD]
      rw [et]
      with_reducible refine pe_list (pes_cons (pe_name (h3.get ?_)) (pes_cons (pe_name (h3.get ?_)) (pes_cons (pe_name (h3.get ?_)) pes_nil)))
      · exact rfl
      · exact rfl
      · exact rfl
    · have et : itD (thingS x) = .list [.str x, .str (xlS x), .bool false] := by
        have : thingS x = (x, xlS x, false) := by unfold thingS; rw [hdot, hq]; simp only [Bool.false_eq_true, if_false]
        rw [this, itD]
      rw [et]
      with_reducible refine pe_list (pes_cons (pe_name (h3.get ?_)) (pes_cons (pe_item_str (x := x) (i := -1) (pe_name (h3.get ?_)) (pe_neg pe_int) (atDl hx0) ?_) (pes_cons pe_bool pes_nil)))
      · exact rfl
      · exact rfl
      · lia
    · lia
    conv => arg 7; whnf
    exact px_nil (fin _)

theorem px_thStar (h7 : 7 ≤ n) {a : Nat} {acc : List D} {ρ : Rho} (h : DI [(("things" : Str), a, acc)] [("part", .star), ("star", .star)] ρ) (hacc : acc.length ≤ 1000) :
    PX prog w B n (fsc 33) ρ (forB (fb 33)[1]?) { nx := DI [(("things" : Str), a, acc ++ [itD stI])] [("star", .star)] } := by
  change PX _ _ _ _ _ _ (_ :: _) _
  with_reducible refine px_assign (d := .bool false) (pe_to ?_ (pe_and (a := .bool false) (q := false) (d := .none) (pe_to ?_ (pe_eqD (a := .list []) (b := .str "^") (pe_to ?_ (pe_slice_list (ds := [.str "*"]) (lo := some 1) (hi := some 2) (st := none) (pe_starL (pe_name (h.get ?_))) ?_ ?_ ?_ ?_ ?_)) pe_str h7 ?_ ?_ ?_ ?_)) to_bool (fun hq => ?_))) ?_ ?_ ?_ ?_ ?_
  · exact rfl
  · exact rfl
  · exact rfl
  · exact rfl
  · exact pe_int
  · exact pe_int
  · exact True.intro
  · decide
  · decide +kernel
  · decide +kernel
  · decide +kernel
  · decide +kernel
  · decide +kernel
  · cases hq
  · exact .inl (by decide +kernel)
  · exact fun _ _ => rfl
  · decide +kernel
  · decide +kernel
  have h1 := (h.set "barred" (.bool false)).pick (own' := [(("things" : Str), a, acc)]) (l := [("barred", .bool false), ("part", .star), ("star", .star)]) rfl rfl
  generalize ρ.set "barred" (.bool false) = ρ1 at h1 ⊢
  change PX _ _ _ _ _ _ (_ :: _) _
  with_reducible refine px_assign (d := .list []) (pe_to ?_ (pe_slice_list (ds := [.str "*"]) (lo := some 1) (hi := some (-1)) (st := none) (pe_starL (pe_name (h1.get ?_))) ?_ ?_ ?_ ?_ ?_)) ?_ ?_ ?_ ?_ ?_
  · exact rfl
  · exact rfl
  · show PE _ _ _ _ _ _ _ (.int 1)
    exact pe_if_f (pt_plain (pe_name (x := "barred") (h1.get (x := "barred") (d := .bool false) rfl)) to_bool) pe_int
  · exact pe_neg pe_int
  · exact True.intro
  · decide
  · decide +kernel
  · exact .inl (by decide +kernel)
  · exact fun _ _ => rfl
  · decide +kernel
  · decide +kernel
  have h2 := (h1.set "body" (.list [])).pick (own' := [(("things" : Str), a, acc)]) (l := [("body", .list []), ("barred", .bool false), ("part", .star), ("star", .star)]) rfl rfl
  generalize ρ1.set "body" (.list []) = ρ2 at h2 ⊢
  change PX _ _ _ _ _ _ (_ :: _) _
  with_reducible refine px_assign (d := .list []) (pe_if_t (pt_of_cmp (pe_to ?_ (pe_neD (a := .list []) (b := .str "-") (pe_to ?_ (pe_slice_list (ds := []) (lo := some 1) (hi := some 2) (st := none) (pe_name (h2.get ?_)) ?_ ?_ ?_ ?_ ?_)) pe_str h7 ?_ ?_ ?_ ?_)) ?_) (pe_name (h2.get ?_))) ?_ ?_ ?_ ?_ ?_
  · exact rfl
  · exact rfl
  · exact rfl
  · exact pe_int
  · exact pe_int
  · exact True.intro
  · decide
  · decide +kernel
  · decide +kernel
  · decide +kernel
  · decide +kernel
  · decide +kernel
  · exact ⟨_, _, _, _, rfl, rfl⟩
  · exact rfl
  · exact .inl (by decide +kernel)
  · exact fun _ _ => rfl
  · decide +kernel
  · decide +kernel
  have h3 := (h2.set "some" (.list [])).pick (own' := [(("things" : Str), a, acc)]) (l := [("part", .star), ("star", .star)]) rfl rfl
  generalize ρ2.set "some" (.list []) = ρ3 at h3 ⊢
  change PX _ _ _ _ _ _ (_ :: _) _
  have hmem : (("things" : Str), a, acc) ∈ ρ3.own := by rw [h3.own]; exact .head _
  with_reducible refine px_if (b := true) (PT.to (pt_or (a := true) (b := false) (pt_cmp (a := .star) (b := .star) (c := true) (pe_name (h3.get ?_)) (pe_name (h3.get ?_)) bo_is_star) fun hq => ?_) ?_) ?_
  · exact rfl
  · exact rfl
  · cases hq
  · rfl
  change PX _ _ _ _ _ _ (_ :: _) _
  with_reducible refine px_append (a := a) (l := acc) (d := itD stI) (pe_if_t (pt_cmp (a := .star) (b := .star) (c := true) (pe_name (h3.get ?_)) (pe_name (h3.get ?_)) bo_is_star) ?_) hmem ?_ ?_
  · exact rfl
  · exact rfl
  · show PE _ _ _ _ _ _ _ (.list [.str "*", .str "", .bool false])
    with_reducible exact pe_list (pes_cons pe_str (pes_cons pe_str (pes_cons pe_bool pes_nil)))
  · lia
  conv => arg 7; whnf
  exact px_nil ((h3.put "things" (acc ++ [itD stI])).pick (own' := [(("things" : Str), a, acc ++ [itD stI])]) (l := [("star", .star)]) rfl rfl)

noncomputable def ThOk (d : D) : Prop := d = .star ∨ ∃ x, d = .str x ∧ 0 < x.length ∧ x.length ≤ 100 ∧ (plainS x = true ∨ bodyS x = "a-c")
end
end Mine
end

section
open PySem PySem.W PySem.Calls PyProof.Rows
set_option Elab.async false
set_option linter.unusedVariables false
set_option linter.unusedSectionVars false
set_option maxRecDepth 10000
namespace Mine

section
variable [Star] {prog : Program} {w : World} {B : Heap} {n : Nat} {sc : Scope} {ρ : Rho}

theorem px_thRest (bn : Bn B) (hord : GlobBlt B "ord" (.builtin "ord")) (hchr : GlobBlt B "chr" (.builtin "chr")) (h7 : 7 ≤ n) {at_ : Nat} (ht : GlobFn B "_translate" at_) {pat : Str} {parts : List D} (ft : FA prog w B n at_ [.str pat, .star, .str "."] (.list parts))
    (hparts : ∀ d ∈ parts, ThOk d) (hlen : parts.length ≤ 100) {a : Nat} {ρ : Rho} (h : DI [(("things" : Str), a, [])] [("star", .star), ("pattern", .str pat)] ρ) :
    PX prog w B n (fsc 33) ρ ((fb 33).drop 1) { nx := fun _ => False, rt := (· = .list (parts.map thingD)) } := by
  change PX _ _ _ _ _ _ (_ :: _) _
  with_reducible refine px_for (ds := parts) (P := DI [(("things" : Str), a, parts.map thingD)] [("star", .star)]) (fun i => DI [(("things" : Str), a, (parts.take i).map thingD)] [("star", .star)]) (fun d ρ => ρ.set "part" d) (pw_list (pe_call ht ?_ (pes_cons (pe_name (h.get ?_)) (pes_cons (pe_name (h.get ?_)) (pes_cons pe_str pes_nil))) ft)) (fun d _ => as_name ?_ ?_ ?_) (fun i d ρ' hi hI => ?_) ?_ ?_ (fun ρ1 h1 => ?_)
  · decide +kernel
  · exact rfl
  · exact rfl
  · exact .inl (by decide +kernel)
  · decide +kernel
  · decide +kernel
  · have hd := hparts d (List.mem_of_getElem? hi)
    have h1 := (hI.set "part" d).pick (own' := [(("things" : Str), a, (parts.take i).map thingD)]) (l := [("part", d), ("star", .star)]) rfl rfl
    generalize ρ'.set "part" d = ρ2 at h1 ⊢
    have hl : ((parts.take i).map thingD).length ≤ 1000 := by rw [List.length_map, List.length_take]; lia
    have e : (parts.take (i + 1)).map thingD = (parts.take i).map thingD ++ [thingD d] := by rw [take_succ_eq hi, List.map_append]; rfl
    rw [e]
    rcases hd with rfl | ⟨x, rfl, g1, g2, g3⟩
    · exact PX.mono (px_thStar h7 h1 hl) (fun _ h => h) (fun _ h => h.elim) (fun _ h => h.elim) (fun _ h => h.elim)
    · exact PX.mono (px_thS bn hord hchr h1 g1 g2 hl g3) (fun _ h => h) (fun _ h => h.elim) (fun _ h => h.elim) (fun _ h => h.elim)
  · exact h.pick (own' := [(("things" : Str), a, [])]) (l := [("star", .star)]) rfl rfl
  · intro ρ' h'
    rw [List.take_length] at h'
    exact h'
  · change PX _ _ _ _ _ _ (_ :: _) _
    with_reducible refine px_return_see (d := .list (parts.map thingD)) (pe_name ?_) rfl
    exact h1.seeO (a := a) (by rfl)

theorem thingD_free {d : D} (h : ThOk d) : sfree (thingD d) = true := by
  rcases h with rfl | ⟨x, rfl, _⟩
  · rfl
  · unfold thingD itD; simp [sfree, sfrees]
theorem things_free : ∀ {l : List D}, (∀ d ∈ l, ThOk d) → sfrees (l.map thingD) = true
  | [], _ => rfl
  | d :: r, h => by
    rw [List.map_cons, sfrees, thingD_free (h d (.head _)), things_free fun d hd => h d (.tail _ hd)]; rfl
end

section
variable {prog : Program} {w : World} {B : Heap} {n : Nat}
theorem px_things [Star] (bn : Bn B) (hord : GlobBlt B "ord" (.builtin "ord")) (hchr : GlobBlt B "chr" (.builtin "chr")) (h7 : 7 ≤ n) {at_ : Nat} (ht : GlobFn B "_translate" at_) {pat : Str} {parts : List D} (ft : ∀ i2 : Nat, @FA (stAt i2) prog w B n at_ [.str pat, .star, .str "."] (.list parts))
    (hparts : ∀ d ∈ parts, ThOk d) (hlen : parts.length ≤ 100) :
    PX prog w B n (fsc 33) (rho [("pattern", .str pat)]) (fb 33) { nx := fun _ => False, rt := (· = .list (parts.map thingD)) } := by
  unfold fb stm
  change PX _ _ _ _ _ _ (_ :: _) _
  with_reducible refine px_star (fun x d e => ?_) ?_ (fun d hd => ?_) ?_ ?_ ?_ ?_ ?_ ?_ ?_ ?_ (fun i2 T => ?_)
  · have : d = .str pat := by
      have e' : (if x == ("pattern" : Str) then some (D.str pat) else none) = some d := by
        have : (rho [("pattern", .str pat)]).nm x = (if x == ("pattern" : Str) then some (D.str pat) else none) := by
          show List.lookup x [(("pattern" : Str), D.str pat)] = _
          rw [List.lookup_cons]
          cases (x == ("pattern" : Str)) <;> rfl
        rw [← this]; exact e
      split at e'
      · exact (Option.some.inj e').symm
      · cases e'
    rw [this]; rfl
  · rfl
  · have hd' : d = .list (parts.map thingD) := hd
    rw [hd']
    show sfrees _ = true
    exact things_free hparts
  · decide +kernel
  · decide +kernel
  · decide +kernel
  · decide +kernel
  · decide +kernel
  · decide +kernel
  · decide +kernel
  · intro env o
    obtain ⟨scope, a1, a2, a3, a4, a5, a6, a7⟩ := env
    have e : scope = fsc 33 := o.iss
    subst e
    with_unfolding_all rfl
  · exact @px_thRest (stAt i2) prog w B n bn hord hchr h7 at_ ht pat parts (ft i2) hparts hlen T _ ⟨rfl, fun p hp => by
      simp at hp
      rcases hp with rfl | rfl <;> rfl⟩
end
end Mine
end

section
open PySem PySem.W PySem.Calls PyProof.Rows
open PySem.Builtin.Re
set_option Elab.async false
set_option linter.unusedVariables false
set_option linter.unusedSectionVars false
set_option maxRecDepth 10000
namespace Mine

theorem brH : Br "[#]g" "#" "#" false 2 where
  len := by decide +kernel
  c0 := by decide +kernel
  c1 := ⟨35, by decide +kernel, by decide +kernel⟩
  c2 := ⟨35, by decide +kernel, by decide +kernel⟩
  mid := fun j h1 h2 => by
    have : j = 1 := by simp at h1; lia
    subst this
    exact ⟨35, by decide +kernel, by decide +kernel⟩
  fin := ⟨93, by decide +kernel, by decide +kernel⟩
  lt := by decide +kernel
  ge := by decide +kernel
  slice := by decide +kernel
  xl := by decide +kernel
  none := by decide +kernel
theorem stH : St "#" false where
  c0 := ⟨35, by decide +kernel, by decide +kernel, by decide +kernel⟩
  ne := by decide +kernel
  xl := by decide +kernel
  sl := by decide +kernel
  none := by decide +kernel
theorem brL : Br "[!a]*" "!a" "!a" true 3 where
  len := by decide +kernel
  c0 := by decide +kernel
  c1 := ⟨33, by decide +kernel, by decide +kernel⟩
  c2 := ⟨97, by decide +kernel, by decide +kernel⟩
  mid := fun j h1 h2 => by
    have : j = 2 := by simp at h1; lia
    subst this
    exact ⟨97, by decide +kernel, by decide +kernel⟩
  fin := ⟨93, by decide +kernel, by decide +kernel⟩
  lt := by decide +kernel
  ge := by decide +kernel
  slice := by decide +kernel
  xl := by decide +kernel
  none := by decide +kernel
theorem stL : St "!a" true where
  c0 := ⟨33, by decide +kernel, by decide +kernel, by decide +kernel⟩
  ne := by decide +kernel
  xl := by decide +kernel
  sl := by decide +kernel
  none := by decide +kernel
end Mine
end

section
open PySem PySem.W PySem.Calls PyProof.Rows
open PySem.Builtin.Re
set_option Elab.async false
set_option linter.unusedVariables false
set_option linter.unusedSectionVars false
set_option maxRecDepth 10000
namespace Mine

structure Gnd (prog : Program) (w : World) (B : Heap) : Prop where
  b : Bn B
  items : ∃ a, Gr B 27 "_law_items" a ["k"]
  pieces : ∃ a, Gr B 28 "_law_pieces" a ["x"]
  path : ∃ a, Gr B 29 "_law_path" a ["pieces"]
  word : ∃ a, Gr B 30 "_law_word" a ["path", "x"]
  fspath : ∃ a, Gr B 18 "fspath" a ["path"]
  getsep : ∃ a, Gr B 22 "_get_sep" a ["path"]
  splitroot : ∃ a, Gr B 24 "splitroot" a ["p"]
  normpath : ∃ a, Gr B 25 "normpath" a ["path"]
  join : ∃ a o fd, GlobFn B "join" a ∧ B.get? a = some o ∧ o.data = .func fd ∧ B.CodeRec fd.code fd.qualname ∧ fd.body = .stmts (fb 23) ∧ fd.scope = fsc 23 ∧ fd.closure = [] ∧ fd.globals = mainGlobals ∧ fd.builtins = builtinsNs ∧ ∀ u v : Value, bindArgs fd ⟨[u, v], []⟩ = (do let t ← newTuple [v]; pure [(("a" : Str), u), (("p" : Str), t)])
  meant : ∃ a, Gr B 32 "_law_meant" a ["items", "name"]
  own : ∃ a, Gr B 35 "_law_own" a ["pieces"]
  hits : ∃ a, Gr B 36 "_law_hits" a ["rules", "names"]
  escape : ∃ a, Gr B 7 "escape" a ["pattern"]
  translate : ∃ a, Gr B 9 "_translate" a ["pat", "STAR", "QUESTION_MARK"]
  things : ∃ a, Gr B 33 "_law_things" a ["pattern"]
  esc : ∃ d, GlobRef B "_special_chars_map" d ∧ EscTab prog w B d
  twin : ∃ P C, GlobRef B "_twin_re_1" P ∧ PatAt B P C
  lam : LamG B
  lim : B.NoLimit

section
variable [Star]
variable {prog : Program} {w : World} {B : Heap} {n : Nat} {sc : Scope} {ρ : Rho}

theorem fa_items1 {a : Nat} (h : Gr B 27 "_law_items" a ["k"]) {p : Int} {d : D} (h2 : PX prog w B 0 (fsc 27) (rho [("k", .int p)]) (fb 27) { nx := fun _ => False, rt := (· = d) }) : FA prog w B 1 a [.int p] d := by
  refine @fa_of _ prog w B 0 27 a "_law_items" [("k", .int p)] d h ?_
  with_reducible exact PX.ret h2
theorem fa_items0 (g : Gnd prog w B) : ∃ a, GlobFn B "_law_items" a ∧ ∀ p d, atD itemsD p = some d → FA prog w B 1 a [.int p] d := by
  obtain ⟨a, h⟩ := g.items
  exact ⟨a, h.fn, fun p d e => @fa_items1 _ prog w B a h p d (@px_items _ prog w B 0 p d e)⟩
theorem fa_items (g : Gnd prog w B) (h1 : 1 ≤ n) : ∃ a, GlobFn B "_law_items" a ∧ ∀ p d, atD itemsD p = some d → FA prog w B n a [.int p] d := by
  obtain ⟨a, h, f⟩ := fa_items0 g
  exact ⟨a, h, fun p d e => FA.mono (f p d e) h1⟩
theorem fa_pieces (g : Gnd prog w B) (h1 : 1 ≤ n) : ∃ a, GlobFn B "_law_pieces" a ∧ ∀ x, FA prog w B n a [.int x] (.list ((piecesL x).map .int)) := by
  obtain ⟨a, h⟩ := g.pieces
  exact ⟨a, h.fn, fun x => (fa_of (n := 0) (ps := [("x", .int x)]) h (px_pieces g.b.range x).ret).mono h1⟩
theorem fa_path (g : Gnd prog w B) (h1 : 2 ≤ n) : ∃ a, GlobFn B "_law_path" a ∧ ∀ L : List Int, (∀ p ∈ L, 0 ≤ p ∧ p < 14) → L.length ≤ 3 → FA prog w B n a [.list (L.map .int)] (.str (pathT L)) := by
  obtain ⟨a, h⟩ := g.path
  obtain ⟨ai, hi, fi⟩ := fa_items (n := 1) g (Nat.le_refl _)
  exact ⟨a, h.fn, fun L hL hl => (fa_of (n := 1) (ps := [("pieces", .list (L.map .int))]) h (px_path hi fi hL hl).ret).mono h1⟩
theorem fa_word (g : Gnd prog w B) (h1 : 1 ≤ n) : ∃ a, GlobFn B "_law_word" a ∧ ∀ (p : Str) x, p.length ≤ 1000 → FA prog w B n a [.str p, .int x] (.str (wordT p x)) := by
  obtain ⟨a, h⟩ := g.word
  exact ⟨a, h.fn, fun p x hp => (fa_of (n := 0) (ps := [("path", .str p), ("x", .int x)]) h (px_word g.b.range g.b.len hp x).ret).mono h1⟩
theorem fa_fspath (g : Gnd prog w B) (h1 : 1 ≤ n) : ∃ a, GlobFn B "fspath" a ∧ ∀ x, FA prog w B n a [.str x] (.str x) := by
  obtain ⟨a, h⟩ := g.fspath
  exact ⟨a, h.fn, fun x => (fa_of (n := 0) (ps := [("path", .str x)]) h (px_fspath g.b).ret).mono h1⟩
theorem fa_getsep (g : Gnd prog w B) (h1 : 1 ≤ n) : ∃ a, GlobFn B "_get_sep" a ∧ ∀ x, FA prog w B n a [.str x] (.str "/") := by
  obtain ⟨a, h⟩ := g.getsep
  exact ⟨a, h.fn, fun x => (fa_of (n := 0) (ps := [("path", .str x)]) h (px_getsep g.b).ret).mono h1⟩
theorem fa_splitroot (g : Gnd prog w B) (h1 : 2 ≤ n) : ∃ a, GlobFn B "splitroot" a ∧ ∀ x : Str, x.length ≤ 1000 → (Txt.slice x none (some 1) != "/") = false → (Txt.slice x (some 1) (some 2) != "/") = true → FA prog w B n a [.str x] (.tup [.str "", .str "/", .str (Txt.slice x (some 1) none)]) := by
  obtain ⟨a, h⟩ := g.splitroot
  obtain ⟨af, hf, ff⟩ := fa_fspath (n := 1) g (Nat.le_refl _)
  exact ⟨a, h.fn, fun x hx e1 e2 => (fa_of (n := 1) (ps := [("p", .str x)]) h (px_splitroot g.b hf ff hx e1 e2).ret).mono h1⟩
theorem fa_normpath (g : Gnd prog w B) (h1 : 3 ≤ n) : ∃ a, GlobFn B "normpath" a ∧ ∀ x y : Str, x.length ≤ 1000 → y.length ≤ 1000 → Txt.slice x (some 1) none = y → ((x.length : Int) != 0) = true → (Txt.slice x none (some 1) != "/") = false → (Txt.slice x (some 1) (some 2) != "/") = true →
    (Txt.split y "/").length ≤ 10 → (∀ t ∈ Txt.split y "/", t.length ≤ 100) → FA prog w B n a [.str x] (.str ("/" ++ Txt.join "/" ((Txt.split y "/").foldl nstep []))) := by
  obtain ⟨a, h⟩ := g.normpath
  obtain ⟨af, hf, ff⟩ := fa_fspath (n := 2) g (by decide)
  obtain ⟨as, hs, fs⟩ := fa_splitroot (n := 2) g (by decide)
  refine ⟨a, h.fn, fun x y hx hy e e0 e1 e2 c1 c2 => (fa_of (n := 2) (ps := [("path", .str x)]) h (px_normpath g.b hf ff hs (x := x) (y := y) ?_ e0 hx hy c1 c2).ret).mono h1⟩
  rw [← e]
  exact fs x hx e1 e2
theorem fa_join (g : Gnd prog w B) (h1 : 2 ≤ n) : ∃ a, GlobFn B "join" a ∧ ∀ y : Str, y.length ≤ 1000 → Txt.startswith y "/" = false → FA prog w B n a [.str "/r", .str y] (.str ("/r" ++ ("/" ++ y))) := by
  obtain ⟨a, o, fd, hg, e1, e2, e3, e4, e5, e6, e7, e8, e9⟩ := g.join
  obtain ⟨af, hf, ff⟩ := fa_fspath (n := 1) g (by decide)
  obtain ⟨ag, hs, fs⟩ := fa_getsep (n := 1) g (by decide)
  refine ⟨a, hg, fun y hy hy2 => FA.mono (fa_gen (n := 1) (ps := [("a", .str "/r"), ("p", .tup [.str y])]) e1 e2 g.lim e3 e4 e6 e7 e8 (fun A E s X vs Q c t k => ?_) (by rw [e5]; show defOk (fsc 23) [("a" : Str), "p"] = true; decide +kernel) (by rw [e5]; intro q; exact absurd q (by decide +kernel)) ?_) h1⟩
  · cases t using Tls.consE with
    | cons ta tb =>
    cases tb using Tls.consE with
    | cons tb tn =>
    cases tn using Tls.nilE
    rename_i u v
    cases ta using Tl.strE with
    | str t1 =>
    cases tb using Tl.strE with
    | str t2 =>
    rw [e9]
    refine wpAny_bind (wpAny_newObj_type (wpAny_pure ?_) (by show (1 : Nat) ≤ sizeLine; rw [sizeLine_eq]; (exact Nat.succ_pos _)))
    refine k [.str "/r" t1, .ref s.heap.objs.size] _ (Ks.push s _ _) rfl (.cons (.str _ _) (.cons (.tup ⟨_, Heap.get?_push_size _ rfl, rfl, ⟨_, rfl⟩⟩ (fun q => Nat.lt_irrefl _ (c.xlt _ q)) (by simp) (.cons (.str y t2) .nil)) .nil))
  · rw [e5]
    exact (px_join g.b hf ff hs fs hy hy2).ret
theorem fa_meant (g : Gnd prog w B) (h1 : 8 ≤ n) : ∃ a, GlobFn B "_law_meant" a ∧ ∀ its nm, nm.length ≤ 100 → FA prog w B n a [.list (its.map itD), .str nm] (.bool (meant its nm)) := by
  obtain ⟨a, h⟩ := g.meant
  exact ⟨a, h.fn, fun its nm hn => (fa_of (n := 7) (ps := [("items", .list (its.map itD)), ("name", .str nm)]) h (px_meant g.b (by decide) hn).ret).mono h1⟩
theorem fa_own (g : Gnd prog w B) (h1 : 2 ≤ n) : ∃ a, GlobFn B "_law_own" a ∧ ∀ L : List Int, (∀ p ∈ L, 0 ≤ p ∧ p < 14) → L.length ≤ 3 → FA prog w B n a [.list (L.map .int)] (ruD (ownL L)) := by
  obtain ⟨a, h⟩ := g.own
  obtain ⟨ai, hi, fi⟩ := fa_items (n := 1) g (Nat.le_refl _)
  exact ⟨a, h.fn, fun L hL hl => (fa_of (n := 1) (ps := [("pieces", .list (L.map .int))]) h (px_own hi fi hL hl).ret).mono h1⟩
theorem fa_hits (g : Gnd prog w B) (h1 : 9 ≤ n) : ∃ a, GlobFn B "_law_hits" a ∧ ∀ (rules : List (List (List It))) (names : List Str), rules.length ≤ 1000 → names.length ≤ 1000 → (∀ nm ∈ names, nm.length ≤ 100) → FA prog w B n a [.list (rules.map ruD), .list (names.map .str)] (.list ((hitsL rules names).map .int)) := by
  obtain ⟨a, h⟩ := g.hits
  obtain ⟨am, hm, fm⟩ := fa_meant (n := 8) g (by decide)
  exact ⟨a, h.fn, fun rules names hr hn hl => (fa_of (n := 8) (ps := [("rules", .list (rules.map ruD)), ("names", .list (names.map .str))]) h (px_hits g.b (by decide) hm fm hr hn hl).ret).mono h1⟩
theorem fa_escape (g : Gnd prog w B) (h1 : 1 ≤ n) : ∃ a, GlobFn B "escape" a ∧ ∀ c ∈ [32, 92, 97, 98, 101, 103, 114, 34], FA prog w B n a [.str ⟨#[c]⟩] (.str (escS c)) := by
  obtain ⟨a, h⟩ := g.escape
  obtain ⟨d, hd, ht⟩ := g.esc
  exact ⟨a, h.fn, fun c hc => (fa_of (n := 0) (ps := [("pattern", .str ⟨#[c]⟩)]) h (px_escape g.b hd ht hc).ret).mono h1⟩

noncomputable def brI (pat : Str) : Nat × List D := if pat = "[#]g" then (3, [.str "[#]"]) else if pat = "[!a]*" then (4, [.str "[^a]"]) else if pat = "[a-c] b" then (5, [.str "[a-c]"]) else (0, [])
noncomputable def partsL (pat : Str) : List D := (pat.cps.toList.drop (brI pat).1).foldl tstep (brI pat).2
noncomputable def allNames : List Str := ["*", "a?b", "*\"*", "e\\?", "[#]g", "a b", " a*", "\"?", "\\*", "[!a]*", "[a-c] b", "a**b", "r", ""]

theorem fa_translate (g : Gnd prog w B) (h1 : 2 ≤ n) : ∃ a, GlobFn B "_translate" a ∧ ∀ pat ∈ allNames, FA prog w B n a [.str pat, .star, .str "."] (.list (partsL pat)) := by
  obtain ⟨a, h⟩ := g.translate
  obtain ⟨ae, he, fe⟩ := fa_escape (n := 1) g (by decide)
  obtain ⟨P, C, hP, hC⟩ := g.twin
  refine ⟨a, h.fn, fun pat hp => (fa_of (n := 1) (ps := [("pat", .str pat), ("STAR", .star), ("QUESTION_MARK", .str ".")]) h ?_).mono h1⟩
  refine PX.ret ?_
  have H : ∀ (i0 : Nat) (res0 : List D), pat.length ≤ 100 → brI pat = (i0, res0) → i0 ≤ pat.length → res0.length ≤ 100 → (∀ d ∈ res0, PartOk d) → ((pat.cps.toList.drop i0).all plainC) = true → ((i0 = 0 ∧ res0 = []) ∨ (0 < pat.length ∧ ∀ a ρ, TInv a pat 0 [] ρ → PX prog w B 1 (fsc 9) ρ (forB (fb 9)[3]?) { nx := TInv a pat i0 res0 })) →
      PX prog w B 1 (fsc 9) (rho [("pat", .str pat), ("STAR", .star), ("QUESTION_MARK", .str ".")]) (fb 9) { nx := fun _ => False, rt := (· = .list (partsL pat)) } := by
    intro i0 res0 q1 q2 q3 q4 q5 q6 q7
    have := px_translate g.b he fe q1 q3 q4 q5 q6 q7
    unfold partsL
    rw [q2]
    exact this
  have plain : brI pat = (0, []) → pat.length ≤ 100 → (pat.cps.toList.all plainC) = true → _ := fun q1 q2 q3 => H 0 [] q2 q1 (Nat.zero_le _) (by simp) (by simp) (by simpa using q3) (.inl ⟨rfl, rfl⟩)
  simp only [allNames, List.mem_cons, List.not_mem_nil, or_false] at hp
  rcases hp with rfl | rfl | rfl | rfl | rfl | rfl | rfl | rfl | rfl | rfl | rfl | rfl | rfl | rfl
  · exact plain rfl (by decide +kernel) (by decide +kernel)
  · exact plain rfl (by decide +kernel) (by decide +kernel)
  · exact plain rfl (by decide +kernel) (by decide +kernel)
  · exact plain rfl (by decide +kernel) (by decide +kernel)
  · refine H 3 [.str "[#]"] (by decide +kernel) rfl (by decide +kernel) (by simp) (by intro d hd; simp at hd; exact .inr ⟨_, hd⟩) (by decide +kernel) (.inr ⟨by decide +kernel, fun a ρ hi => ?_⟩)
    refine px_tbr hi (by decide +kernel) (by decide +kernel) fun ρ' h' => ?_
    exact px_brN hP hC g.lam brH stH (by decide +kernel) (by decide +kernel) (by simp) h'
  · exact plain rfl (by decide +kernel) (by decide +kernel)
  · exact plain rfl (by decide +kernel) (by decide +kernel)
  · exact plain rfl (by decide +kernel) (by decide +kernel)
  · exact plain rfl (by decide +kernel) (by decide +kernel)
  · refine H 4 [.str "[^a]"] (by decide +kernel) rfl (by decide +kernel) (by simp) (by intro d hd; simp at hd; exact .inr ⟨_, hd⟩) (by decide +kernel) (.inr ⟨by decide +kernel, fun a ρ hi => ?_⟩)
    refine px_tbr hi (by decide +kernel) (by decide +kernel) fun ρ' h' => ?_
    exact px_brN hP hC g.lam brL stL (by decide +kernel) (by decide +kernel) (by simp) h'
  · refine H 5 [.str "[a-c]"] (by decide +kernel) rfl (by decide +kernel) (by simp) (by intro d hd; simp at hd; exact .inr ⟨_, hd⟩) (by decide +kernel) (.inr ⟨by decide +kernel, fun a ρ hi => ?_⟩)
    refine px_tbr hi (by decide +kernel) (by decide +kernel) fun ρ' h' => ?_
    exact px_brD g.b g.lim hP hC g.lam (by simp) h'
  · exact plain rfl (by decide +kernel) (by decide +kernel)
  · exact plain rfl (by decide +kernel) (by decide +kernel)
  · exact plain rfl (by decide +kernel) (by decide +kernel)
end
end Mine
end

section
open PySem PySem.W PySem.Calls PyProof.Rows
set_option Elab.async false
set_option linter.unusedVariables false
set_option linter.unusedSectionVars false
set_option maxRecDepth 10000
namespace Mine

noncomputable def thOkB : D → Bool
  | .star => true
  | .str x => decide (0 < x.length) && decide (x.length ≤ 100) && (plainS x || (bodyS x == "a-c"))
  | _ => false
theorem thOk_of {d : D} (h : thOkB d = true) : ThOk d := by
  match d, h with
  | .star, _ => exact .inl rfl
  | .str x, h =>
    simp only [thOkB, Bool.and_eq_true, Bool.or_eq_true, decide_eq_true_eq, beq_iff_eq] at h
    exact .inr ⟨_, rfl, h.1.1, h.1.2, h.2⟩
noncomputable def thingI : D → It
  | .star => stI
  | .str x => thingS x
  | _ => stI
noncomputable def thI (nm : Str) : List It := (partsL nm).map thingI
theorem thD_map {l : List D} (h : l.all thOkB = true) : l.map thingD = (l.map thingI).map itD := by
  induction l with
  | nil => rfl
  | cons d r ih =>
    simp only [List.all_cons, Bool.and_eq_true] at h
    rw [List.map_cons, List.map_cons, List.map_cons, ih h.2]
    cases d <;> first | rfl | (simp [thOkB] at h)
theorem names_ok : (allNames.all fun nm => (partsL nm).all thOkB && decide ((partsL nm).length ≤ 100)) = true := by decide +kernel

section
variable [Star]
variable {prog : Program} {w : World} {B : Heap} {n : Nat} {sc : Scope} {ρ : Rho}
theorem fa_things (g : Gnd prog w B) (h1 : 9 ≤ n) : ∃ a, GlobFn B "_law_things" a ∧ ∀ nm ∈ allNames, FA prog w B n a [.str nm] (.list ((thI nm).map itD)) := by
  obtain ⟨a, h⟩ := g.things
  obtain ⟨at_, g1⟩ := g.translate
  have ht : GlobFn B "_translate" at_ := g1.fn
  have ft : ∀ (i2 : Nat) (nm : Str), nm ∈ allNames → @FA (stAt i2) prog w B 8 at_ [.str nm, .star, .str "."] (.list (partsL nm)) := fun i2 nm hn => by
    obtain ⟨at2, g2, f2⟩ := @fa_translate (stAt i2) prog w B 8 g (by decide)
    obtain ⟨mg, o, fd, e1, e2, _⟩ := ht.at_
    obtain ⟨mg', o', fd', e1', e2', _⟩ := g2.at_
    have : mg = mg' := by
      obtain ⟨oo, es, ep, q1, q2, q3, q4⟩ := e1
      obtain ⟨oo', es', ep', q1', q2', q3', q4'⟩ := e1'
      rw [q1] at q1'; cases q1'
      rw [q2] at q2'; cases q2'
      exact funext fun x => (q4 x).symm.trans (q4' x)
    rw [this, e2'] at e2
    cases e2
    exact f2 nm hn
  refine ⟨a, h.fn, fun nm hn => ?_⟩
  have hk := List.all_eq_true.mp names_ok nm hn
  simp only [Bool.and_eq_true, decide_eq_true_eq] at hk
  have h2 := @px_things prog w B 8 _ g.b g.b.ord g.b.chr (by decide) at_ ht nm (partsL nm) (fun i2 => ft i2 nm hn) (fun d hd => thOk_of (List.all_eq_true.mp hk.1 d hd)) hk.2
  rw [thD_map hk.1] at h2
  rw [show (partsL nm).map thingI = thI nm from rfl] at h2
  refine FA.mono (m := n) (n := 9) ?_ h1
  refine @fa_of _ prog w B 8 33 a "_law_things" [("pattern", .str nm)] _ h ?_
  with_reducible exact PX.ret h2
end
end Mine
end

section
open PySem PySem.W PySem.Calls PyProof.Rows
set_option Elab.async false
set_option linter.unusedVariables false
set_option linter.unusedSectionVars false
set_option maxRecDepth 10000
namespace Mine

noncomputable def nums (ns : List Int) : List Int := ns.take 3 ++ [1, 8638, 1255, 665, 26698, 120, 98]
noncomputable def verb (x : Int) : Str := if x.fmod 2 = 0 then "leave" else "take"
noncomputable def pth (x : Int) : Str := pathT (piecesL (x.fdiv 4))
noncomputable def rowD (x : Int) : D := .list [.str (verb x), .str (pth x)]
noncomputable def rowDD : D → D
  | .int x => rowD x
  | d => d
noncomputable def sep3 (k : Nat) : Str := ⟨#[((" \t\r" : Str).cps[k % 3]?).getD 0]⟩
noncomputable def lineT (N : List Int) (k : Nat) : Str := verb ((N[k]?).getD 0) ++ sep3 k ++ wordT (pth ((N[k]?).getD 0)) ((N[k]?).getD 0)
noncomputable def glueT (k : Nat) : Str := if 0 < k then (([("\n" : Str), " ", "\n\n"])[k % 3]?).getD "" else ""
noncomputable def textT (N : List Int) : Str := Txt.join "" ((List.range N.length).map fun k => glueT k ++ lineT N k)
noncomputable def lineD (N : List Int) : D → D
  | .int k => .str (lineT N k.toNat)
  | d => d
noncomputable def glD (N : List Int) : D → D
  | .int k => .str (glueT k.toNat ++ lineT N k.toNat)
  | d => d

variable [Star]
theorem pathT_len {L : List Int} (h : ∀ p ∈ L, 0 ≤ p ∧ p < 14) (hl : L.length ≤ 3) : (pathT L).length ≤ 30 := by
  unfold pathT
  show (Builtin.Str.glued _ _).length ≤ _
  rw [size_glued]
  have h1 : ∀ l : List Int, (∀ p ∈ l, 0 ≤ p ∧ p < 14) → ((l.map pieceT).map (·.length)).sum ≤ 7 * l.length := by
    intro l
    induction l with
    | nil => simp
    | cons a r ih =>
      intro hq
      simp only [List.map_cons, List.sum_cons, List.length_cons]
      have h2 := pieceT_len (hq a (.head _))
      have h3 := ih fun p hp => hq p (.tail _ hp)
      lia
  have h2 := h1 L h
  have h3 : ("/" : Str).length = 1 := by decide +kernel
  rw [h3, List.length_map]
  lia
theorem pth_len (x : Int) : (pth x).length ≤ 30 := pathT_len (piecesL_lt _) (piecesL_len _)
theorem bodyT_len (path : Str) (x : Int) : (bodyT path x).length ≤ 2 * path.length := by
  show (Builtin.Str.glued _ _).length ≤ _
  rw [size_glued]
  have h1 : ∀ l : List Nat, ((l.map (sgT path x)).map (·.length)).sum ≤ 2 * l.length := by
    intro l
    induction l with
    | nil => simp
    | cons a r ih =>
      simp only [List.map_cons, List.sum_cons, List.length_cons]
      have := sgT_len path x a
      lia
  have h2 := h1 (List.range path.length)
  rw [List.length_range] at h2
  have h3 : ("" : Str).length = 0 := by decide +kernel
  rw [h3, Nat.mul_zero]
  assumption
theorem wordT_len (path : Str) (x : Int) : (wordT path x).length ≤ 2 * path.length + 2 := by
  have h := bodyT_len path x
  unfold wordT
  split
  · lia
  · rw [Str.length_append, Str.length_append]
    have : ("\"" : Str).length = 1 := by decide +kernel
    lia
theorem verb_len (x : Int) : (verb x).length ≤ 5 := by
  unfold verb
  split <;> decide +kernel
theorem lineT_len (N : List Int) (k : Nat) : (lineT N k).length ≤ 100 := by
  unfold lineT
  generalize (N[k]?).getD 0 = x
  rw [Str.length_append, Str.length_append]
  have h1 := verb_len x
  have h2 := wordT_len (pth x) x
  have h3 := pth_len x
  have h4 : (sep3 k).length = 1 := rfl
  lia
theorem glueT_len (k : Nat) : (glueT k).length ≤ 2 := by
  unfold glueT
  split
  · have : k % 3 < 3 := Nat.mod_lt _ (by decide)
    generalize k % 3 = j at *
    have h2 : ∀ j : Nat, j < 3 → ((([("\n" : Str), " ", "\n\n"])[j]?).getD "").length ≤ 2 := by decide +kernel
    exact h2 j this
  · decide +kernel
theorem nums_len (ns : List Int) : (nums ns).length ≤ 10 ∧ 7 ≤ (nums ns).length := by
  unfold nums
  rw [List.length_append, List.length_take]
  simp
  lia
theorem textT_len (ns : List Int) : (textT (nums ns)).length ≤ 2000 := by
  show (Builtin.Str.glued _ _).length ≤ _
  rw [size_glued]
  have h1 : ∀ l : List Nat, ((l.map fun k => glueT k ++ lineT (nums ns) k).map (·.length)).sum ≤ 102 * l.length := by
    intro l
    induction l with
    | nil => simp
    | cons a r ih =>
      simp only [List.map_cons, List.sum_cons, List.length_cons]
      have h2 := glueT_len a
      have h3 := lineT_len (nums ns) a
      rw [Str.length_append]
      lia
  have h2 := h1 (List.range (nums ns).length)
  rw [List.length_range] at h2
  have h3 : ("" : Str).length = 0 := by decide +kernel
  have h4 := nums_len ns
  rw [h3, Nat.mul_zero]
  lia
section
variable {prog : Program} {w : World} {B : Heap} {n : Nat} {sc : Scope} {ρ : Rho}

theorem verbAt (x : Int) : atD [D.str "leave", .str "take"] (x.fmod 2) = some (.str (verb x)) := by
  have e : x.fmod 2 = x % 2 := Int.fmod_eq_emod_of_nonneg x (by decide)
  unfold verb
  rw [e]
  have : x % 2 = 0 ∨ x % 2 = 1 := by lia
  rcases this with h | h <;> rw [h] <;> rfl
theorem fdiv4_ok {x : Int} : Builtin.divisionGoesByPylong x 4 = false := PyProof.noPylong_of_log2 (by decide +kernel)

theorem pick_take {α : Type} (l : List α) (a : Nat) : pickD l none (some (a : Int)) none = l.take a := pick_upto l a

theorem px_law1 (g : Gnd prog w B) (hn : 2 ≤ n) {ns : List Int} (hl : ns.length ≤ 100) :
    PX prog w B n (fsc 37) (rho [("script", .list (ns.map .int))]) ((fb 37).take 2) { nx := DI [] [("rows", .list ((nums ns).map rowD)), ("numbers", .list ((nums ns).map .int))] } := by
  obtain ⟨a1, g1, f1⟩ := fa_pieces (n := n) g (by (exact Nat.le_of_lt (by assumption)))
  obtain ⟨a2, g2, f2⟩ := fa_path (n := n) g hn
  have hN := nums_len ns
  have h0 : DI [] [("script", .list (ns.map .int))] (rho [("script", .list (ns.map .int))]) := ⟨rfl, fun p hp => by simp at hp; rw [hp]; rfl⟩
  generalize rho [("script", .list (ns.map .int))] = ρ at h0 ⊢
  unfold fb stm
  change PX _ _ _ _ _ _ (_ :: _) _
  with_reducible refine px_assign (d := .list ((nums ns).map .int)) (pe_to ?_ (pe_binop (pe_slice_list (ds := ns.map .int) (lo := none) (hi := some 3) (st := none) (pe_name (h0.get ?_)) ?_ ?_ ?_ ?_ ?_) (pe_list (ds := [.int 1, .int 8638, .int 1255, .int 665, .int 26698, .int 120, .int 98]) ?_) (bo_add_list ?_))) ?_ ?_ ?_ ?_ ?_
  · show D.list (pickD _ none (some ((3 : Nat) : Int)) none ++ _) = _
    rw [pick_take]
    unfold nums
    rw [List.map_append, List.map_take]
    rfl
  · rfl
  · trivial
  · exact pe_int
  · trivial
  · intro e; cases e
  · show (pickD _ none (some ((3 : Nat) : Int)) none).length ≤ _
    rw [pick_take, List.length_take]; lia
  · exact pes_cons pe_int (pes_cons pe_int (pes_cons pe_int (pes_cons pe_int (pes_cons pe_int (pes_cons pe_int (pes_cons pe_int pes_nil))))))
  · show (pickD _ none (some ((3 : Nat) : Int)) none).length + _ ≤ _
    rw [pick_take, List.length_take]; simp; lia
  · exact .inr (by decide +kernel)
  · exact fun _ _ => rfl
  · decide +kernel
  · decide +kernel
  have h1 := h0.set "numbers" (.list ((nums ns).map .int))
  generalize ρ.set "numbers" (.list ((nums ns).map .int)) = ρ1 at h1 ⊢
  change PX _ _ _ _ _ _ (_ :: _) _
  with_reducible refine px_assign (d := .list (((nums ns).map D.int).map rowDD)) (pe_map (z := true) rowDD ?_ ?_ ?_ (pi_list (pe_name (h1.get ?_))) (fun d hd => ?_) ?_) ?_ ?_ ?_ ?_ ?_
  · decide +kernel
  · decide +kernel
  · decide +kernel
  · rfl
  · obtain ⟨x, hx, rfl⟩ := List.mem_map.mp hd
    show PE _ _ _ _ _ _ _ (.list [.str (verb x), .str (pth x)])
    with_reducible refine pe_list (pes_cons (pe_item_list (ds := [.str "leave", .str "take"]) (i := x.fmod 2) (pe_list (pes_cons pe_str (pes_cons pe_str pes_nil))) (pe_binop (a := .int x) (pe_name ?_) pe_int (bo_mod_int ?_)) (verbAt x)) (pes_cons (pe_call g2 ?_ (pes_cons (pe_call g1 ?_ (pes_cons (pe_binop (a := .int x) (pe_name ?_) pe_int (bo_div_int ?_ ?_)) pes_nil) (f1 (x.fdiv 4))) pes_nil) (f2 _ ?_ ?_)) pes_nil))
    · exact rfl
    · decide
    · decide +kernel
    · decide +kernel
    · exact rfl
    · decide
    · exact fdiv4_ok
    · exact piecesL_lt _
    · exact piecesL_len _
  · rw [List.length_map]; lia
  · exact .inr (by decide +kernel)
  · exact fun _ o => swaps_cell o (by decide +kernel)
  · decide +kernel
  · decide +kernel
  have h2 := h1.set "rows" (.list (((nums ns).map D.int).map rowDD))
  conv => arg 7; whnf
  refine px_nil ?_
  have e : ((nums ns).map D.int).map rowDD = (nums ns).map rowD := by rw [List.map_map]; rfl
  rw [e] at h2 ⊢
  exact h2.pick (l := [("rows", .list ((nums ns).map rowD)), ("numbers", .list ((nums ns).map .int))]) rfl rfl
end
end Mine
end

section
open PySem PySem.W PySem.Calls PyProof.Rows
set_option Elab.async false
set_option linter.unusedVariables false
set_option linter.unusedSectionVars false
set_option maxRecDepth 10000
namespace Mine
variable [Star]
section
variable {prog : Program} {w : World} {B : Heap} {n : Nat} {sc : Scope} {ρ : Rho}

theorem atD_range {α β : Type} {l : List α} {f : α → β} {k : Nat} {a : α} (h : l[k]? = some a) : atD (l.map f) (k : Int) = some (f a) := by
  unfold atD
  have hk := (List.getElem?_eq_some_iff.mp h).1
  rw [if_pos (by lia), Int.toNat_natCast, List.getElem?_map, h]
  rfl
theorem sepAt (k : Nat) : atD (" \t\r" : Str).cps.toList ((k : Int).fmod 3) = some (((" \t\r" : Str).cps[k % 3]?).getD 0) := by
  have e : (k : Int).fmod 3 = ((k % 3 : Nat) : Int) := by rw [Int.fmod_eq_emod_of_nonneg _ (by decide)]; lia
  rw [e]
  have h : k % 3 < 3 := Nat.mod_lt _ (by decide)
  generalize k % 3 = j at *
  have : j = 0 ∨ j = 1 ∨ j = 2 := by lia
  rcases this with rfl | rfl | rfl <;> rfl
theorem gluAt (k : Nat) : atD [D.str "\n", .str " ", .str "\n\n"] ((k : Int).fmod 3) = some (.str (([("\n" : Str), " ", "\n\n"])[k % 3]?.getD "")) := by
  have e : (k : Int).fmod 3 = ((k % 3 : Nat) : Int) := by rw [Int.fmod_eq_emod_of_nonneg _ (by decide)]; lia
  rw [e]
  have h : k % 3 < 3 := Nat.mod_lt _ (by decide)
  generalize k % 3 = j at *
  have : j = 0 ∨ j = 1 ∨ j = 2 := by lia
  rcases this with rfl | rfl | rfl <;> rfl

theorem rc_free {s1 : Scope} {x y : Str} {d e : D} (h : ρ.nm y = some e) (hy : (y == x) = false) (hl : s1.names.lookup y = some .free) : (rhoC s1 ρ x d).nm y = some e := by
  unfold rhoC; simp only; rw [if_neg (by simpa using hy), if_pos hl]; exact h
theorem rc_self {s1 : Scope} {x : Str} {d : D} : (rhoC s1 ρ x d).nm x = some d := by simp [rhoC]

theorem px_law2 (g : Gnd prog w B) (hn : 1 ≤ n) {ns : List Int} {ρ : Rho} (h0 : DI [] [("rows", .list ((nums ns).map rowD)), ("numbers", .list ((nums ns).map .int))] ρ) :
    PX prog w B n (fsc 37) ρ (((fb 37).drop 2).take 2) { nx := DI [] [("text", .str (textT (nums ns))), ("rows", .list ((nums ns).map rowD)), ("numbers", .list ((nums ns).map .int))] } := by
  obtain ⟨a1, g1, f1⟩ := fa_word (n := n) g hn
  have hN := nums_len ns
  have hsl : sizeLine = 2 ^ 24 := by decide
  generalize nums ns = N at *
  unfold fb stm
  change PX _ _ _ _ _ _ (_ :: _) _
  with_reducible refine px_assign (d := .list (((List.range (N.map rowD).length).map fun (i : Nat) => D.int (i : Int)).map (lineD N))) (pe_map (z := true) (lineD N) ?_ ?_ ?_ (pi_rlen_list g.b.range g.b.len ?_ ?_ (pe_name (h0.get ?_)) ?_) (fun d hd => ?_) ?_) ?_ ?_ ?_ ?_ ?_
  · decide +kernel
  · decide +kernel
  · decide +kernel
  · decide +kernel
  · decide +kernel
  · rfl
  · rw [List.length_map]; lia
  · obtain ⟨k, hk, rfl⟩ := List.mem_map.mp hd
    have hk' := List.mem_range.mp hk
    rw [List.length_map] at hk'
    obtain ⟨x, hx⟩ : ∃ x, N[k]? = some x := ⟨_, List.getElem?_eq_getElem hk'⟩
    show PE _ _ _ _ _ _ _ (.str (lineT N ((k : Int).toNat)))
    rw [Int.toNat_natCast]
    have el : lineT N k = verb x ++ sep3 k ++ wordT (pth x) x := by unfold lineT; rw [hx]; rfl
    rw [el]
    have l1 := verb_len x
    have l2 := wordT_len (pth x) x
    have l3 := pth_len x
    have l4 : (sep3 k).length = 1 := rfl
    have n1 : ρ.nm "rows" = some (.list (N.map rowD)) := h0.get rfl
    have n2 : ρ.nm "numbers" = some (.list (N.map .int)) := h0.get rfl
    with_reducible refine pe_binop (a := .str (verb x ++ sep3 k)) (pe_binop (a := .str (verb x)) (b := .str (sep3 k)) (pe_item_list (ds := [.str (verb x), .str (pth x)]) (i := 0) (d := .str (verb x)) (pe_item_list (ds := N.map rowD) (i := (k : Int)) (d := rowD x) (pe_name (rc_free n1 ?_ ?_)) (pe_name rc_self) (atD_range hx)) pe_int ?_) (pe_item_str (x := " \t\r") (i := (k : Int).fmod 3) (c := ((" \t\r" : Str).cps[k % 3]?).getD 0) pe_str (pe_binop (a := .int (k : Int)) (pe_name rc_self) pe_int (bo_mod_int ?_)) (sepAt k) ?_) (bo_add_str ?_)) (pe_call g1 ?_ (pes_cons (pe_item_list (ds := [.str (verb x), .str (pth x)]) (i := 1) (d := .str (pth x)) (pe_item_list (ds := N.map rowD) (i := (k : Int)) (d := rowD x) (pe_name (rc_free n1 ?_ ?_)) (pe_name rc_self) (atD_range hx)) pe_int ?_) (pes_cons (pe_item_list (ds := N.map .int) (i := (k : Int)) (d := .int x) (pe_name (rc_free n2 ?_ ?_)) (pe_name rc_self) (atD_range hx)) pes_nil)) (f1 (pth x) x ?_)) (bo_add_str ?_)
    · decide +kernel
    · decide +kernel
    · rfl
    · decide
    · decide +kernel
    · lia
    · decide +kernel
    · decide +kernel
    · decide +kernel
    · rfl
    · decide +kernel
    · decide +kernel
    · lia
    · rw [Str.length_append]; lia
  · rw [List.length_map, List.length_range, List.length_map]; lia
  · exact .inr (by decide +kernel)
  · exact fun _ o => swaps_cell o (by decide +kernel)
  · decide +kernel
  · decide +kernel
  have e2 : ((List.range (N.map rowD).length).map fun (i : Nat) => D.int (i : Int)).map (lineD N) = (List.range N.length).map fun k => D.str (lineT N k) := by
    rw [List.length_map, List.map_map]
    rfl
  rw [e2]
  have h1 := h0.set "lines" (.list ((List.range N.length).map fun k => D.str (lineT N k)))
  have n3 : (ρ.set "lines" (.list ((List.range N.length).map fun k => D.str (lineT N k)))).nm "lines" = some (.list ((List.range N.length).map fun k => D.str (lineT N k))) := Rho.set_eq
  generalize ρ.set "lines" (.list ((List.range N.length).map fun k => D.str (lineT N k))) = ρ1 at h1 n3 ⊢
  change PX _ _ _ _ _ _ (_ :: _) _
  have e3 : ((List.range ((List.range N.length).map fun k => D.str (lineT N k)).length).map fun (i : Nat) => D.int (i : Int)).map (glD N) = ((List.range N.length).map fun k => glueT k ++ lineT N k).map .str := by
    rw [List.length_map, List.length_range, List.map_map, List.map_map]
    rfl
  with_reducible refine px_assign (d := .str (textT N)) (pe_m1 (x := "") (a := .list (((List.range N.length).map fun k => glueT k ++ lineT N k).map .str)) pe_str (pe_to (congrArg D.list e3) (pe_map (z := true) (glD N) ?_ ?_ ?_ (pi_rlen_list g.b.range g.b.len ?_ ?_ (pe_name n3) ?_) (fun d hd => ?_) ?_)) (sm_join ?_)) ?_ ?_ ?_ ?_ ?_
  · decide +kernel
  · decide +kernel
  · decide +kernel
  · decide +kernel
  · decide +kernel
  · rw [List.length_map, List.length_range]; lia
  · obtain ⟨k, hk, rfl⟩ := List.mem_map.mp hd
    have hk' := List.mem_range.mp hk
    rw [List.length_map, List.length_range] at hk'
    show PE _ _ _ _ _ _ _ (.str (glueT ((k : Int).toNat) ++ lineT N ((k : Int).toNat)))
    rw [Int.toNat_natCast]
    have l1 := lineT_len N k
    have l2 := glueT_len k
    have hr : (List.range N.length)[k]? = some k := List.getElem?_range hk'
    with_reducible refine pe_binop (a := .str (glueT k)) (b := .str (lineT N k)) (pe_if' (q := decide ((0 : Int) < (k : Int))) (pt_cmp (a := .int k) (b := .int 0) (pe_name rc_self) pe_int bo_gt_int) (fun hq => ?_) (fun hq => ?_)) (pe_item_list (ds := (List.range N.length).map fun k => D.str (lineT N k)) (i := (k : Int)) (d := .str (lineT N k)) (pe_name (rc_free n3 ?_ ?_)) (pe_name rc_self) (atD_range hr)) (bo_add_str ?_)
    · have hk0 : 0 < k := by have := of_decide_eq_true hq; lia
      have eg : glueT k = (([("\n" : Str), " ", "\n\n"])[k % 3]?).getD "" := by unfold glueT; rw [if_pos hk0]
      rw [eg]
      with_reducible exact pe_item_list (ds := [.str "\n", .str " ", .str "\n\n"]) (i := (k : Int).fmod 3) (pe_list (pes_cons pe_str (pes_cons pe_str (pes_cons pe_str pes_nil)))) (pe_binop (a := .int (k : Int)) (pe_name rc_self) pe_int (bo_mod_int (by decide))) (gluAt k)
    · have hk0 : ¬ 0 < k := by have := of_decide_eq_false hq; lia
      have eg : glueT k = "" := by unfold glueT; rw [if_neg hk0]
      rw [eg]
      exact pe_str
    · decide +kernel
    · decide +kernel
    · lia
  · rw [List.length_map, List.length_range, List.length_map, List.length_range]; lia
  · refine joinOk_of (M := 102) (K := 10) (fun t ht => ?_) (by rw [List.length_map, List.length_range]; lia) (by decide +kernel)
    obtain ⟨k, _, rfl⟩ := List.mem_map.mp ht
    have l1 := lineT_len N k
    have l2 := glueT_len k
    rw [Str.length_append]
    lia
  · exact .inl (by decide +kernel)
  · exact fun _ _ => rfl
  · decide +kernel
  · decide +kernel
  have h2 := h1.set "text" (.str (textT N))
  conv => arg 7; whnf
  refine px_nil ?_
  exact h2.pick (l := [("text", .str (textT N)), ("rows", .list (N.map rowD)), ("numbers", .list (N.map .int))]) rfl rfl
end
end Mine
end

section
open PySem PySem.W PySem.Calls PyProof.Rows
set_option Elab.async false
set_option linter.unusedVariables false
set_option maxRecDepth 100000
namespace Mine
section
variable {prog : Program} {w : World} {A : Around} {E : Value → Shared → Prop} {R : Result → Shared → Prop} {s : Shared}
variable {elt t1 i1 t2 i2 : Expr} {scope : Scope} {pos : Pos} {it acc : Value} {env : Env}

noncomputable abbrev two (elt t1 i1 t2 i2 : Expr) (scope : Scope) (pos : Pos) : Expr := .ListComp elt [⟨t1, i1, [], 0⟩, ⟨t2, i2, [], 0⟩] scope pos

theorem compTurn_o : compTurn (two elt t1 i1 t2 i2 scope pos) 0 it acc env = (standAt i1.pos >>= fun _ => pyNext it >>= fun r => match r with
      | none => pure (.done .next)
      | some v => letOwnedTupleGo t1 it v >>= fun _ => assign t1 env v >>= fun _ => eval i2 env >>= fun x => standAt i2.pos >>= fun _ => foldedSetIterable i2 env x >>= fun x => holding [x] (pyIter x) >>= fun it2 =>
          runOwn (.compStart (two elt t1 i1 t2 i2 scope pos) 1 it2 acc env) env >>= fun _ =>
          again (.compLoop (two elt t1 i1 t2 i2 scope pos) 0 it acc env)) := by rfl
theorem compTurn_i : compTurn (two elt t1 i1 t2 i2 scope pos) 1 it acc env = (standAt i2.pos >>= fun _ => pyNext it >>= fun r => match r with
      | none => pure (.done .next)
      | some v => letOwnedTupleGo t2 it v >>= fun _ => assign t2 env v >>= fun _ =>
        (eval elt env >>= fun x => call (.builtin "list.append") [acc, x] >>= fun _ => pure ()) >>= fun _ =>
          again (.compLoop (two elt t1 i1 t2 i2 scope pos) 1 it acc env)) := by rfl

theorem codeAny_loop_i (I : Nat → Shared → Prop)
    (turn : ∀ n s, I n s → wpAny (model prog w) A (pyNext it) (fun r s₁ => match r with
      | none => R (.ok .next) s₁
      | some v => wpAny (model prog w) A (assign t2 env v) (fun _ s₂ => wpAny (model prog w) A (eval elt env) (fun x s₃ =>
          wpAny (model prog w) A (call (.builtin "list.append") [acc, x]) (fun _ s₄ => ∃ m, m < n ∧ I m s₄) (notedBy (model prog w) A env fun e s' => R (.error e) s') s₃)
          (notedBy (model prog w) A env fun e s' => R (.error e) s') s₂) (notedBy (model prog w) A env fun e s' => R (.error e) s') s₁) (notedBy (model prog w) A env fun e s' => R (.error e) s') s)
    (n : Nat) (h : I n s) (ht : ∀ v, letOwnedTupleGo t2 it v = pure () := by intro _; rfl) :
    codeAny (model prog w) A (.compLoop (two elt t1 i1 t2 i2 scope pos) 1 it acc env) R s := by
  refine codeAny_loop rfl I (fun n s hI => ?_) n h
  show wpAny _ _ ((compTurn (two elt t1 i1 t2 i2 scope pos) 1 it acc env).onRaise (fun x => do noteFrame x env; theTreesLotGoes x)) _ _ s
  refine wpAny_noted ?_
  rw [compTurn_i]
  refine wpAny_bind (wpAny_standAt (wpAny_bind (wpAny_mono (turn n s hI) (fun r s₁ h₁ => ?_) fun _ _ h' => h')))
  cases r with
  | none => exact wpAny_pure h₁
  | some v =>
    refine wpAny_bind (wpAny_of_eq (ht v) ?_)
    exact wpAny_bind (wpAny_mono h₁ (fun _ s₂ h₂ => wpAny_bind (wpAny_bind (wpAny_mono h₂ (fun x s₃ h₃ => wpAny_bind (wpAny_mono h₃
      (fun _ s₄ h₄ => wpAny_pure (wpAny_pure ⟨rfl, h₄⟩)) fun _ _ h' => h')) fun _ _ h' => h'))) fun _ _ h' => h')

theorem codeAny_loop_o (I : Nat → Shared → Prop)
    (turn : ∀ n s, I n s → wpAny (model prog w) A (pyNext it) (fun r s₁ => match r with
      | none => R (.ok .next) s₁
      | some v => wpAny (model prog w) A (assign t1 env v) (fun _ s₂ => wpAny (model prog w) A (eval i2 env) (fun x s₃ => wpAny (model prog w) A (pyIter x) (fun it2 s₄ =>
          codeAny (model prog w) A (.compStart (two elt t1 i1 t2 i2 scope pos) 1 it2 acc env) (fun r s₅ => match r with | .ok _ => ∃ m, m < n ∧ I m s₅ | .error e => cameBackBy (model prog w) A env (notedBy (model prog w) A env fun e s' => R (.error e) s') e s₅) s₄)
          (notedBy (model prog w) A env fun e s' => R (.error e) s') s₃)
          (notedBy (model prog w) A env fun e s' => R (.error e) s') s₂) (notedBy (model prog w) A env fun e s' => R (.error e) s') s₁) (notedBy (model prog w) A env fun e s' => R (.error e) s') s)
    (n : Nat) (h : I n s) (ht : ∀ v, letOwnedTupleGo t1 it v = pure () := by intro _; rfl) (hs : ∀ x, foldedSetIterable i2 env x = pure x := by intro _; rfl) :
    codeAny (model prog w) A (.compLoop (two elt t1 i1 t2 i2 scope pos) 0 it acc env) R s := by
  refine codeAny_loop rfl I (fun n s hI => ?_) n h
  show wpAny _ _ ((compTurn (two elt t1 i1 t2 i2 scope pos) 0 it acc env).onRaise (fun x => do noteFrame x env; theTreesLotGoes x)) _ _ s
  refine wpAny_noted ?_
  rw [compTurn_o]
  refine wpAny_bind (wpAny_standAt (wpAny_bind (wpAny_mono (turn n s hI) (fun r s₁ h₁ => ?_) fun _ _ h' => h')))
  cases r with
  | none => exact wpAny_pure h₁
  | some v =>
    refine wpAny_bind (wpAny_of_eq (ht v) ?_)
    refine wpAny_bind (wpAny_mono h₁ (fun _ s₂ h₂ => wpAny_bind (wpAny_mono h₂ (fun x s₃ h₃ => wpAny_bind (wpAny_standAt (wpAny_bind (wpAny_of_eq (hs x) (wpAny_bind (wpAny_holding (wpAny_mono h₃ (fun it2 s₄ h₄ => ?_) fun _ _ h' => h'))))))) fun _ _ h' => h')) fun _ _ h' => h')
    refine wpAny_bind (wpAny_runOwn ?_)
    rw [Around.mark_none]
    refine codeAny_mono h₄ fun r s' hr => ?_
    cases r with
    | ok f => exact wpAny_pure ⟨rfl, hr⟩
    | error e => exact hr

theorem codeAny_start_i (h0 : codeAny (model prog w) A (.compLoop (two elt t1 i1 t2 i2 scope pos) 1 it acc env) R s)
    (h : wpAny (model prog w) A (pyIter it) (fun it' s' => codeAny (model prog w) A (.compLoop (two elt t1 i1 t2 i2 scope pos) 1 it' acc env) R s')
      (notedBy (model prog w) A env fun x s' => R (.error x) s') s) :
    codeAny (model prog w) A (.compStart (two elt t1 i1 t2 i2 scope pos) 1 it acc env) R s := by
  refine codeAny_of_tree ?_
  show wpAny _ _ ((compStart (two elt t1 i1 t2 i2 scope pos) 1 it acc env).onRaise (fun x => do noteFrame x env; standAt theWindowsPlace)) _ _ s
  refine wpAny_notedAt ?_
  unfold compStart
  show wpAny _ _ (ask >>= _) _ _ s
  refine wpAny_bind (wpAny_askSetting (wpAny_ite ?_))
  split
  · first
      | exact wpAny_bind (wpAny_pure (wpAny_pure (And.intro rfl h0)))
      | exact wpAny_pure (And.intro rfl h0)
  · first
      | exact wpAny_bind (wpAny_rule (wpAny_bind (wpAny_standAt (wpAny_bind (wpAny_mono h (fun it' s' h' => wpAny_pure (And.intro rfl h')) fun _ _ x => x)))))
      | (refine wpAny_bind (wpAny_rule ?_); show wpAny _ _ (standAt i2.pos >>= _) _ _ s; exact wpAny_bind (wpAny_standAt (wpAny_bind (wpAny_mono h (fun it' s' h' => wpAny_pure (And.intro rfl h')) fun _ _ x => x))))
end
end Mine
end

section
open PySem PySem.W PySem.Calls PyProof.Rows
set_option Elab.async false
set_option maxHeartbeats 2000000
set_option linter.unusedVariables false
set_option linter.unusedSectionVars false
set_option maxRecDepth 10000
namespace Mine
variable [Star]
section
variable {prog : Program} {w : World} {B : Heap} {z : Bool} {n : Nat} {sc : Scope} {ρ : Rho}

theorem Cx.less {X X' : Nat → Prop} {s : Shared} (c : Cx B X s) (k : ∀ b, X' b → X b) (ht : X' Mine.tb) : Cx B X' s :=
  ⟨c.base, fun b q => c.xlt b (k b q), fun b q => c.xb b (k b q), ht, c.ti.move (fun _ _ _ e => e) fun b q => .inl (k b q), c.gn⟩

theorem comp_core2 {elt it1 it2 : Expr} {x y : Str} {px py : Pos} {scope : Scope} {pos : Pos} {ds : List D} (G : D → List D) (F : D → D) (ok : compOk scope sc x = true) (ok2 : compOk scope sc y = true)
    (hxd : (x == ("__debug__" : Str)) = false) (hxc : (x == ("__classdict__" : Str)) = false) (hyd : (y == ("__debug__" : Str)) = false) (hyc : (y == ("__classdict__" : Str)) = false)
    (hsrc : PI prog w B z n sc ρ it1 ds) (hsrc2 : ∀ d ∈ ds, PI prog w B true n (relS scope sc) (rhoC scope ρ x d) it2 (G d)) (helt : ∀ d ∈ ds, ∀ e ∈ G d, PE prog w B n (relS scope sc) (rhoC scope ρ y e) elt (F e)) (hz : (ds.flatMap G).length ≤ 100000)
    (hs2 : ∀ env x, foldedSetIterable it2 env x = pure x)
    {A : Around} {env : Env} {E : Value → Shared → Prop} {s : Shared} {X : Nat → Prop} {RR : Value → Nat → Result → Shared → Prop} (r : Room n A) (o : Eo sc env) (c : Cx B X s) (v : Vs env s.heap X ρ)
    (hRR : ∀ D C s' m vs, Ks X s s' → TI s'.heap (fun b => X b ∨ b = D ∨ b = C) → s.heap.objs.size ≤ D → s.heap.objs.size ≤ C → D ≠ C → s'.heap.Ns C m → s'.heap.PlainList D vs.toArray → Tls s'.heap (fun b => X b ∨ b = D ∨ b = C) vs ((ds.flatMap G).map F) → RR (.ref D) C (.ok .next) s') :
    wpAny (model prog w) A (eval it1 env) (fun xv s1 => wpAny (model prog w) A (pyIter xv) (fun it s2 => wpAny (model prog w) A (newList []) (fun acc s3 =>
      wpAny (model prog w) A (newFunctionEnv scope env.globals (clOf env scope.names []) [] env.qual none .none (some env)) (fun cenv s4 =>
        codeAny (model prog w) A (.compStart (two elt (.Name x px) it1 (.Name y py) it2 scope pos) 0 it acc { cenv with scope := relabel scope env }) (RR acc cenv.locals) s4) E s3) E s2) E s1) E s := by
  refine hsrc A env E s X _ r o c v fun I fp wr P St s2 k2 W st ⟨hfp, _⟩ hwr c2 hP => ?_
  refine wpAny_newObj_type (wpAny_newFunctionEnv (compOk.cell ok) (by intro y hy; simp at hy) (fun h₁ hns hsb => ?_) (compOk.kind ok))
  dsimp only at hns hsb ⊢
  generalize hH2 : s2.heap.push { cls := .type "list", dict := none, data := .seq ([] : List Value).toArray } = H2 at hns hsb ⊢
  generalize hD : s2.heap.objs.size = D at *
  have hC : H2.objs.size = D + 1 := by rw [← hH2, Heap.size_push, hD]
  generalize hCe : H2.objs.size = C at *
  have hDC : D ≠ C := by lia
  have old : ∀ b ob, s2.heap.get? b = some ob → h₁.get? b = some ob := fun b ob e => by
    have hb := ltz e
    rw [hD] at hb
    refine hsb.extBut b ob (nen (by lia)) (Heap.get?_push_of_some _ ?_)
    rw [← hH2]; exact Heap.get?_push_of_some _ e
  have hDl : h₁.PlainList D #[] := by
    refine ⟨0, hsb.extBut D _ hDC (Heap.get?_push_of_some _ ?_)⟩
    rw [← hH2, ← hD]; exact Heap.get?_push_size _ rfl
  have htbD : tb < D := by have := c2.xlt _ c2.tb; lia
  have hwD : ∀ b ∈ wr, b < D := fun b hb => by have := (hwr b hb).2; assumption
  have hsD : s.heap.objs.size ≤ D := by rw [← hD]; exact k2.sz
  have hXD : ∀ b, X b → b < D := fun b hb => Nat.lt_of_lt_of_le (c.xlt b hb) hsD
  let X₂ : Nat → Prop := fun b => (X b ∨ b ∈ wr) ∨ b = D ∨ b = C
  have hX₂C : ∀ b, X₂ b → b ≤ C := fun b hb => by
    rcases hb with (hb | hb) | hb | hb
    · have := hXD b hb; lia
    · have := hwD b hb; lia
    · lia
    · lia
  have cX : ∀ b, X₂ b → (X b ∨ b ∈ wr) ∨ s2.heap.objs.size ≤ b := fun b hb => hb.imp_right fun q => by rw [hD]; rcases q with q | q <;> lia
  have c4 : Cx B X₂ { s2 with heap := h₁, toks := s2.toks + ([] : List (Str × Value)).length } :=
    c2.more (fun b q => .inl q) cX (fun b q => Nat.lt_of_le_of_lt (hX₂C b q) (nsz hns)) old rfl
  let Inv : Nat → Shared → Prop := fun i s' => St i s'.heap ∧ i ≤ ds.length ∧ Cx B X₂ s' ∧ s'.os = s.os ∧ s'.drawn = s.drawn ∧
    (∀ b ob, b ≠ tb → b ∉ wr → b ≠ D → b ≠ C → s2.heap.get? b = some ob → s'.heap.get? b = some ob) ∧
    (∃ ys : List Value, s'.heap.PlainList D ys.toArray ∧ Tls s'.heap X₂ ys (((ds.take i).flatMap G).map F)) ∧ ∃ m, s'.heap.Ns C m
  have st1 : St 0 h₁ := W.frame _ _ _ st fun b _ ob e => old b ob e
  have inv0 : Inv 0 { s2 with heap := h₁, toks := s2.toks + ([] : List (Str × Value)).length } :=
    ⟨st1, Nat.zero_le _, c4, k2.os, k2.dr, fun b ob _ _ _ _ e => old b ob e, ⟨[], hDl, by simpa using Tls.nil⟩, _, hns⟩
  have htb1 : tb ∉ wr := fun q => by have := (hwr _ q).1; have := c.xlt _ c.tb; lia
  have hCw : C ∉ wr := fun q => by have := hwD _ q; lia
  have hDw : D ∉ wr := fun q => by have := hwD _ q; lia
  have nC : C ≠ tb := by lia
  have nD : D ≠ tb := by lia
  have oT := comp_eo (C := C) ok o
  have hkindf : (compEnvC scope (clOf env scope.names []) C env).scope.kind = .function := by show scope.kind = _; exact compOk.kind ok
  have hlenG : ∀ i d, ds[i]? = some d → ∀ j, j ≤ (G d).length → (((ds.take i).flatMap G) ++ (G d).take j).length ≤ 100000 := fun i d hd j hj => by
    have e1 : ds = ds.take i ++ d :: ds.drop (i + 1) := by
      have hlt := (List.getElem?_eq_some_iff.mp hd).1
      have e := (List.getElem?_eq_some_iff.mp hd).2
      rw [← e, List.getElem_cons_drop, List.take_append_drop]
    have e2 : (ds.flatMap G).length = ((ds.take i).flatMap G).length + ((G d).length + ((ds.drop (i + 1)).flatMap G).length) := by
      conv => lhs; rw [e1]
      rw [List.flatMap_append, List.length_append, List.flatMap_cons, List.length_append]
    rw [List.length_append, List.length_take]
    lia
  have key : ∀ s0 : Shared, Inv 0 s0 → codeAny (model prog w) A (.compLoop (two elt (.Name x px) it1 (.Name y py) it2 scope pos) 0 (.ref I) (.ref D) (compEnvC scope (clOf env scope.names []) C env)) (RR (.ref D) C) s0 := fun s0 h0 => by
    refine codeAny_loop_o (fun k s' => ∃ i, Inv i s' ∧ k = ds.length + 1 - i) ?_ (ds.length + 1) ⟨0, h0, rfl⟩ (by intro _; rfl) (hs2 _)
    rintro k s' ⟨i, ⟨hst, hi, hc, hos, hdr, hkp, ⟨ys, hys, hts⟩, m, hm⟩, rfl⟩
    by_cases hlt : i < ds.length
    · refine W.item i _ _ _ hlt hst fun u h1 tk1 hPu hst1 hk1 => ?_
      obtain ⟨d, hd, htu⟩ := hP i u hlt hPu
      have hdm : d ∈ ds := List.mem_of_getElem? hd
      have hm1 : h1.Ns C m := hm.at' fun ob e => hk1 C ob hCw e
      refine wpAny_assign_Name (wpAny_storeName_local (env := compEnvC scope (clOf env scope.names []) C env) ?_ hm1 (fun h2 hn2 hs2 => ?_) ?_)
      · show (relabel scope env).names.lookup x = _
        rw [relS_eq, o.iss, relS_lookup, compOk.name ok]; rfl
      · have up : ∀ b ob, b ≠ C → b ∉ wr → s'.heap.get? b = some ob → h2.get? b = some ob := fun b ob hb hw e => hs2.extBut b ob hb (hk1 b ob hw e)
        have cT : Cx B X₂ { s' with heap := h2, toks := tk1 + 1 } := hc.turn' (fun b ob hb e => by
          rcases hb with hb | hb
          · exact up b ob (fun z => hb (.inr (.inr z))) (fun z => hb (.inl (.inr z))) e
          · exact up b ob (by lia) (hb ▸ htb1) e) (fun b q => Nat.lt_of_le_of_lt (hX₂C b q) (nsz hn2)) rfl
        have hall : ∀ b ob, b < s.heap.objs.size → b ≠ tb → s.heap.get? b = some ob → h2.get? b = some ob := fun b ob hb ht e => by
          have e2 := k2.kp b ob ht e
          have hbw : b ∉ wr := fun q => by have := (hwr _ q).1; lia
          exact up b ob (by lia) hbw (hkp b ob ht hbw (by lia) (by lia) e2)
        have ht2 : Tl h2 X₂ u d := by
          refine htu.move (fun b ob nb e => ?_) fun b q => by rw [hD]; exact q.imp_right fun q => by rcases q with q | q <;> lia
          have hb := ltz e
          rw [hD] at hb
          exact up b ob (by lia) (fun z => nb (.inr z)) (hkp b ob (fun z => nb (.inl (z ▸ c.tb))) (fun z => nb (.inr z)) (by lia) (by lia) e)
        have vT : Vs (compEnvC scope (clOf env scope.names []) C env) h2 X₂ (rhoC scope ρ x d) :=
          comp_vs ok o v (fun b ob hb _ ht e => hall b ob hb ht e) (fun b q => by
            rcases q with (q | q) | q
            · exact .inl q
            · exact .inr (hwr b q).1
            · right; rcases q with q | q <;> lia) c.tb (by assumption) hn2 (by simp) ht2 hxd hxc
        have hys2 : h2.PlainList D ys.toArray := hys.at fun ob e => up D ob hDC hDw e
        have hts2 : Tls h2 X₂ ys (((ds.take i).flatMap G).map F) := hts.move (fun b ob nb e => up b ob (fun z => nb (.inr (.inr z))) (fun z => nb (.inl (.inr z))) e) fun b q => .inl q
        have hCh2 : C < h2.objs.size := nsz hn2
        have hs2sz : s.heap.objs.size ≤ h2.objs.size := by lia
        -- the inner source
        refine hsrc2 d hdm A _ _ { s' with heap := h2, toks := tk1 + 1 } X₂ _ r oT cT vT fun I2 fp2 wr2 P2 St2 s3 k3 W2 st2 ⟨hfp2, hz2⟩ hwr2 c3 hP2 => ?_
        obtain ⟨hw2e, hIs⟩ := hz2 rfl
        have w2C : ∀ b ∈ wr2, C < b := fun b hb => by have := (hwr2 b hb).1; have h' : h2.objs.size ≤ b := this; grind
        let X₃ : Nat → Prop := fun b => X₂ b ∨ b ∈ wr2
        let Inv2 : Nat → Shared → Prop := fun j s'' => St2 j s''.heap ∧ j ≤ (G d).length ∧ Cx B X₃ s'' ∧ s''.os = s3.os ∧ s''.drawn = s3.drawn ∧
          (∀ b ob, b ≠ tb → b ∉ wr2 → b ≠ D → b ≠ C → s3.heap.get? b = some ob → s''.heap.get? b = some ob) ∧
          (∃ zs : List Value, s''.heap.PlainList D zs.toArray ∧ Tls s''.heap X₃ zs (((ds.take i).flatMap G).map F ++ ((G d).take j).map F)) ∧ ∃ m, s''.heap.Ns C m
        have x32 : ∀ b, X₃ b → X₂ b ∨ h2.objs.size ≤ b := fun b q => q.imp_right fun q => (hwr2 b q).1
        have kp3 : ∀ b ob, ¬ X₂ b → h2.get? b = some ob → s3.heap.get? b = some ob := fun b ob nb e => k3.kp b ob (fun z => nb (.inl (.inl (z ▸ c.tb)))) e
        have i20 : Inv2 0 s3 := ⟨st2, Nat.zero_le _, c3, rfl, rfl, fun _ _ _ _ _ _ e => e, ⟨ys, hys2.at fun ob e => k3.kp D ob nD e, by
          have := hts2.move (h' := s3.heap) (X' := X₃) kp3 x32
          simpa using this⟩, _, hn2.at' fun ob e => k3.kp C ob nC e⟩
        have htb2 : tb ∉ wr2 := fun q => by have := w2C _ q; lia
        have hC2 : C ∉ wr2 := fun q => by have := w2C _ q; lia
        have hD2 : D ∉ wr2 := fun q => by have := w2C _ q; lia
        have hws3 : ∀ b ∈ wr2, b < s3.heap.objs.size := fun b hb => (hwr2 b hb).2
        have hs3sz : h2.objs.size ≤ s3.heap.objs.size := k3.sz
        -- after the inner loop
        have fin2 : ∀ s5 : Shared, Cx B X₂ s5 → s5.os = s3.os → s5.drawn = s3.drawn → (∀ b ob, b ≠ tb → b ∉ wr2 → b ≠ D → b ≠ C → s3.heap.get? b = some ob → s5.heap.get? b = some ob) →
            (∃ zs : List Value, s5.heap.PlainList D zs.toArray ∧ Tls s5.heap X₂ zs (((ds.take i).flatMap G).map F ++ (G d).map F)) → (∃ m, s5.heap.Ns C m) → ∃ m', m' < ds.length + 1 - i ∧ ∃ j, Inv j s5 ∧ m' = ds.length + 1 - j := fun s5 q3 q4 q5 q6 ⟨zs, q7, q8⟩ q9 => by
          have kp5 : ∀ b ob, b ≠ tb → b ≠ D → b ≠ C → b < h2.objs.size → h2.get? b = some ob → s5.heap.get? b = some ob := fun b ob b1 b2 b3 b4 e => q6 b ob b1 (fun q => by have h := (hwr2 b q).1; have h' : h2.objs.size ≤ b := h; lia) b2 b3 (k3.kp b ob b1 e)
          refine ⟨ds.length + 1 - (i + 1), by grind, i + 1, ⟨?_, hlt, q3, q4.trans (k3.os.trans hos), q5.trans (k3.dr.trans hdr), fun b ob b1 b2 b3 b4 e => kp5 b ob b1 b3 b4 (by have := ltz e; lia) (up b ob b4 b2 (hkp b ob b1 b2 b3 b4 e)), ⟨zs, q7, ?_⟩, q9⟩, rfl⟩
          · refine W.frame _ _ _ hst1 fun b hb ob e => ?_
            have hb' := hfp b hb
            have hbD : b < D := by have := hb'.1; assumption
            exact kp5 b ob hb'.2.1 (by lia) (by lia) (by lia) (hs2.extBut b ob (nen (a := b) (b := C) (by lia)) e)
          · rw [take_succ_eq hd, List.flatMap_append, List.map_append]
            simpa using q8
        have key2 : codeAny (model prog w) A (.compLoop (two elt (.Name x px) it1 (.Name y py) it2 scope pos) 1 (.ref I2) (.ref D) (compEnvC scope (clOf env scope.names []) C env)) (fun r s₅ => match r with | .ok _ => ∃ m, m < ds.length + 1 - i ∧ (fun k s' => ∃ i, Inv i s' ∧ k = ds.length + 1 - i) m s₅ | .error e => cameBackBy (model prog w) A (compEnvC scope (clOf env scope.names []) C env) (notedBy (model prog w) A (compEnvC scope (clOf env scope.names []) C env) fun e s' => RR (.ref D) C (.error e) s') e s₅) s3 := by
          refine codeAny_loop_i (fun k s' => ∃ j, Inv2 j s' ∧ k = (G d).length + 1 - j) ?_ ((G d).length + 1) ⟨0, i20, rfl⟩ (by intro _; rfl)
          rintro k s'' ⟨j, ⟨jst, hj, jc, jos, jdr, jkp, ⟨zs, hzs, jts⟩, mj, hmj⟩, rfl⟩
          by_cases hlt2 : j < (G d).length
          · refine W2.item j _ _ _ hlt2 jst fun u3 h5 tk5 hPu3 hst5 hk5 => ?_
            obtain ⟨e, he, hte⟩ := hP2 j u3 hlt2 hPu3
            have hem : e ∈ G d := List.mem_of_getElem? he
            have hm5 : h5.Ns C mj := hmj.at' fun ob e => hk5 C ob hC2 e
            refine wpAny_assign_Name (wpAny_storeName_local (env := compEnvC scope (clOf env scope.names []) C env) ?_ hm5 (fun h6 hn6 hs6 => ?_) ?_)
            · show (relabel scope env).names.lookup y = _
              rw [relS_eq, o.iss, relS_lookup, compOk.name ok2]; rfl
            · have up6 : ∀ b ob, b ≠ C → b ∉ wr2 → s''.heap.get? b = some ob → h6.get? b = some ob := fun b ob hb hw e => hs6.extBut b ob hb (hk5 b ob hw e)
              have hCh6 : C < h6.objs.size := nsz hn6
              have hI6 : I2 < h6.objs.size := by
                obtain ⟨oI, vsI, tI, g1, _⟩ := hIs _ _ hst5
                have hIC : I2 ≠ C := fun z => hC2 (by rw [hw2e, z]; simp)
                exact ltz (hs6.extBut I2 oI hIC g1)
              have c6 : Cx B X₃ { s'' with heap := h6, toks := tk5 + 1 } := jc.turn' (fun b ob hb e => by
                rcases hb with hb | hb
                · exact up6 b ob (fun z => hb (.inl (.inr (.inr z)))) (fun z => hb (.inr z)) e
                · exact up6 b ob (by lia) (hb ▸ htb2) e) (fun b q => by
                show b < h6.objs.size
                rcases q with q | q
                · exact Nat.lt_of_le_of_lt (hX₂C b q) hCh6
                · rw [hw2e] at q; simp at q; rw [q]; exact hI6) rfl
              have hall6 : ∀ b ob, b < s.heap.objs.size → b ≠ tb → s.heap.get? b = some ob → h6.get? b = some ob := fun b ob hb ht e => by
                have e3 := k3.kp b ob ht (hall b ob hb ht e)
                have hw : b ∉ wr2 := fun q => by have := w2C _ q; lia
                exact up6 b ob (by lia) hw (jkp b ob ht hw (by lia) (by lia) e3)
              have t6 : Tl h6 X₃ u3 e := by
                have he3 : Tl s3.heap X₃ u3 e := hte
                refine he3.move (fun b ob nb q => ?_) fun b q => .inl q
                exact up6 b ob (fun z => nb (.inl (.inr (.inr z)))) (fun z => nb (.inr z)) (jkp b ob (fun z => nb (.inl (.inl (.inl (z ▸ c.tb))))) (fun z => nb (.inr z)) (fun z => nb (.inl (.inr (.inl z)))) (fun z => nb (.inl (.inr (.inr z)))) q)
              have v6 : Vs (compEnvC scope (clOf env scope.names []) C env) h6 X₃ (rhoC scope ρ y e) :=
                comp_vs ok2 o v (fun b ob hb _ ht e => hall6 b ob hb ht e) (fun b q => by
                  rcases q with ((q | q) | q) | q
                  · exact .inl q
                  · exact .inr (hwr b q).1
                  · right; rcases q with q | q <;> lia
                  · right; have := w2C b q; lia) c.tb (by assumption) hn6 (by simp) t6 hyd hyc
              · refine helt d hdm e hem A _ _ { s'' with heap := h6, toks := tk5 + 1 } X₃ _ r oT c6 v6 fun yv s7 k7 ty => ?_
                have hzs7 : s7.heap.PlainList D zs.toArray := hzs.at fun ob q => k7.kp D ob nD (up6 D ob hDC hD2 q)
                have hlen : zs.length ≤ 100000 := by
                  have h1 := jts.length
                  have h2 := hlenG i d hd j (by assumption)
                  rw [h1, List.length_append, List.length_map, List.length_map]
                  rw [List.length_append] at h2
                  exact h2
                refine wpAny_list_append_plain hzs7 (fun h8 hl8 hs8 => ?_) (by rw [List.size_toArray, sizeLine_eq]; lia)
                have c8 : Cx B X₃ { s7 with heap := h8 } := (k7.cx c6).turn' (fun b ob hb q => hs8.extBut b ob (by
                  rcases hb with hb | hb
                  · exact fun z => hb (.inl (.inr (.inl z)))
                  · exact nen (by lia)) q) (fun b q => Nat.lt_of_lt_of_le ((k7.cx c6).xlt b q) (Nat.le_of_eq hs8.1.symm)) rfl
                have kp8 : ∀ b ob, b ≠ tb → b ∉ wr2 → b ≠ D → b ≠ C → s''.heap.get? b = some ob → h8.get? b = some ob := fun b ob b1 b2 b3 b4 q => hs8.extBut b ob b3 (k7.kp b ob b1 (up6 b ob b4 b2 q))
                refine ⟨(G d).length + 1 - (j + 1), by grind, j + 1, ⟨?_, hlt2, c8, k7.os.trans jos, k7.dr.trans jdr, fun b ob b1 b2 b3 b4 q => kp8 b ob b1 b2 b3 b4 (jkp b ob b1 b2 b3 b4 q), ⟨zs ++ [yv], by simpa using hl8, ?_⟩, ⟨_, hn6.at' (h' := h8) fun ob q => hs8.extBut C ob (Ne.symm hDC) (k7.kp C ob nC q)⟩⟩, rfl⟩
                · refine W2.frame _ _ _ hst5 fun b hb ob q => ?_
                  have hb' := hfp2 b hb
                  have hbX : b ∈ wr2 ∨ ¬ X₂ b := hb'.2.2
                  have nbD : b ≠ D := fun z => hbX.elim (fun q => hD2 (z ▸ q)) fun q => q (.inr (.inl z))
                  have nbC : b ≠ C := fun z => hbX.elim (fun q => hC2 (z ▸ q)) fun q => q (.inr (.inr z))
                  exact hs8.extBut b ob nbD (k7.kp b ob hb'.2.1 (hs6.extBut b ob nbC q))
                · rw [take_succ_eq he, List.map_append]
                  have mv : ∀ b ob, ¬ X₃ b → s7.heap.get? b = some ob → h8.get? b = some ob := fun b ob nb q => hs8.extBut b ob (fun z => nb (.inl (.inr (.inl z)))) q
                  have t0 : Tls h6 X₃ zs (((ds.take i).flatMap G).map F ++ ((G d).take j).map F) := jts.move (fun b ob nb q => up6 b ob (fun z => nb (.inl (.inr (.inr z)))) (fun z => nb (.inr z)) q) fun b q => .inl q
                  have t1 := (k7.tls c6 t0).move mv fun b q => .inl q
                  have t2 := ty.move mv fun b q => .inl q
                  have t3 := t1.append (.cons t2 .nil)
                  rw [List.append_assoc] at t3
                  exact t3
            · rw [hkindf]; rfl
          · have hjn : j = (G d).length := by lia
            subst hjn
            refine W2.done _ _ _ jst fun h5 tk5 hk5 => ?_
            have hm5 : h5.Ns C mj := hmj.at' fun ob e => hk5 C ob hC2 e
            have hCh5 : C < h5.objs.size := nsz hm5
            have c5 : Cx B X₂ { s'' with heap := h5, toks := tk5 } := ⟨fun b ob e => hk5 b ob (fun q => by have h := jc.xb b (.inr q); rw [h] at e; cases e) (jc.base b ob e), fun b q => Nat.lt_of_le_of_lt (hX₂C b q) hCh5, fun b q => jc.xb b (.inl q), .inl (.inl c.tb),
              jc.ti.move (fun b ob q e => hk5 b ob (fun z => q.elim (fun q => q (.inr z)) fun q => htb2 (q ▸ z)) e) fun b q => .inl (.inl q), jc.gn⟩
            have q8 : Tls h5 X₂ zs (((ds.take i).flatMap G).map F ++ (G d).map F) := by
              have := jts.move (h' := h5) (X' := X₂) (fun b ob nb e => hk5 b ob (fun z => nb (.inr z)) e) fun b q => .inl (.inl q)
              rw [List.take_length] at this
              exact this
            obtain ⟨m', g1, g2⟩ := fin2 { s'' with heap := h5, toks := tk5 } c5 jos jdr (fun b ob b1 b2 b3 b4 e => hk5 b ob b2 (jkp b ob b1 b2 b3 b4 e)) ⟨zs, hzs.at fun ob e => hk5 D ob hD2 e, q8⟩ ⟨mj, hm5⟩
            exact ⟨m', g1, g2⟩
        exact codeAny_start_i key2 (W2.self 0 _ _ _ st2 key2)
      · rw [hkindf]; rfl
    · have hin : i = ds.length := by lia
      subst hin
      refine W.done _ _ _ hst fun h1 tk1 hk1 => ?_
      have hm1 : h1.Ns C m := hm.at' fun ob e => hk1 C ob hCw e
      have cT : Cx B X₂ { s' with heap := h1, toks := tk1 } := hc.turn' (fun b ob hb e => by
          rcases hb with hb | hb
          · exact hk1 b ob (fun z => hb (.inl (.inr z))) e
          · exact hk1 b ob (hb ▸ htb1) e) (fun b q => Nat.lt_of_le_of_lt (hX₂C b q) (nsz hm1)) rfl
      refine hRR D C _ m ys ⟨hos, hdr, fun b ob bt e => ?_, ?_, fun _ => cT.ti.move (fun _ _ _ e => e) fun b q => .inl (.inl (.inl q)), fun _ => cT.gn⟩ (cT.ti.move (fun _ _ _ e => e) fun b q => .inl (by rcases q with q | q; exact .inl (.inl q); exact .inr q)) hsD (by lia) hDC hm1 (hys.at fun ob e => hk1 D ob hDw e) ?_
      · have hb := ltz e
        have hbw : b ∉ wr := fun q => by have := (hwr _ q).1; lia
        exact hk1 b ob hbw (hkp b ob bt hbw (by lia) (by lia) (k2.kp b ob bt e))
      · have := nsz hm1
        show s.heap.objs.size ≤ h1.objs.size
        lia
      · have := hts.move (h' := h1) (X' := fun b => X b ∨ b = D ∨ b = C) (fun b ob nb e => hk1 b ob (fun z => nb (.inl (.inr z))) e) fun b q => .inl (by rcases q with q | q; exact .inl (.inl q); exact .inr q)
        simpa using this
  show codeAny _ _ (.compStart _ 0 _ _ (compEnvC scope (clOf env scope.names []) C env)) _ _
  exact codeAny_compStart_list (key _ inv0) (W.self 0 _ _ _ st1 (key _ inv0))

theorem pe_comp2 {elt it1 it2 : Expr} {x y : Str} {px py : Pos} {scope : Scope} {pos : Pos} {ds : List D} (G : D → List D) (F : D → D) (ok : compOk scope sc x = true) (ok2 : compOk scope sc y = true)
    (hxd : (x == ("__debug__" : Str)) = false) (hxc : (x == ("__classdict__" : Str)) = false) (hyd : (y == ("__debug__" : Str)) = false) (hyc : (y == ("__classdict__" : Str)) = false)
    (hsrc : PI prog w B z n sc ρ it1 ds) (hsrc2 : ∀ d ∈ ds, PI prog w B true n (relS scope sc) (rhoC scope ρ x d) it2 (G d)) (helt : ∀ d ∈ ds, ∀ e ∈ G d, PE prog w B n (relS scope sc) (rhoC scope ρ y e) elt (F e)) (hz : (ds.flatMap G).length ≤ 100000)
    (hs : ∀ env x, foldedSetIterable it1 env x = pure x := by intro _ _; with_unfolding_all rfl) (hs2 : ∀ env x, foldedSetIterable it2 env x = pure x := by intro _ _; with_unfolding_all rfl) :
    PE prog w B n sc ρ (.ListComp elt [⟨.Name x px, it1, [], 0⟩, ⟨.Name y py, it2, [], 0⟩] scope pos) (.list ((ds.flatMap G).map F)) := fun A env E s X Q r o c v k => by
  have hcl : closureFor scope env = pure (clOf env scope.names []) := closure_eq fun y hy => by
    obtain ⟨cc, e, _⟩ := o.cells y (compOk.free ok y hy)
    rw [e]; rfl
  show wpAny _ _ (comprehension (two elt (.Name x px) it1 (.Name y py) it2 scope pos) scope env _ (newList []) false (eval it1 env)) _ _ _
  refine wpAny_comprehension_free (use := none) rfl (hs env) hcl (compOk.kind ok) (compOk.loc ok) ?_
  refine comp_core2 (RR := fun acc C => compPost (model prog w) A E none Q acc C) G F ok ok2 hxd hxc hyd hyc hsrc hsrc2 helt hz hs2 r o c v ?_
  intro D C s' m vs ks hti hD hC hDC hm hl ts
  refine ⟨m, hm, fun h' hs' => k _ _ ⟨ks.os, ks.dr, fun b ob bt e => hs'.extBut b ob (by have := ltz e; exact nen (by lia)) (ks.kp b ob bt e), by have := ks.sz; have := hs'.1; show s.heap.objs.size ≤ h'.objs.size; lia, fun _ => ?_, ks.gn⟩ ?_⟩
  · refine hti.move (fun b ob q e => hs'.extBut b ob (fun z => ?_) e) fun b q => .inl (.inl q)
    rcases q with q | q
    · exact q (.inr (.inr z))
    · have := c.xlt _ c.tb
      rw [q] at z
      have z' : tb = C := z
      lia
  · have hlen := ts.length
    rw [List.length_map] at hlen
    refine .list (hl.extBut hs'.extBut hDC) (fun q => by have := c.xlt _ q; lia) (by lia) (ts.move (fun b ob q e => hs'.extBut b ob (fun z => q (.inr (.inr z))) e) fun b q => .inl (.inl q))
end
end Mine
end

section
open PySem PySem.W PySem.Calls PyProof.Rows
set_option Elab.async false
set_option linter.unusedVariables false
set_option linter.unusedSectionVars false
set_option maxRecDepth 10000
namespace Mine

noncomputable def comL (y : Str) : List Str := (Txt.split ("r/" ++ y) "/").foldl nstep []
noncomputable def nmT (y : Str) : Str := "/" ++ Txt.join "/" (comL y)
noncomputable def nmL (L : List Int) : List Str := (Txt.split (nmT (pathT L)) "/").drop 1
noncomputable def nstepP (acc : List Str) (p : Int) : List Str := if p < 12 then acc ++ [pieceT p] else if p == 12 then acc else acc.dropLast
noncomputable def nmsL (L : List Int) : List Str := L.foldl nstepP ["r"]
noncomputable def p14 : List Int := [0,1,2,3,4,5,6,7,8,9,10,11,12,13]
noncomputable def okNm (L : List Int) : Bool := (nmL L == if (nmsL L).isEmpty then [("" : Str)] else nmsL L) && decide ((Txt.split ("r/" ++ pathT L) "/").length ≤ 10) && ((Txt.split ("r/" ++ pathT L) "/").all fun t => decide (t.length ≤ 100)) && !(Txt.startswith (pathT L) "/") && ((nmL L).all fun t => allNames.contains t) && decide ((nmT (pathT L)).length ≤ 100)
  && (Txt.slice ("/r" ++ ("/" ++ pathT L)) (some 1) none == "r/" ++ pathT L) && !(Txt.slice ("/r" ++ ("/" ++ pathT L)) none (some 1) != "/") && (Txt.slice ("/r" ++ ("/" ++ pathT L)) (some 1) (some 2) != "/")
end Mine
end

section
open PySem PySem.W PySem.Calls PyProof.Rows
set_option Elab.async false
set_option linter.unusedVariables false
set_option linter.unusedSectionVars false
set_option maxRecDepth 10000
namespace Mine
variable [Star]
section
variable {prog : Program} {w : World} {B : Heap} {n : Nat}

theorem fa_enterK {a : Nat} {o : Obj} {fd : FuncData} {body : List Stmt} {ps : List (Str × D)} (ho : B.get? a = some o) (hd : o.data = .func fd) (hlim : B.NoLimit) (hcd : B.CodeRec fd.code fd.qualname)
    (hbody : fd.body = .stmts body) (hclo : fd.closure = []) (hg : fd.globals = mainGlobals) (hb : fd.builtins = builtinsNs) (hbind : ∀ vs : List Value, vs.length = ps.length → bindArgs fd ⟨vs, []⟩ = pure ((ps.map (·.1)).zip vs))
    (ok : defOk fd.scope (ps.map (·.1)) = true) (hcd2 : fd.scope.names.lookup ("QUESTION_MARK" : Str) = some .local → fd.code = .ref tc ∧ fd.scope.names.all (fun y => y.2 != .cell) = true)
    {A : Around} {s : Shared} {X : Nat → Prop} {vs : List Value} {R : Result → Shared → Prop} (r : Room (n + 1) A) (c : Cx B X s) (t : Tls s.heap X vs (ps.map (·.2)))
    (h : ∀ (A' : Around) (env : Env) (E' : Value → Shared → Prop) (s₁ : Shared) (X' : Nat → Prop), Room n A' → Eo fd.scope env → Fs B env X' s₁ { nm := fun x => ps.lookup x } → (∀ b o, s.heap.get? b = some o → s₁.heap.get? b = some o) →
      s₁.os = s.os → s₁.drawn = s.drawn → s₁.gens = s.gens → s.heap.objs.size ≤ s₁.heap.objs.size → (∀ b, X b → X' b) → (∀ b, X' b → X b ∨ s.heap.objs.size ≤ b) → (∀ b, Mut env { nm := fun x => ps.lookup x } b → s.heap.objs.size ≤ b) → (fd.scope.names.all (fun y => y.2 != .cell) = true → env.cells = []) → env.code = fd.code →
      wpAny (model prog w) A' (execs body env) (fun fl s' => match fl with | .ret v => R (.ok (.ret v)) s' | .next => R (.ok (.ret .none)) s' | _ => False) E' s₁) :
    codeAny (model prog w) A (.call (.ref a) ⟨vs, []⟩) R s := by
  simp only [defOk, Bool.and_eq_true, Bool.not_eq_true', beq_iff_eq, decide_eq_true_eq] at ok
  obtain ⟨⟨⟨⟨⟨⟨ok1, ok2⟩, ok3⟩, ok4⟩, ok5⟩, ok6⟩, ok7⟩ := ok
  have hps : ∀ x ∈ ps.map (·.1), (fd.scope.names.lookup x = some .local ∨ fd.scope.names.lookup x = some .cell) ∧ (x == ("__debug__" : Str)) = false ∧ (x == ("__classdict__" : Str)) = false := fun x hx => by
    have := List.all_eq_true.mp ok5 x hx
    simpa [and_assoc] using this
  have hlen : vs.length = ps.length := by have := t.length; simpa using this
  refine (codeAny_call_function (by have := r.depth; lia) (c.base _ _ ho) hd ok2 ok3 hbody (hcd.keeps c.base) ?_)
  rw [hbind vs hlen]
  refine wpAny_pure ?_
  have hclt : ∀ x, fd.scope.names.lookup x = some .cell → ((cellsFrom (s.heap.objs.size + 1) fd.scope.names []).lookup x).isSome = true := fun x hx => cellsFrom_has _ _ _ (mem_of_lookup' hx)
  rw [hclo]
  refine wpAny_newFunctionEnv_cells ok1 ?_ fun env0 he0 s₁ x => ?_
  · rintro ⟨x, v⟩ hx
    have := (hps x (List.of_mem_zip hx).1).1
    exact this.imp_right fun e => ⟨e, hclt x e⟩
  · have hlim1 : s₁.heap.NoLimit := (hlim.keeps c.base).keeps x.toInCall.keep
    have he1 : env0 = callEnvC fd s.heap.objs.size a := he0
    subst he1
    refine ⟨hlim1, codeAny_func ?_⟩
    generalize hL : s.heap.objs.size = L at *
    generalize henv : callEnvC fd L a = env at *
    have e1 : env.scope = fd.scope := by subst henv; rfl
    have e2 : env.cells = cellsFrom (L + 1) fd.scope.names [] := by subst henv; rfl
    have e3 : env.locals = L := by subst henv; rfl
    have e4 : env.globals = mainGlobals := by subst henv; exact hg
    have e5 : env.builtins = builtinsNs := by subst henv; exact hb
    have e6 : env.code = fd.code := by subst henv; rfl
    have hkd : ∀ x, env.kindOf x = fd.scope.names.lookup x := fun x => by unfold Env.kindOf; rw [e1]
    obtain ⟨⟨⟨h1, tk1, es⟩, hns, hkeep, hfr⟩, hcell, hap, hab⟩ := x
    have hsz : s.heap.objs.size ≤ s₁.heap.objs.size := by
      have := nsz hns
      rw [e3] at this
      lia
    let Xf : Nat → Prop := fun b => X b ∨ b = env.locals ∨ ∃ y, env.cells.lookup y = some b
    have hXf : ∀ b, Xf b → X b ∨ s.heap.objs.size ≤ b := fun b q => q.imp_right fun q => by
      rcases q with rfl | ⟨y, e⟩
      · assumption
      · have := hab y b (mem_of_lookup' e)
        rw [e3] at this
        have : L < b := this
        lia
    have cf : Cx B Xf s₁ := c.more (fun b q => .inl q) hXf (fun b q => by
      rcases q with q | rfl | ⟨y, e⟩
      · exact Nat.lt_of_lt_of_le (c.xlt b q) hsz
      · exact nsz hns
      · obtain ⟨ob, e1, _⟩ := hcell y b e
        exact ltz e1) hkeep (by rw [es])
    have tbL : tb < L := by have := c.xlt _ c.tb; lia
    have tl : ∀ {v d}, Tl s.heap X v d → Tl s₁.heap Xf v d := fun t => t.move (fun b ob _ e => hkeep b ob e) hXf
    have hpw := zip_pair (vs := vs) ok6
    have eo : Eo fd.scope env := ⟨e1, ok1, e4, e5, fun y hy => by
      rcases hy with hy | hy
      · have := hclt y hy
        rw [← e2] at this
        obtain ⟨cc, hc⟩ := Option.isSome_iff_exists.mp this
        have h2 := hab y cc (mem_of_lookup' hc)
        rw [e3] at h2
        exact ⟨cc, hc, nen (by have : L < cc := h2; lia)⟩
      · have := List.all_eq_true.mp ok4 _ (mem_of_lookup' hy)
        simp at this, fun hq => ⟨by rw [e6]; exact (hcd2 hq).1, by rw [e2]; exact cellsFrom_none _ _ (hcd2 hq).2⟩⟩
    have fs : Fs B env Xf s₁ { nm := fun x => ps.lookup x } := by
      refine ⟨cf, ⟨fun y dd e => ?_, fun p hp => by cases hp⟩, .inr (.inl rfl), by rw [e3]; exact nen (by lia), ⟨_, hns⟩, fun y cc e => ⟨.inr (.inr ⟨y, e⟩), ?_, _, hcell y cc e⟩, fun y z cc hy hz => pair_inj hap (mem_of_lookup' hy) (mem_of_lookup' hz), List.Pairwise.nil⟩
      · have hmem : y ∈ ps.map (·.1) := List.mem_map.mpr ⟨_, mem_of_lookup' e, rfl⟩
        obtain ⟨v, hv, tv⟩ := zip_get t e
        obtain ⟨hk, hd1, hd2⟩ := hps y hmem
        refine ⟨?_, hd1, hd2⟩
        rcases hk with hk | hk
        · exact .inl ⟨(hkd y).trans hk, by rw [e3]; exact nen (by lia), _, v, hns, bindL_get ((hkd y).trans hk) _ _ hpw hv, tl tv⟩
        · have := hclt y hk
          rw [← e2] at this
          obtain ⟨cc, hc⟩ := Option.isSome_iff_exists.mp this
          have h2 := hab y cc (mem_of_lookup' hc)
          rw [e3] at h2
          have hcc := hcell y cc hc
          rw [bindC_get ((hkd y).trans hk) _ _ hpw hv] at hcc
          exact .inr ⟨cc, v, .inl ((hkd y).trans hk), hc, nen (by have : L < cc := h2; lia), hcc, tl tv⟩
      · have h2 := hab y cc (mem_of_lookup' e)
        rw [e3] at h2
        exact nen (by have : L < cc := h2; lia)
    have rm : Room n (A.deeper env) := ⟨by have := r.depth; show A.depth + 1 + n < _; lia, by have := r.units; show A.units + 3 + 10 * n < _; lia, r.hand⟩
    have hMut : ∀ b, Mut env { nm := fun x => ps.lookup x } b → s.heap.objs.size ≤ b := fun b m => by
      rcases m with rfl | ⟨y, e⟩ | ⟨p, hp, _⟩
      · assumption
      · have h2 := hab y b (mem_of_lookup' e)
        rw [e3] at h2
        have : L < b := h2
        lia
      · cases hp
    refine wpAny_mono (h (A.deeper env) env _ s₁ Xf rm eo fs hkeep (by rw [es]) (by rw [es]) (by rw [es]) (by rw [← hL]; exact hsz) (fun b q => .inl q) (fun b q => (hXf b q).imp_right fun z => by rw [← hL]; exact z) (fun b q => by rw [← hL]; exact hMut b q) (fun hq => by rw [e2]; exact cellsFrom_none _ _ hq) e6) (fun fl s' hq => ?_) fun _ _ x => x
    cases fl with
    | next => exact hq
    | cont => exact hq.elim
    | brk => exact hq.elim
    | ret v => exact hq
theorem fa_enterC {a : Nat} {o : Obj} {fd : FuncData} {body : List Stmt} {ps : List (Str × D)} (ho : B.get? a = some o) (hd : o.data = .func fd) (hlim : B.NoLimit) (hcd : B.CodeRec fd.code fd.qualname)
    (hbody : fd.body = .stmts body) (hclo : fd.closure = []) (hg : fd.globals = mainGlobals) (hb : fd.builtins = builtinsNs) (hbind : ∀ vs : List Value, vs.length = ps.length → bindArgs fd ⟨vs, []⟩ = pure ((ps.map (·.1)).zip vs))
    (ok : defOk fd.scope (ps.map (·.1)) = true) (hcd2 : fd.scope.names.lookup ("QUESTION_MARK" : Str) = some .local → fd.code = .ref tc ∧ fd.scope.names.all (fun y => y.2 != .cell) = true)
    {A : Around} {s : Shared} {X : Nat → Prop} {vs : List Value} {R : Result → Shared → Prop} (r : Room (n + 1) A) (c : Cx B X s) (t : Tls s.heap X vs (ps.map (·.2)))
    (h : ∀ (A' : Around) (env : Env) (E' : Value → Shared → Prop) (s₁ : Shared) (X' : Nat → Prop), Room n A' → Eo fd.scope env → Fs B env X' s₁ { nm := fun x => ps.lookup x } → (∀ b o, s.heap.get? b = some o → s₁.heap.get? b = some o) →
      s₁.os = s.os → s₁.drawn = s.drawn → s₁.gens = s.gens → s.heap.objs.size ≤ s₁.heap.objs.size → (∀ b, X b → X' b) → (∀ b, X' b → X b ∨ s.heap.objs.size ≤ b) → (∀ b, Mut env { nm := fun x => ps.lookup x } b → s.heap.objs.size ≤ b) → (fd.scope.names.all (fun y => y.2 != .cell) = true → env.cells = []) →
      wpAny (model prog w) A' (execs body env) (fun fl s' => match fl with | .ret v => R (.ok (.ret v)) s' | .next => R (.ok (.ret .none)) s' | _ => False) E' s₁) :
    codeAny (model prog w) A (.call (.ref a) ⟨vs, []⟩) R s :=
  fa_enterK ho hd hlim hcd hbody hclo hg hb hbind ok hcd2 r c t fun A' env E' s₁ X' y1 y2 y3 y4 y5 y6 y7 y8 y9 y10 y11 y12 _ => h A' env E' s₁ X' y1 y2 y3 y4 y5 y6 y7 y8 y9 y10 y11 y12
end
end Mine
end

section
open PySem PySem.W PySem.Calls PyProof.Rows PySem.Builtin PySem.Builtin.ObjectAttr
set_option Elab.async false
set_option maxRecDepth 100000
set_option maxHeartbeats 1000000
namespace Mine

theorem fga_slot : Slot "function" "__getattribute__" "object.__getattribute__" :=
  .of (owner := "object") (n := "__getattribute__") (by rw [typeLookup_type, builtinLookup_eq_fast]; kernel_rfl) (by decide +kernel) (by decide +kernel) (by decide +kernel)
    (by first | exact .inl (by decide +kernel) | exact .inr (by decide +kernel)) (by rw [isSubtype_type]; kernel_rfl)
theorem fga_entry : entryFor table "object.__getattribute__" = some Builtin.«object.__getattribute__» := entryFor_of_tree (by kernel_rfl)
theorem fga_args (a b : Value) : argsOk "object.__getattribute__" ⟨[a, b], []⟩ := by unfold argsOk; kernel_rfl
theorem fn_no_getattr : typeLookup (.type "function") "__getattr__" = pure none := by rw [typeLookup_type, builtinLookup_eq_fast]; kernel_rfl
theorem fn_no_read : typeLookup (.type "function") "read" = pure none := by rw [typeLookup_type, builtinLookup_eq_fast]; kernel_rfl

section
variable {prog : Program} {w : World} {A : Around} {E : Value → Shared → Prop} {s : Shared}

theorem fga_read {a d : Nat} {o : Obj} {m : Str → Option Value} {v : Value} {u : Tok} {fd : FuncData} {Q : Fin → Shared → Prop} (hx : s.heap.get? a = some o) (hc : o.cls = .type "function") (hd : o.dict = some d) (hf : o.data = .func fd) (hm : s.heap.Ns d m) (hv : m "read" = some v)
    (hQ : Q (.done (.ret v)) s) : wpAny (model prog w) A (Builtin.«object.__getattribute__» ⟨[.ref a, .str "read" u], []⟩) Q E s := by
  obtain ⟨hp, g, dd, tk, os⟩ := s
  obtain ⟨oc, od, odt, osl⟩ := o
  simp only at hc hd hf
  subst hc hd hf
  have hT : (⟨hp, g, dd, tk, os⟩ : Shared).TypeIs (.ref a) "function" := ⟨_, hx, rfl⟩
  have f0 := fn_no_read
  unfold Builtin.«object.__getattribute__»
  repeat (any_goals (first | assumption | (with_reducible refine wpAny_nsGet hm ?_; rw [hv]) | wp_step))
end
end Mine
end

section
open PySem PySem.W PySem.Calls PyProof.Rows PySem.Builtin PySem.Builtin.ObjectAttr
set_option Elab.async false
set_option maxRecDepth 100000
set_option maxHeartbeats 1000000
namespace Mine
section
variable {prog : Program} {w : World} {A : Around} {E : Value → Shared → Prop} {s : Shared}

theorem fga_meets {a d : Nat} {o : Obj} {m : Str → Option Value} {v : Value} {u : Tok} {fd : FuncData} : MeetsIn prog w (Builtin.«object.__getattribute__» ⟨[.ref a, .str "read" u], []⟩) (fun _ R s => (s.heap.get? a = some o ∧ o.cls = .type "function" ∧ o.dict = some d ∧ o.data = .func fd ∧ s.heap.Ns d m ∧ m "read" = some v) ∧ R (.ok (.ret v)) s) :=
  .of_wp fun A R s ⟨⟨hx, hc, hd, hf, hm, hv⟩, h⟩ => fga_read hx hc hd hf hm hv ⟨_, rfl, h⟩

theorem getAttr_read {a d : Nat} {o : Obj} {m : Str → Option Value} {v : Value} {fd : FuncData} {Q : Value → Shared → Prop} (hx : s.heap.get? a = some o) (hc : o.cls = .type "function") (hd : o.dict = some d) (hf : o.data = .func fd) (hm : s.heap.Ns d m) (hv : m "read" = some v) (hh : handedOut v = pure v)
    (hQ : ∀ tk, Q v { s with toks := tk }) : wpAny (model prog w) A (getAttr (.ref a) "read" false) Q E s := by
  obtain ⟨hp, g, dd, tk, os⟩ := s
  obtain ⟨oc, od, odt, osl⟩ := o
  simp only at hc hd hf
  subst hc hd hf
  have hT : ∀ tk', (⟨hp, g, dd, tk', os⟩ : Shared).TypeIs (.ref a) "function" := fun _ => ⟨_, hx, rfl⟩
  have f3 := fga_slot.lookup
  have f4 := fga_slot.bind (.ref a)
  have f5 := fn_no_getattr
  unfold getAttr getAttrBy
  repeat (any_goals (first | assumption | exact hT _ | wp_step))
  let RR : Result → Shared → Prop := fun r s' =>
      match r with
      | Except.ok (Flow.ret v) =>
        wpAny (model prog w) A
          (match (Except.ok v : Except Value Value) with
          | Except.ok v => handedOut v
          | Except.error e => getattributeRaised (Value.ref a) (Value.str (Str.ofString "read") tk) (.type "function") e none true false)
          Q E s'
      | Except.ok a => False
      | Except.error e =>
        wpAny (model prog w) A
          (match (Except.error e : Except Value Value) with
          | Except.ok v => handedOut v
          | Except.error e => getattributeRaised (Value.ref a) (Value.str (Str.ofString "read") tk) (.type "function") e none true false)
          Q E s'
  refine codeAny_call_builtin fga_slot.plain fga_entry (fga_slot.check _ _ _ _ _ _ _ _ (hT _) (fga_args _ _) (fga_meets A RR _ ⟨⟨hx, rfl, rfl, rfl, hm, hv⟩, ?_⟩))
  show wpAny _ _ (handedOut _) _ _ _
  rw [hh]
  exact wpAny_pure (hQ _)

theorem getMethod_read {a d : Nat} {o : Obj} {m : Str → Option Value} {v : Value} {fd : FuncData} {pl : Sem Bool} {Q : Value × List Value → Shared → Prop} (hx : s.heap.get? a = some o) (hc : o.cls = .type "function") (hd : o.dict = some d) (hf : o.data = .func fd) (hm : s.heap.Ns d m) (hv : m "read" = some v) (hh : handedOut v = pure v)
    (hQ : ∀ tk, Q (v, []) { s with toks := tk }) : wpAny (model prog w) A (getMethod (.ref a) "read" pl) Q E s := by
  have hT : s.TypeIs (.ref a) "function" := ⟨_, hx, hc⟩
  have hcan := F.canon_object_ga
  unfold getMethod
  refine wpAny_bind (wpAny_specialOf hT fga_slot.lookup ?_)
  dsimp only
  rw [hcan, if_neg (by decide)]
  refine wpAny_bind (wpAny_specialOf hT fn_no_getattr ?_)
  refine wpAny_bind (wpAny_specialOf hT fn_no_read ?_)
  dsimp only
  exact wpAny_bind (getAttr_read hx hc hd hf hm hv hh fun tk => wpAny_pure (hQ tk))

end
end Mine
end

section
open PySem PySem.W PySem.Calls PyProof.Rows PySem.Builtin PySem.Builtin.ObjectAttr
set_option Elab.async false
set_option linter.unusedVariables false
set_option maxRecDepth 100000
set_option maxHeartbeats 1000000
namespace Mine
theorem fsa_slot : Slot "function" "__setattr__" "object.__setattr__" :=
  .of (owner := "object") (n := "__setattr__") (by rw [typeLookup_type, builtinLookup_eq_fast]; kernel_rfl) (by decide +kernel) (by decide +kernel) (by decide +kernel)
    (by first | exact .inl (by decide +kernel) | exact .inr (by decide +kernel)) (by rw [isSubtype_type]; kernel_rfl)
theorem fsa_pass (self : Value) : refuseLoop self "__setattr__" [.type "function", .type "object"] = pure () := by kernel_rfl
theorem fsa_mro : mroOf (.type "function") = pure [.type "function", .type "object"] := by kernel_rfl
section
variable {prog : Program} {w : World} {A : Around} {E : Value → Shared → Prop} {s : Shared}

theorem fsa_read {a : Nat} {v : Value} {u : Tok} {fd : FuncData} {sl : Array (Option Value)} {Q : Fin → Shared → Prop} (hx : s.heap.get? a = some { cls := .type "function", dict := none, data := .func fd, slots := sl })
    (hQ : ∀ h' tk, h'.get? a = some { cls := .type "function", dict := some s.heap.objs.size, data := .func fd, slots := sl } → h'.Ns s.heap.objs.size (fun y => if y = "read" then some v else none) → (∀ b o, b ≠ a → s.heap.get? b = some o → h'.get? b = some o) → s.heap.objs.size ≤ h'.objs.size →
      Q (.done (.ret .none)) { s with heap := h', toks := tk }) :
    wpAny (model prog w) A (Builtin.«object.__setattr__» ⟨[.ref a, .str "read" u, v], []⟩) Q E s := by
  obtain ⟨hp, g, dd, tk, os⟩ := s
  have hT : (⟨hp, g, dd, tk, os⟩ : Shared).TypeIs (.ref a) "function" := ⟨_, hx, rfl⟩
  have f0 := fn_no_read
  have f1 := fsa_mro
  have f2 := fsa_pass (.ref a)
  unfold Builtin.«object.__setattr__»
  have hne : hp.objs.size ≠ a := Nat.ne_of_gt (Heap.lt_size hx)
  have hx₁ : (hp.push { cls := .type "dict", data := .dict #[] }).get? a = some { cls := .type "function", dict := none, data := .func fd, slots := sl } := Heap.get?_push_of_some _ hx
  repeat (first | assumption | rw [refuse_eq] | (rw [f1]) | (rw [f2]) | (with_reducible refine wpAny_nsSet1 (m := fun _ => none) ?_ fun h' hn' hs => ?_; rotate_left) | wp_step)
  · obtain ⟨oD, esD, epD, hoD, hdD, hcD⟩ := hn'.count (Within.cons "read" v Within.nil)
    refine wpAny_loadPart hoD ?_
    rw [hdD, pastItsLine_dict (Nat.le_trans hcD (by rw [List.length_cons, List.length_nil, sizeLine_eq]; (exact Nat.succ_pos _)))]
    refine wpAny_pure (wpAny_pure ?_)
    refine hQ h' _ ?_ hn'.ns (fun b o hb e => (hs.2 b (Nat.ne_of_lt (Heap.lt_size e))).trans ((Heap.get?_update_ne _ _ _ _ hb).trans (Heap.get?_push_of_some _ e))) ?_
    · refine (hs.2 a hne.symm).trans ?_
      rw [Heap.get?_update_self _ hx₁ rfl]
    · rw [hs.1]
      show hp.objs.size ≤ ((hp.push _).update a _).objs.size
      rw [(Heap.SameBut.update ..).1, Heap.size_push]
      exact Nat.le_succ _
  · have hgd : ((hp.push { cls := .type "dict", data := .dict #[] }).update a fun o => { cls := o.cls, dict := some hp.objs.size, data := o.data, slots := o.slots }).get? hp.objs.size = some { cls := .type "dict", data := .dict #[] } :=
      (Heap.get?_update_ne _ _ _ _ hne).trans (Heap.get?_push_at rfl rfl)
    exact Heap.Ns1.of_empty ⟨_, #[], _, hgd, rfl, fun e he => absurd he (by simp), fun _ => rfl⟩
end
end Mine
end

section
open PySem PySem.W PySem.Calls PyProof.Rows PySem.Builtin PySem.Builtin.ObjectAttr
set_option Elab.async false
set_option linter.unusedVariables false
set_option maxRecDepth 100000
set_option maxHeartbeats 1000000
namespace Mine
theorem fsa_entry : entryFor table "object.__setattr__" = some Builtin.«object.__setattr__» := entryFor_of_tree (by kernel_rfl)
theorem fsa_args (a b c : Value) : argsOk "object.__setattr__" ⟨[a, b, c], []⟩ := by unfold argsOk; kernel_rfl
section
variable {prog : Program} {w : World} {A : Around} {E : Value → Shared → Prop} {s : Shared}

theorem setAttr_read {a : Nat} {v : Value} {fd : FuncData} {sl : Array (Option Value)} {Q : Unit → Shared → Prop} (hx : s.heap.get? a = some { cls := .type "function", dict := none, data := .func fd, slots := sl })
    (hQ : ∀ h' tk, h'.get? a = some { cls := .type "function", dict := some s.heap.objs.size, data := .func fd, slots := sl } → h'.Ns s.heap.objs.size (fun y => if y = "read" then some v else none) → (∀ b o, b ≠ a → s.heap.get? b = some o → h'.get? b = some o) → s.heap.objs.size ≤ h'.objs.size →
      Q () { s with heap := h', toks := tk }) :
    wpAny (model prog w) A (setAttr (.ref a) "read" v) Q E s := by
  obtain ⟨hp, g, dd, tk, os⟩ := s
  have hT : ∀ tk', (⟨hp, g, dd, tk', os⟩ : Shared).TypeIs (.ref a) "function" := fun _ => ⟨_, hx, rfl⟩
  have f3 := fsa_slot.lookup
  have f4 := fsa_slot.bind (.ref a)
  unfold setAttr callSpecial?
  repeat (any_goals (first | assumption | exact hT _ | wp_step))
  refine codeAny_call_builtin fsa_slot.plain fsa_entry (fsa_slot.check _ _ _ _ _ _ _ _ (hT _) (fsa_args _ _ _) ?_)
  refine fsa_read hx fun h' tk' h1 h2 h3 h4 => ?_
  repeat (any_goals (first | assumption | wp_step))
  exact hQ h' tk' h1 h2 h3 h4
end
end Mine
end

section
open PySem PySem.W PySem.Calls PyProof.Rows
set_option Elab.async false
set_option linter.unusedVariables false
set_option linter.unusedSectionVars false
set_option maxRecDepth 10000
namespace Mine
variable [Star]

structure LA where
  x : Nat
  dx : Nat
  pb : Nat
  sg : Nat
  sf : Nat
  sd : Nat
  rf : Nat
  sc : Nat
  rc : Nat
noncomputable def LA.all (a : LA) : List Nat := [a.x, a.dx, a.pb, a.sg, a.sf, a.sd, a.rf, a.sc, a.rc]
noncomputable def LA.W (a : LA) (b : Nat) : Prop := b = a.x ∨ b = a.dx ∨ b = a.pb ∨ b = a.sg
theorem LA.W_all {a : LA} {b : Nat} (h : a.W b) : b ∈ a.all := by
  unfold LA.all
  rcases h with h | h | h | h <;> simp [h]

noncomputable def wsT : Str := "\n\t\r "
noncomputable def chS (c : Nat) : Str := ⟨#[c]⟩
noncomputable def lexNames : List Str := ["lineno", "instream", "whitespace", "pushback"]

noncomputable def cst (k : Nat) : Stmt := match stm 3 with | .ClassDef _ _ _ body _ _ _ _ _ _ _ => (body[k]?).getD (.Pass ⟨0, 0, 0, 0⟩) | _ => .Pass ⟨0, 0, 0, 0⟩
noncomputable def cfb (k : Nat) : List Stmt := match cst k with | .FunctionDef _ _ body _ _ _ _ _ _ _ => body | _ => []
noncomputable def csc (k : Nat) : Scope := match cst k with | .FunctionDef _ _ _ _ _ _ scope _ _ _ => scope | _ => ⟨.module, [], false, false, []⟩
noncomputable def lamE : Expr := match (fb 31)[1]? with | some (Stmt.Assign _ e _) => e | _ => .Constant .none 0 ⟨0, 0, 0, 0⟩
noncomputable def lamB : Expr := match lamE with | .Lambda _ b _ _ => b | e => e
noncomputable def lamSc : Scope := match lamE with | .Lambda _ _ s _ => s | _ => ⟨.module, [], false, false, []⟩

inductive LamAt (h : Heap) (rf sc rc : Nat) : Prop
  | mk (o : Obj) (fd : FuncData) (h1_ : h.get? rf = some o) (h2_ : o.cls = .type "function") (h3_ : o.data = .func fd) (h4_ : fd.closure = [(("signs" : Str), sc)]) (h5_ : fd.scope = lamSc) (h6_ : fd.body = .expr lamB) (h7_ : fd.globals = mainGlobals) (h8_ : fd.builtins = builtinsNs) (h9_ : (∀ v, bindArgs fd ⟨[v], []⟩ = pure [(("many" : Str), v)])) (h10_ : fd.code = .ref rc) (oc : Obj) (vs : Array Value) (t : Tok) (h11_ : h.get? rc = some oc) (h12_ : oc.data = .fields vs) (h13_ : vs[1]? = some (.str fd.qualname t))

structure Lx (C : Nat) (a : LA) (h : Heap) (X : Nat → Prop) (n : Int) (cs : List Nat) (pk : List Str) : Prop where
  nod : (a.all ++ [Mine.tb]).Nodup
  inX : ∀ b ∈ a.all, X b
  inst : ∃ o, h.get? a.x = some o ∧ o.cls = .ref C ∧ (∀ c, o.data ≠ .cls c) ∧ o.dict = some a.dx
  dict : ∃ mA, h.Ns1 a.dx mA ∧ Within mA lexNames ∧ (∃ t, mA "lineno" = some (.int n t)) ∧ mA "instream" = some (.ref a.sf) ∧ (∃ t, mA "whitespace" = some (.str wsT t)) ∧ mA "pushback" = some (.ref a.pb)
  push : ∃ vs : List Value, h.PlainList a.pb vs.toArray ∧ StrsAre vs pk ∧ pk.length ≤ 1000
  sf : ∃ o, h.get? a.sf = some o ∧ o.cls = .type "function" ∧ o.dict = some a.sd ∧ ∃ fd, o.data = .func fd
  sd : ∃ mS, h.Ns a.sd mS ∧ mS "read" = some (.ref a.rf)
  lam : LamAt h a.rf a.sc a.rc
  sc : h.IsCell a.sc (some (.ref a.sg))
  sg : ∃ vs : List Value, h.PlainList a.sg vs.toArray ∧ StrsAre vs (cs.map chS) ∧ cs.length ≤ 100000
  asc : ∀ c ∈ cs, c < 128

theorem LamAt.keep {h h' : Heap} {rf sc rc : Nat} (x : LamAt h rf sc rc) (k1 : ∀ o, h.get? rf = some o → h'.get? rf = some o) (k2 : ∀ o, h.get? rc = some o → h'.get? rc = some o) : LamAt h' rf sc rc := by
  obtain ⟨o, fd, a1, a2, a3, a4, a5, a6, a7, a8, a9, a10, oc, vs, t, b1, b2, b3⟩ := x
  exact ⟨o, fd, k1 _ a1, a2, a3, a4, a5, a6, a7, a8, a9, a10, oc, vs, t, k2 _ b1, b2, b3⟩

theorem Lx.keep {C : Nat} {a : LA} {h h' : Heap} {X X' : Nat → Prop} {n : Int} {cs : List Nat} {pk : List Str} (l : Lx C a h X n cs pk) (k : ∀ b ∈ a.all, ∀ o, h.get? b = some o → h'.get? b = some o) (x : ∀ b, X b → X' b) : Lx C a h' X' n cs pk where
  nod := l.nod
  inX := fun b hb => x b (l.inX b hb)
  inst := let ⟨o, e, r⟩ := l.inst; ⟨o, k _ (by simp [LA.all]) _ e, r⟩
  dict := let ⟨m, e, r⟩ := l.dict; ⟨m, e.at fun o q => k _ (by simp [LA.all]) o q, r⟩
  push := let ⟨vs, e, r⟩ := l.push; ⟨vs, e.at fun o q => k _ (by simp [LA.all]) o q, r⟩
  sf := let ⟨o, e, r⟩ := l.sf; ⟨o, k _ (by simp [LA.all]) _ e, r⟩
  sd := let ⟨m, e, r⟩ := l.sd; ⟨m, e.at' fun o q => k _ (by simp [LA.all]) o q, r⟩
  lam := l.lam.keep (fun o q => k _ (by simp [LA.all]) o q) fun o q => k _ (by simp [LA.all]) o q
  sc := let ⟨o, e, r⟩ := l.sc; ⟨o, k _ (by simp [LA.all]) _ e, r⟩
  sg := let ⟨vs, e, r⟩ := l.sg; ⟨vs, e.at fun o q => k _ (by simp [LA.all]) o q, r⟩
  asc := l.asc

structure Kw (W X : Nat → Prop) (s s' : Shared) : Prop where
  os : s'.os = s.os
  dr : s'.drawn = s.drawn
  kp : ∀ b o, ¬ W b → b ≠ Mine.tb → s.heap.get? b = some o → s'.heap.get? b = some o
  sz : s.heap.objs.size ≤ s'.heap.objs.size
  ti : TI s.heap X → TI s'.heap X
  gn : AllBare s.gens → AllBare s'.gens
theorem Ks.kw {W X : Nat → Prop} {s s' : Shared} (k : Ks X s s') : Kw W X s s' := ⟨k.os, k.dr, fun b o _ n e => k.kp b o n e, k.sz, k.ti, k.gn⟩
theorem Kw.refl {W X : Nat → Prop} (s : Shared) : Kw W X s s := (Ks.refl s).kw
theorem Kw.trans {W X : Nat → Prop} {s s' s'' : Shared} (a : Kw W X s s') (b : Kw W X s' s'') : Kw W X s s'' :=
  ⟨b.os.trans a.os, b.dr.trans a.dr, fun x o n e q => b.kp x o n e (a.kp x o n e q), Nat.le_trans a.sz b.sz, fun t => b.ti (a.ti t), fun g => b.gn (a.gn g)⟩
theorem Kw.cx {B : Heap} {W X : Nat → Prop} {s s' : Shared} (k : Kw W X s s') (c : Cx B X s) (hw : ∀ b, W b → X b) : Cx B X s' :=
  ⟨fun b o e => k.kp b o (fun z => by rw [c.xb b (hw b z)] at e; cases e) (fun z => by rw [z, c.xb _ c.tb] at e; cases e) (c.base b o e), fun b q => Nat.lt_of_lt_of_le (c.xlt b q) k.sz, c.xb, c.tb, k.ti c.ti, k.gn c.gn⟩
theorem Kw.tl {B : Heap} {W X : Nat → Prop} {s s' : Shared} (k : Kw W X s s') (c : Cx B X s) (hw : ∀ b, W b → X b) {v : Value} {d : D} (t : Tl s.heap X v d) : Tl s'.heap X v d :=
  t.move (fun b o n e => k.kp b o (fun z => n (hw b z)) (fun z => n (z ▸ c.tb)) e) fun _ q => .inl q
theorem Kw.tls {B : Heap} {W X : Nat → Prop} {s s' : Shared} (k : Kw W X s s') (c : Cx B X s) (hw : ∀ b, W b → X b) {v : List Value} {d : List D} (t : Tls s.heap X v d) : Tls s'.heap X v d :=
  t.move (fun b o n e => k.kp b o (fun z => n (hw b z)) (fun z => n (z ▸ c.tb)) e) fun _ q => .inl q
theorem Kw.of {W X : Nat → Prop} {s : Shared} {h' : Heap} {t : Nat} (hw : ∀ b, W b → X b) (hn : ¬ W Mine.tb) (k : ∀ b o, ¬ W b → s.heap.get? b = some o → h'.get? b = some o) (z : s.heap.objs.size ≤ h'.objs.size) : Kw W X s { s with heap := h', toks := t } :=
  ⟨rfl, rfl, fun b o n _ e => k b o n e, z, fun x => x.move (fun b o q e => k b o (fun w => q.elim (fun q => q (hw b w)) fun q => hn (q ▸ w)) e) fun _ q => .inl q, id⟩

theorem Lx.tbne {C : Nat} {a : LA} {h : Heap} {X : Nat → Prop} {n : Int} {cs : List Nat} {pk : List Str} (l : Lx C a h X n cs pk) {b : Nat} (hb : b ∈ a.all) : b ≠ Mine.tb := fun e => by
  have h1 := l.nod
  rw [List.nodup_append] at h1
  exact h1.2.2 b hb _ (by simp) e
theorem Lx.ks {C : Nat} {a : LA} {s s' : Shared} {X X0 : Nat → Prop} {n : Int} {cs : List Nat} {pk : List Str} (l : Lx C a s.heap X n cs pk) (k : Ks X0 s s') : Lx C a s'.heap X n cs pk := l.keep (fun b hb o e => k.kp b o (l.tbne hb) e) fun _ q => q
theorem Lx.W_X {C : Nat} {a : LA} {h : Heap} {X : Nat → Prop} {n : Int} {cs : List Nat} {pk : List Str} (l : Lx C a h X n cs pk) : ∀ b, a.W b → X b := fun b hb => l.inX b (LA.W_all hb)
theorem Lx.W_tb {C : Nat} {a : LA} {h : Heap} {X : Nat → Prop} {n : Int} {cs : List Nat} {pk : List Str} (l : Lx C a h X n cs pk) : ¬ a.W Mine.tb := fun hb => l.tbne (LA.W_all hb) rfl

structure LAne (a : LA) : Prop where
  n0 : a.sg ≠ a.x
  n1 : a.sg ≠ a.dx
  n2 : a.sg ≠ a.pb
  n3 : a.sg ≠ a.sf
  n4 : a.sg ≠ a.sd
  n5 : a.sg ≠ a.rf
  n6 : a.sg ≠ a.sc
  n7 : a.sg ≠ a.rc
  n8 : a.pb ≠ a.x
  n9 : a.pb ≠ a.dx
  n10 : a.pb ≠ a.sf
  n11 : a.pb ≠ a.sd
  n12 : a.pb ≠ a.rf
  n13 : a.pb ≠ a.sc
  n14 : a.pb ≠ a.rc
  n15 : a.dx ≠ a.x
  n16 : a.dx ≠ a.sf
  n17 : a.dx ≠ a.sd
  n18 : a.dx ≠ a.rf
  n19 : a.dx ≠ a.sc
  n20 : a.dx ≠ a.rc
  n21 : a.x ≠ a.sf
  n22 : a.x ≠ a.sd
  n23 : a.x ≠ a.rf
  n24 : a.x ≠ a.sc
  n25 : a.x ≠ a.rc
theorem LA.ne {a : LA} (h : (a.all ++ [Mine.tb]).Nodup) : LAne a := by
  have nd : ∀ (i j : Nat) (hi : i < (a.all ++ [Mine.tb]).length) (hj : j < (a.all ++ [Mine.tb]).length), i ≠ j → (a.all ++ [Mine.tb])[i] ≠ (a.all ++ [Mine.tb])[j] := fun i j hi hj hij => by
    rcases Nat.lt_or_gt_of_ne hij with q | q
    · exact List.pairwise_iff_getElem.mp h i j hi hj q
    · exact Ne.symm (List.pairwise_iff_getElem.mp h j i hj hi q)
  have L : (a.all ++ [Mine.tb]).length = 10 := rfl
  have g : ∀ i j : Nat, (hi : i < 10) → (hj : j < 10) → i ≠ j → (a.all ++ [Mine.tb])[i]'hi ≠ (a.all ++ [Mine.tb])[j]'hj := fun i j hi hj => nd i j hi hj
  exact ⟨g 3 0 (by decide) (by decide) (by decide), g 3 1 (by decide) (by decide) (by decide), g 3 2 (by decide) (by decide) (by decide), g 3 4 (by decide) (by decide) (by decide), g 3 5 (by decide) (by decide) (by decide), g 3 6 (by decide) (by decide) (by decide), g 3 7 (by decide) (by decide) (by decide), g 3 8 (by decide) (by decide) (by decide),
    g 2 0 (by decide) (by decide) (by decide), g 2 1 (by decide) (by decide) (by decide), g 2 4 (by decide) (by decide) (by decide), g 2 5 (by decide) (by decide) (by decide), g 2 6 (by decide) (by decide) (by decide), g 2 7 (by decide) (by decide) (by decide), g 2 8 (by decide) (by decide) (by decide),
    g 1 0 (by decide) (by decide) (by decide), g 1 4 (by decide) (by decide) (by decide), g 1 5 (by decide) (by decide) (by decide), g 1 6 (by decide) (by decide) (by decide), g 1 7 (by decide) (by decide) (by decide), g 1 8 (by decide) (by decide) (by decide),
    g 0 4 (by decide) (by decide) (by decide), g 0 5 (by decide) (by decide) (by decide), g 0 6 (by decide) (by decide) (by decide), g 0 7 (by decide) (by decide) (by decide), g 0 8 (by decide) (by decide) (by decide)⟩

theorem Lx.setSg {C : Nat} {a : LA} {h h' : Heap} {X : Nat → Prop} {n : Int} {cs cs' : List Nat} {pk : List Str} (l : Lx C a h X n cs pk) (hs : Heap.SameBut a.sg h h') {vs : List Value} (hv : h'.PlainList a.sg vs.toArray) (st : StrsAre vs (cs'.map chS)) (hl : cs'.length ≤ 100000) (as : ∀ c ∈ cs', c < 128) : Lx C a h' X n cs' pk := by
  have N := LA.ne l.nod
  have k : ∀ b, b ≠ a.sg → ∀ o, h.get? b = some o → h'.get? b = some o := fun b hb o e => hs.extBut b o hb e
  obtain ⟨n1, n2, n3, n4, n5, n6, n7, n8, _⟩ := N
  exact {
    nod := l.nod
    inX := l.inX
    inst := let ⟨o, e, r⟩ := l.inst; ⟨o, k _ (Ne.symm n1) _ e, r⟩
    dict := let ⟨m, e, r⟩ := l.dict; ⟨m, e.at fun o q => k _ (Ne.symm n2) o q, r⟩
    push := let ⟨vs, e, r⟩ := l.push; ⟨vs, e.at fun o q => k _ (Ne.symm n3) o q, r⟩
    sf := let ⟨o, e, r⟩ := l.sf; ⟨o, k _ (Ne.symm n4) _ e, r⟩
    sd := let ⟨m, e, r⟩ := l.sd; ⟨m, e.at' fun o q => k _ (Ne.symm n5) o q, r⟩
    lam := l.lam.keep (fun o q => k _ (Ne.symm n6) o q) fun o q => k _ (Ne.symm n8) o q
    sc := let ⟨o, e, r⟩ := l.sc; ⟨o, k _ (Ne.symm n7) _ e, r⟩
    sg := ⟨vs, hv, st, hl⟩
    asc := as }
theorem Lx.setPb {C : Nat} {a : LA} {h h' : Heap} {X : Nat → Prop} {n : Int} {cs : List Nat} {pk pk' : List Str} (l : Lx C a h X n cs pk) (hs : Heap.SameBut a.pb h h') {vs : List Value} (hv : h'.PlainList a.pb vs.toArray) (st : StrsAre vs pk') (hl : pk'.length ≤ 1000) : Lx C a h' X n cs pk' := by
  have N := LA.ne l.nod
  have k : ∀ b, b ≠ a.pb → ∀ o, h.get? b = some o → h'.get? b = some o := fun b hb o e => hs.extBut b o hb e
  obtain ⟨_, _, n3, _, _, _, _, _, m1, m2, m3, m4, m5, m6, m7, _⟩ := N
  exact {
    nod := l.nod
    inX := l.inX
    inst := let ⟨o, e, r⟩ := l.inst; ⟨o, k _ (Ne.symm m1) _ e, r⟩
    dict := let ⟨m, e, r⟩ := l.dict; ⟨m, e.at fun o q => k _ (Ne.symm m2) o q, r⟩
    push := ⟨vs, hv, st, hl⟩
    sf := let ⟨o, e, r⟩ := l.sf; ⟨o, k _ (Ne.symm m3) _ e, r⟩
    sd := let ⟨m, e, r⟩ := l.sd; ⟨m, e.at' fun o q => k _ (Ne.symm m4) o q, r⟩
    lam := l.lam.keep (fun o q => k _ (Ne.symm m5) o q) fun o q => k _ (Ne.symm m7) o q
    sc := let ⟨o, e, r⟩ := l.sc; ⟨o, k _ (Ne.symm m6) _ e, r⟩
    sg := let ⟨vs, e, r⟩ := l.sg; ⟨vs, e.at fun o q => k _ n3 o q, r⟩
    asc := l.asc }
theorem Lx.setN {C : Nat} {a : LA} {h h' : Heap} {X : Nat → Prop} {n m : Int} {t : Tok} {cs : List Nat} {pk : List Str} (l : Lx C a h X n cs pk) (kp : ∀ b o, b ≠ a.x → b ≠ a.dx → h.get? b = some o → h'.get? b = some o) (hx : ∀ o₀, h.get? a.x = some o₀ → ∃ o₁, h'.get? a.x = some o₁ ∧ o₁.cls = o₀.cls ∧ o₁.data = o₀.data ∧ ∀ dx, o₀.dict = some dx → o₁.dict = some dx)
    (hd : ∀ mA, h.Ns1 a.dx mA → h'.Ns1 a.dx (fun y => if y = "lineno" then some (.int m t) else mA y)) : Lx C a h' X m cs pk := by
  have N := LA.ne l.nod
  obtain ⟨g1, g2, g3, g4, g5, g6, g7, g8, f1, f2, f3, f4, f5, f6, f7, e1, e2, e3, e4, e5, e6, d1, d2, d3, d4, d5⟩ := N
  exact {
    nod := l.nod
    inX := l.inX
    inst := by
      obtain ⟨o, e, r1, r2, r3⟩ := l.inst
      obtain ⟨o₁, q1, q2, q3, q4⟩ := hx o e
      exact ⟨o₁, q1, q2.trans r1, by rw [q3]; exact r2, q4 _ r3⟩
    dict := by
      obtain ⟨mA, e, w1, ⟨t1, w2⟩, w3, ⟨t2, w4⟩, w5⟩ := l.dict
      refine ⟨_, hd mA e, fun y hy => ?_, ⟨t, if_pos rfl⟩, ?_, ⟨t2, ?_⟩, ?_⟩
      · by_cases q : y = "lineno"
        · rw [q]; exact .head _
        · exact w1 y (by simpa [q] using hy)
      · rw [if_neg (by decide +kernel)]; exact w3
      · rw [if_neg (by decide +kernel)]; exact w4
      · rw [if_neg (by decide +kernel)]; exact w5
    push := let ⟨vs, e, r⟩ := l.push; ⟨vs, e.at fun o q => kp _ o f1 f2 q, r⟩
    sf := let ⟨o, e, r⟩ := l.sf; ⟨o, kp _ _ (Ne.symm d1) (Ne.symm e2) e, r⟩
    sd := let ⟨m, e, r⟩ := l.sd; ⟨m, e.at' fun o q => kp _ o (Ne.symm d2) (Ne.symm e3) q, r⟩
    lam := l.lam.keep (fun o q => kp _ o (Ne.symm d3) (Ne.symm e4) q) fun o q => kp _ o (Ne.symm d5) (Ne.symm e6) q
    sc := let ⟨o, e, r⟩ := l.sc; ⟨o, kp _ _ (Ne.symm d4) (Ne.symm e5) e, r⟩
    sg := let ⟨vs, e, r⟩ := l.sg; ⟨vs, e.at fun o q => kp _ o g1 g2 q, r⟩
    asc := l.asc }
theorem StrsAre.tls [Star] {h : Heap} {X : Nat → Prop} : ∀ {vs : List Value} {ts : List Str}, StrsAre vs ts → Tls h X vs (ts.map .str)
  | _, _, .nil => .nil
  | _, _, .cons y t r => .cons (.str y t) (StrsAre.tls r)
theorem okPs_strs : ∀ ns : List Str, okPs (ns.map D.str) = true
  | [] => by simp [okPs]
  | k :: r => by simp [okPs, okP, okPs_strs r]
theorem toPys_strs : ∀ ns : List Str, toPys (ns.map D.str) = ns.map PyData.str
  | [] => by simp [toPys]
  | k :: r => by simp [toPys, toPy, toPys_strs r]
theorem canLay_strs : ∀ ns : List Str, (∀ x ∈ ns, PyData.strOk x = true) → PyData.canLayAll0 (ns.map PyData.str) = true
  | [], _ => rfl
  | k :: r, h => by simp only [List.map_cons, PyData.canLayAll0, PyData.canLay0, h k (.head _), canLay_strs r fun x hx => h x (.tail _ hx)]; rfl
theorem depth_strs : ∀ ns : List Str, PyData.depthAll (ns.map PyData.str) = 0
  | [] => rfl
  | _ :: r => by simp [PyData.depthAll, PyData.depth, depth_strs r]
theorem shaped_strs {ns : List Str} (h : ∀ x ∈ ns, PyData.strOk x = true) : SeqAt.shaped (toPy (.list (ns.map D.str))) = true := by
  simp [toPy, toPys_strs, SeqAt.shaped, PyData.canLay0, PyData.depth, canLay_strs ns h, depth_strs]
theorem eqv_nilS (ns : List Str) : PyData.eqv (toPy (.list (ns.map D.str))) (toPy (.list [])) = ns.isEmpty := by
  cases ns <;> simp [toPy, toPys, PyData.eqv, PyData.eqvAll]
end Mine
end

section
open PySem PySem.W PySem.Calls PyProof.Rows
set_option Elab.async false
set_option linter.unusedVariables false
set_option linter.unusedSectionVars false
set_option maxRecDepth 10000
namespace Mine
variable [Star]

noncomputable def headS : List Nat → Str
  | [] => ""
  | c :: _ => chS c

theorem strOk_ch {c : Nat} (h : c < 128) : PyData.strOk (chS c) = true := by
  simp [PyData.strOk, chS]; lia

section
variable {prog : Program} {w : World} {B : Heap} {n : Nat} {C : Nat} {a : LA}

theorem lam_call (hlim : B.NoLimit) {A : Around} {E : Value → Shared → Prop} {s : Shared} {X : Nat → Prop} {Q : Value → Shared → Prop} {v : Value} {m : Int} {cs : List Nat} {pk : List Str} (r : Room 8 A) (c : Cx B X s) (l : Lx C a s.heap X m cs pk)
    (k : ∀ t s', Kw a.W X s s' → Lx C a s'.heap X m cs.tail pk → Q (.str (headS cs) t) s') : wpAny (model prog w) A (call (.ref a.rf) [v]) Q E s := by
  obtain ⟨o, fd, h1, h2, h3, h4, h5, h6, h7, h8, h9, h10, oc, vs, t, h11, h12, h13⟩ := l.lam
  refine wpAny_call (kla_callFunE (by have := r.depth; lia) h1 h3 (by rw [h5]; decide +kernel) (by rw [h5]; decide +kernel) h6 ⟨a.rc, oc, vs, t, h10, h11, h12, h13⟩ ?_)
  rw [h9]
  refine wpAny_pure ?_
  rw [h5, h4, h7, h8]
  refine wpAny_newFunctionEnv (by decide +kernel) (by intro x hx; simp at hx; subst hx; show lamSc.names.lookup ("many" : Str) = _; decide +kernel) (fun h' hns hsb => ⟨?_, kla_codeExpr ?_⟩) (by decide +kernel)
  · exact (hlim.keeps c.base).keeps fun b o e => hsb.extBut b o (nen (Nat.ne_of_lt (ltz e))) (Heap.get?_push_of_some _ e)
  have old : ∀ b o, s.heap.get? b = some o → h'.get? b = some o := fun b o e => hsb.extBut b o (nen (Nat.ne_of_lt (ltz e))) (Heap.get?_push_of_some _ e)
  have hsz : s.heap.objs.size ≤ h'.objs.size := by rw [hsb.1, Heap.size_push]; (exact Nat.le_succ _)
  have k1 : Ks X s { s with heap := h', toks := s.toks + [(("many" : Str), v)].length } := Ks.of old hsz
  have rA : Room 7 (A.deeper (newEnv lamSc s.heap.objs.size mainGlobals [(Str.ofString "signs", a.sc)] (fd.qualname ++ Str.ofString ".<locals>.") (some a.rf) fd.code none builtinsNs)) := ⟨by have := r.depth; show A.depth + 1 + 7 < _; assumption, by have := r.units; show A.units + 3 + 10 * 7 < _; lia, r.hand⟩
  generalize henv : newEnv lamSc s.heap.objs.size mainGlobals [(Str.ofString "signs", a.sc)] (fd.qualname ++ Str.ofString ".<locals>.") (some a.rf) fd.code none builtinsNs = env at rA ⊢
  have e1 : env.scope = lamSc := by subst henv; rfl
  have e2 : env.cells = [(("signs" : Str), a.sc)] := by subst henv; rfl
  have e3 : env.globals = mainGlobals := by subst henv; rfl
  have e4 : env.builtins = builtinsNs := by subst henv; rfl
  have eo : Eo lamSc env := ⟨e1, by decide +kernel, e3, e4, fun y hy => by
    have hs : y = "signs" := by
      have hm : (y, NameKind.cell) ∈ lamSc.names ∨ (y, NameKind.free) ∈ lamSc.names := hy.imp mem_of_lookup' mem_of_lookup'
      have hn : lamSc.names = [(("many" : Str), NameKind.local), (("signs" : Str), NameKind.free)] := rfl
      rw [hn] at hm
      rcases hm with hm | hm <;> simp at hm <;> simp [hm]
    subst hs
    exact ⟨a.sc, by rw [e2]; simp, l.tbne (by simp [LA.all])⟩, fun q => by
    have : lamSc.names.lookup ("QUESTION_MARK" : Str) = none := by decide +kernel
    rw [this] at q; cases q⟩
  have l1 : Lx C a h' X m cs pk := l.ks k1
  have c1 := k1.cx c
  obtain ⟨p1, p2, p3, p4, p5, p6, p7, p8, p9, eB, hline⟩ : ∃ p1 p2 p3 p4 p5 p6 p7 p8 p9, lamB = .IfExp (.Compare (.Name "signs" p1) [.NotEq] [.List [] p2] p3) (.Call (.Attribute (.Name "signs" p4) "pop" p5) [.Constant (.int 0) 0 p6] [] p7) (.Constant (.str "") 0 p8) p9 ∧ (p5.endLine == p7.line) = true := ⟨_, _, _, _, _, _, _, _, _, rfl, rfl⟩
  rw [eB]
  generalize (s.toks + [(("many" : Str), v)].length) = tk1 at k1 c1 ⊢
  obtain ⟨us, g1, g2, g3⟩ := l1.sg
  have hul := g2.length
  rw [List.length_map] at hul
  have hkf : env.kindOf "signs" = some .free := by unfold Env.kindOf; rw [e1]; decide +kernel
  have hlk : env.cells.lookup ("signs" : Str) = some a.sc := by rw [e2]; simp
  have scb : a.sc ≠ Mine.tb := l.tbne (by simp [LA.all])
  have sgX : X a.sg := l.inX _ (by simp [LA.all])
  have sgb : a.sg ≠ Mine.tb := l.tbne (by simp [LA.all])
  have v2 : Vs env h' X { nm := (rho [("signs", .rf a.sg)]).nm, own := [(("signs" : Str), a.sg, (cs.map chS).map .str)] } := ⟨fun x d e => by
    have e' : x = "signs" ∧ d = .rf a.sg := by
      have e0 : List.lookup x [(("signs" : Str), D.rf a.sg)] = some d := e
      have := mem_of_lookup' e0
      simp at this
      exact ⟨this.1, by simpa using this.2⟩
    obtain ⟨rfl, rfl⟩ := e'
    exact ⟨.inr ⟨a.sc, .ref a.sg, .inr hkf, hlk, scb, l1.sc, .rf a.sg⟩, by decide +kernel, by decide +kernel⟩, fun p hp => by
    rw [List.mem_singleton] at hp
    subst hp
    exact ⟨⟨sgX, sgb, us, g1, by lia, StrsAre.tls g2⟩, rfl⟩⟩
  show wpAny _ _ (do if ← PySem.isTrue (.Compare (.Name "signs" p1) [.NotEq] [.List [] p2] p3) env (eval (.Compare (.Name "signs" p1) [.NotEq] [.List [] p2] p3) env) then eval (.Call (.Attribute (.Name "signs" p4) "pop" p5) [.Constant (.int 0) 0 p6] [] p7) env else eval (.Constant (.str "") 0 p8) env) _ _ _
  have hpt : PT prog w B 7 lamSc { nm := (rho [("signs", .rf a.sg)]).nm, own := [(("signs" : Str), a.sg, (cs.map chS).map .str)] } (.Compare (.Name "signs" p1) [.NotEq] [.List [] p2] p3) (!cs.isEmpty) := by
    refine pt_see (pt_of_cmp ?_ ⟨_, _, _, _, rfl, rfl⟩)
    have := pe_neD (prog := prog) (w := w) (B := B) (n := 7) (sc := lamSc) (ρ := Rho.see { nm := (rho [("signs", .rf a.sg)]).nm, own := [(("signs" : Str), a.sg, (cs.map chS).map .str)] }) (pos := p3) (a := .list ((cs.map chS).map .str)) (b := .list []) (pe_name (x := "signs") (pos := p1) rfl) (pe_list (pos := p2) pes_nil) (by (exact Nat.le_refl _)) (by simp only [okP]; exact okPs_strs _) (by decide +kernel) (shaped_strs fun x hx => by
      obtain ⟨c0, hc, rfl⟩ := List.mem_map.mp hx
      exact strOk_ch (l.asc c0 hc)) (by decide +kernel)
    rw [eqv_nilS, List.isEmpty_map] at this
    exact this
  refine wpAny_bind (hpt _ env _ _ _ _ rA eo c1 v2 fun s2 k2 => ?_)
  have c2 := k2.cx c1
  have l2 := l1.ks k2
  have k12 := k1.trans k2
  cases cs with
  | nil =>
    show wpAny _ _ (eval (.Constant (.str "") 0 p8) env) _ _ _
    refine wpAny_mkText ?_
    exact k _ _ (k12.trans (Ks.tok s2 _)).kw (l2.ks (Ks.tok (X := X) s2 _))
  | cons q rest =>
    show wpAny _ _ (eval (.Call (.Attribute (.Name "signs" p4) "pop" p5) [.Constant (.int 0) 0 p6] [] p7) env) _ _ _
    refine Call_method1 rfl rfl hline (pe_name (n := 7) (ρ := rho [("signs", .rf a.sg)]) (x := "signs") (d := .rf a.sg) rfl _ env _ s2 X _ rA eo c2 ⟨fun x d e => ((k2.vs c1 v2).nm x d e), fun p hp => by cases hp⟩ fun u s3 k3 t3 => ?_)
    cases t3 using Tl.rfE
    have c3 := k3.cx c2
    have l3 := l2.ks k3
    obtain ⟨vs3, w1, w2, w3⟩ := l3.sg
    obtain ⟨n0, e0⟩ := id w1
    refine ⟨"list", "list.pop", F.plainAttrs_list, F.slot_list_pop, F.type_list_pop, ⟨_, e0, rfl⟩, fun b eb => (by cases eb; exact ⟨_, e0, rfl⟩), ?_⟩
    refine P.pop_at_list (l := a.sg) (wpAny_mkInt ?_)
    cases w2 with
    | cons y ty w2' =>
    rename_i vs4
    have hl4 := w2'.length
    rw [List.length_map] at hl4
    rw [List.length_cons] at w3
    refine ⟨(Value.str (chS q) ty :: vs4).toArray, n0, 0, s3.toks, 0, .str (chS q) ty, by rw [sizeLine_eq]; simp; lia, rfl, e0, by decide +kernel, by simp [seqIndex?], by simp, ?_⟩
    have hs' : Heap.SameBut a.sg s3.heap (s3.heap.update a.sg (Obj.mapSeq fun xs => xs.eraseIdxIfInBounds 0)) := Heap.SameBut.update ..
    have hl' : (s3.heap.update a.sg (Obj.mapSeq fun xs => xs.eraseIdxIfInBounds 0)).PlainList a.sg vs4.toArray := by
      have qq := PySem.IsL.update (n := n0) e0 (fun xs => xs.eraseIdxIfInBounds 0)
      have e : (Value.str (chS q) ty :: vs4).toArray.eraseIdxIfInBounds 0 = vs4.toArray := by
        simp [Array.eraseIdxIfInBounds]
      rw [e] at qq
      exact ⟨_, qq⟩
    have l5 := l3.setSg hs' hl' w2' (by (exact Nat.le_of_lt (by assumption))) (fun c hc => l.asc c (.tail _ hc))
    refine k _ _ ((k12.trans k3).kw.trans (Kw.of (s := s3) l3.W_X l3.W_tb (fun b o nb e => hs'.extBut b o (fun z => nb (.inr (.inr (.inr z)))) e) (Nat.le_of_eq hs'.1.symm))) l5
end
end Mine
end

section
open PySem PySem.W PySem.Calls PyProof.Rows
set_option Elab.async false
set_option linter.unusedVariables false
set_option linter.unusedSectionVars false
set_option maxRecDepth 10000
namespace Mine
variable [Star]

inductive MGrAt (B : Heap) (k f : Nat) (names : List Str) : Prop
  | mk (o : Obj) (fd : FuncData) (h1_ : B.get? f = some o) (h2_ : o.cls = .type "function") (h3_ : o.data = .func fd) (h4_ : B.CodeRec fd.code fd.qualname) (h5_ : fd.body = .stmts (cfb k)) (h6_ : fd.scope = csc k) (h7_ : fd.closure = []) (h8_ : fd.globals = mainGlobals) (h9_ : fd.builtins = builtinsNs) (h10_ : ∀ vs : List Value, vs.length = names.length → bindArgs fd ⟨vs, []⟩ = pure (names.zip vs))
structure MGr (B : Heap) (k f : Nat) (names : List Str) : Prop where
  at_ : MGrAt B k f names
  ok : defOk (csc k) names = true
  nq : (csc k).names.lookup ("QUESTION_MARK" : Str) = none

inductive LexC (B : Heap) (C fI fR fG fP : Nat) : Prop
  | mk (nm) (q) (N) (bs) (sn) (sub) (col) (dd) (k0) (k1) (k2) (k3) (k5) (mN) (h1_ : B.get? C = some (excClassObj nm q C N bs [.type "object"] true sn sub false col dd k0 k1 k2 k3 k5 "object.__new__")) (h2_ : B.Ns N mN) (h3_ : mN "__getattribute__" = none) (h4_ : mN "__getattr__" = none) (h5_ : mN "__setattr__" = none) (h6_ : mN "__init__" = some (.ref fI)) (h7_ : mN "_read_char" = some (.ref fR)) (h8_ : mN "get_token" = some (.ref fG)) (h9_ : mN "push_token" = some (.ref fP)) (h10_ : ∀ n ∈ lexNames, mN n = none)
structure LexG (B : Heap) (C fI fR fG fP : Nat) : Prop where
  cls : LexC B C fI fR fG fP
  init : MGr B 0 fI ["self", "fp"]
  rd : MGr B 1 fR ["self"]
  gt : MGr B 2 fG ["self"]
  pt : MGr B 3 fP ["self", "token"]
  lim : B.NoLimit

structure LS (B : Heap) (C : Nat) (a : LA) (s0 : Shared) (X0 : Nat → Prop) (env : Env) (X : Nat → Prop) (s : Shared) (ρ : Rho) (m : Int) (cs : List Nat) (pk : List Str) : Prop where
  fs : Fs B env X s ρ
  lx : Lx C a s.heap X0 m cs pk
  x1 : ∀ b, X0 b → X b
  mt : ∀ b, Mut env ρ b → s0.heap.objs.size ≤ b
  az : ∀ b ∈ a.all, b < s0.heap.objs.size
  own : ρ.own = []
  os : s.os = s0.os
  dr : s.drawn = s0.drawn
  kp : ∀ b o, ¬ a.W b → b ≠ Mine.tb → s0.heap.get? b = some o → s.heap.get? b = some o
  sz : s0.heap.objs.size ≤ s.heap.objs.size

section
variable {prog : Program} {w : World} {B : Heap} {n : Nat} {C : Nat} {a : LA} {s0 s s' : Shared} {X0 X : Nat → Prop} {env : Env} {ρ : Rho} {m m' : Int} {cs cs' : List Nat} {pk pk' : List Str}

theorem LS.kw (h : LS B C a s0 X0 env X s ρ m cs pk) : Kw a.W X0 s0 s := ⟨h.os, h.dr, h.kp, h.sz, fun _ => h.fs.cx.ti.move (fun _ _ _ e => e) fun b q => .inl (h.x1 b q), fun _ => h.fs.cx.gn⟩
theorem LS.ks (h : LS B C a s0 X0 env X s ρ m cs pk) (k : Ks X s s') : LS B C a s0 X0 env X s' ρ m cs pk where
  fs := k.fs h.fs
  lx := h.lx.ks k
  x1 := h.x1
  mt := h.mt
  az := h.az
  own := h.own
  os := k.os.trans h.os
  dr := k.dr.trans h.dr
  kp := fun b o n1 n2 e => k.kp b o n2 (h.kp b o n1 n2 e)
  sz := Nat.le_trans h.sz k.sz
theorem LS.tn (h : LS B C a s0 X0 env X s ρ m cs pk) {x : Str} {d : D} (t : Tn (Mut env ρ) s s') (f : Fs B env X s' (ρ.set x d)) : LS B C a s0 X0 env X s' (ρ.set x d) m cs pk where
  fs := f
  lx := h.lx.keep (fun b hb o e => t.kp b o (fun q => by have := h.mt b q; have := h.az b hb; lia) (h.lx.tbne hb) e) fun _ q => q
  x1 := h.x1
  mt := fun b q => h.mt b (by
    rcases q with q | q | ⟨p, hp, e⟩
    · exact .inl q
    · exact .inr (.inl q)
    · have : (ρ.set x d).own = [] := by show ρ.own.filter _ = []; rw [h.own]; rfl
      rw [this] at hp; cases hp)
  az := h.az
  own := by show ρ.own.filter _ = []; rw [h.own]; rfl
  os := t.os.trans h.os
  dr := t.dr.trans h.dr
  kp := fun b o n1 n2 e => t.kp b o (fun q => by have := h.mt b q; have := ltz e; lia) n2 (h.kp b o n1 n2 e)
  sz := Nat.le_trans h.sz t.sz
theorem LS.turn (h : LS B C a s0 X0 env X s ρ m cs pk) (k : Kw a.W X s s') (l : Lx C a s'.heap X0 m' cs' pk') : LS B C a s0 X0 env X s' ρ m' cs' pk' := by
  have wx : ∀ b, a.W b → X b := fun b hb => h.x1 b (h.lx.W_X b hb)
  have nw : ∀ b, a.W b → ¬ Mut env ρ b := fun b hb q => by have := h.mt b q; have := h.az b (LA.W_all hb); lia
  have f := h.fs
  refine { fs := ?_, lx := l, x1 := h.x1, mt := h.mt, az := h.az, own := h.own, os := k.os.trans h.os, dr := k.dr.trans h.dr, kp := fun b o n1 n2 e => k.kp b o n1 n2 (h.kp b o n1 n2 e), sz := Nat.le_trans h.sz k.sz }
  have nl : ¬ a.W env.locals := fun q => nw _ q (.inl rfl)
  have nc : ∀ x c, env.cells.lookup x = some c → ¬ a.W c := fun x c e q => nw _ q (.inr (.inl ⟨x, e⟩))
  refine ⟨k.cx f.cx wx, ⟨fun y d e => ?_, fun p hp => by rw [h.own] at hp; cases hp⟩, f.lx, f.ln, let ⟨m, hm⟩ := f.lm; ⟨m, hm.at' fun o e => k.kp _ o nl f.ln e⟩, fun y c e => ?_, f.inj, f.dis⟩
  · obtain ⟨c1, b1⟩ := f.vs.nm y d e
    refine ⟨?_, b1⟩
    rcases c1 with ⟨a1, a2, m, u, a3, a4, a5⟩ | ⟨c, u, a1, a2, a3, a4, a5⟩
    · exact .inl ⟨a1, a2, m, u, a3.at' fun o e => k.kp _ o nl a2 e, a4, k.tl f.cx wx a5⟩
    · exact .inr ⟨c, u, a1, a2, a3, let ⟨ob, e1, e2⟩ := a4; ⟨ob, k.kp _ ob (nc y c a2) a3 e1, e2⟩, k.tl f.cx wx a5⟩
  · obtain ⟨q1, q2, u, ob, e1, e2⟩ := f.cel y c e
    exact ⟨q1, q2, u, ob, k.kp _ ob (nc y c e) q2 e1, e2⟩

theorem Lx.weakX {h : Heap} {Y : Nat → Prop} (l : Lx C a h X m cs pk) (x : ∀ b, X b → Y b) : Lx C a h Y m cs pk := l.keep (fun _ _ _ e => e) x
theorem Lx.backX {h : Heap} {Y : Nat → Prop} (l : Lx C a h X m cs pk) (x : ∀ b ∈ a.all, Y b) : Lx C a h Y m cs pk := { l with inX := x }

theorem ls_enterC {k f : Nat} {ps : List (Str × D)} (g : MGr B k f (ps.map (·.1))) (hlim : B.NoLimit) {A : Around} {vs : List Value} {R : Result → Shared → Prop} (r : Room (n + 1) A) (c : Cx B X s) (l : Lx C a s.heap X m cs pk) (t : Tls s.heap X vs (ps.map (·.2)))
    (h : ∀ (A' : Around) (env : Env) (E' : Value → Shared → Prop) (s₁ : Shared) (X' : Nat → Prop), Room n A' → Eo (csc k) env → LS B C a s X env X' s₁ (rho ps) m cs pk → (∀ b, X' b → X b ∨ s.heap.objs.size ≤ b) → ((csc k).names.all (fun y => y.2 != .cell) = true → env.cells = []) →
      wpAny (model prog w) A' (execs (cfb k) env) (fun fl s' => match fl with | .ret v => R (.ok (.ret v)) s' | .next => R (.ok (.ret .none)) s' | _ => False) E' s₁) :
    codeAny (model prog w) A (.call (.ref f) ⟨vs, []⟩) R s := by
  obtain ⟨o, fd, h1, hc, h2, h3, h4, h5, h6, h7, h8, h9⟩ := g.at_
  refine fa_enterC (ps := ps) h1 h2 hlim h3 h4 h6 h7 h8 (fun vs hv => h9 vs (by simpa using hv)) (by rw [h5]; exact g.ok) (by rw [h5, g.nq]; intro q; cases q) r c t fun A' env E' s₁ X' r' eo fs kp e1 e2 e3 sz x1 x2 hm hnc => ?_
  rw [h5] at eo hnc
  exact h A' env E' s₁ X' r' eo ⟨fs, l.keep (fun b _ o e => kp b o e) fun _ q => q, x1, hm, fun b hb => c.xlt b (l.inX b hb), rfl, e1, e2, fun b o _ _ e => kp b o e, sz⟩ x2 hnc
end
end Mine
end

section
open PySem PySem.W PySem.Calls PyProof.Rows PySem.Builtin PySem.Builtin.ObjectAttr
set_option Elab.async false
set_option linter.unusedVariables false
set_option maxRecDepth 100000
set_option maxHeartbeats 1000000
namespace Mine
section
variable {prog : Program} {w : World} {A : Around} {E : Value → Shared → Prop} {h : Heap} {g : Array GenState} {d : Drawn} {t : Nat} {os : OsState}
variable {nm q : Str} {C N x dx : Nat} {bs : List Value} {sn : List Str} {sub : List Value} {ab : Bool} {col : Option Bool} {dd : Option Addr} {k0 k1 k2 k3 k5 : Option Value} {newId : String}
  {mN mA : Str → Option Value} {name : Str} {v : Value} {o : Obj}

theorem st_entry {tk : Tok} {Q : Fin → Shared → Prop} {ns : List Str}
    (hC : h.get? C = some (excClassObj nm q C N bs [.type "object"] true sn sub ab col dd k0 k1 k2 k3 k5 newId)) (hn : h.Ns N mN) (hna : mN name = none)
    (hB : typeLookup (.type "object") name = pure none) (hx : h.get? x = some o) (hc : o.cls = .ref C) (hdx : o.dict = some dx) (hns : h.Ns1 dx mA)
    (hq : ∀ h' tk', h'.Ns1 dx (fun y => if y = name then some v else mA y) → Heap.SameBut dx h h' → Q (.done (.ret .none)) ⟨h', g, d, tk', os⟩) (hw : PySem.Within mA ns) (hsz : ns.length < sizeLine) :
    wpAny (model prog w) A (Builtin.«object.__setattr__» ⟨[.ref x, .str name tk, v], []⟩) Q E ⟨h, g, d, t, os⟩ := by
  have hpass := PySem.F.store_object.passes (.ref x)
  have hmro := PySem.F.store_object.mro
  unfold Builtin.«object.__setattr__»
  repeat (first | rw [refuse_eq] | (rw [refuseLoop_ref, hpass]) | (with_reducible refine wpAny_loadPart_at hx ?_; rw [hc]) | with_reducible refine wpAny_mroOf_exc hC ?_ | (with_reducible refine wpAny_typeLookup_exc hC hn hmro hB ?_; rw [hna]) | (with_reducible refine wpAny_nsSet1 hns fun h' hn' hs => ?_) | wp_step)
  rw [hdx]
  refine wpAny_pure ?_
  show wpAny _ _ (storeInDict dx (.str name tk) name v) _ _ _
  unfold storeInDict newKeyGuard
  refine wpAny_bind (wpAny_pure (wpAny_bind (wpAny_nsSet1 hns fun h' hn' hs => ?_)))
  obtain ⟨oD, esD, epD, hoD, hdD, hcD⟩ := hn'.count (Within.cons name v hw)
  refine wpAny_bind (wpAny_lookBehind hoD (by rw [hdD]; exact pastItsLine_dict (Nat.le_trans hcD (by rw [List.length_cons]; lia))) ?_)
  exact wpAny_pure (hq h' _ hn' hs)

theorem st_call {tk : Tok} {R : Result → Shared → Prop} {ns : List Str} {sa owner : String} (SF : StoreFacts "object" [.type "object"] sa owner)
    (hC : h.get? C = some (excClassObj nm q C N bs [.type "object"] true sn sub ab col dd k0 k1 k2 k3 k5 newId)) (hn : h.Ns N mN) (hna : mN name = none)
    (hB : typeLookup (.type "object") name = pure none) (hx : h.get? x = some o) (hc : o.cls = .ref C) (hdx : o.dict = some dx) (hns : h.Ns1 dx mA)
    (hq : ∀ h' tk', h'.Ns1 dx (fun y => if y = name then some v else mA y) → Heap.SameBut dx h h' → R (.ok (.ret .none)) ⟨h', g, d, tk', os⟩) (hw : PySem.Within mA ns) (hsz : ns.length < sizeLine) :
    codeAny (model prog w) A (.call (.builtin sa) ⟨[.ref x, .str name tk, v], []⟩) R ⟨h, g, d, t, os⟩ := by
  exact codeAny_call_builtin SF.slot.plain SF.entry (wpAny_check_sa SF hC hx hc (st_entry hC hn hna hB hx hc hdx hns hq hw hsz))

theorem st_attr {Q : Unit → Shared → Prop} {ns : List Str} {sa owner : String} (SF : StoreFacts "object" [.type "object"] sa owner)
    (hC : h.get? C = some (excClassObj nm q C N bs [.type "object"] true sn sub ab col dd k0 k1 k2 k3 k5 newId)) (hn : h.Ns N mN) (hss : mN "__setattr__" = none) (hna : mN name = none)
    (hB : typeLookup (.type "object") name = pure none) (hx : h.get? x = some o) (hc : o.cls = .ref C) (hdx : o.dict = some dx) (hns : h.Ns1 dx mA)
    (hq : ∀ h' tk', h'.Ns1 dx (fun y => if y = name then some v else mA y) → Heap.SameBut dx h h' → Q () ⟨h', g, d, tk', os⟩) (hw : PySem.Within mA ns) (hsz : ns.length < sizeLine) :
    wpAny (model prog w) A (setAttr (.ref x) name v) Q E ⟨h, g, d, t, os⟩ := by
  have f3 := SF.slot.bind (.ref x)
  unfold setAttr callSpecial? specialOf
  repeat (any_goals (first | assumption | (with_reducible refine wpAny_loadPart_at hx ?_; rw [hc]) | (with_reducible refine wpAny_typeLookup_exc hC hn SF.mro SF.slot.lookup ?_; rw [hss]) | wp_step))
  refine st_call SF hC hn hna hB hx hc hdx hns (fun h' tk' I' hk => ?_) hw hsz
  repeat (any_goals (first | assumption | wp_step))
  exact hq h' tk' I' hk
end
end Mine
end

section
open PySem PySem.W PySem.Calls PyProof.Rows
set_option Elab.async false
set_option linter.unusedVariables false
set_option linter.unusedSectionVars false
set_option maxRecDepth 10000
namespace Mine
variable [Star]

theorem ob_lineno : typeLookup (.type "object") "lineno" = pure none := by rw [typeLookup_type, builtinLookup_eq_fast]; kernel_rfl
theorem ob_instream : typeLookup (.type "object") "instream" = pure none := by rw [typeLookup_type, builtinLookup_eq_fast]; kernel_rfl
theorem ob_ws : typeLookup (.type "object") "whitespace" = pure none := by rw [typeLookup_type, builtinLookup_eq_fast]; kernel_rfl
theorem ob_pb : typeLookup (.type "object") "pushback" = pure none := by rw [typeLookup_type, builtinLookup_eq_fast]; kernel_rfl

section
variable {prog : Program} {w : World} {B : Heap} {n : Nat} {C fI fR fG fP : Nat} {a : LA} {s0 s s' : Shared} {X0 X : Nat → Prop} {sc : Scope} {env : Env} {ρ : Rho} {m m' : Int} {cs cs' : List Nat} {pk pk' : List Str}

theorem Lx.instOf {h : Heap} (l : Lx C a h X m cs pk) {mA : Str → Option Value} (hm : h.Ns1 a.dx mA) : h.Inst a.x C mA := by
  obtain ⟨o, e, r1, r2, r3⟩ := l.inst
  obtain ⟨_, _, _, _, _, _, _, _, _, _, _, _, _, _, _, e1, _⟩ := LA.ne l.nod
  exact ⟨o, e, r1, r2, .inr ⟨a.dx, r3, e1, hm⟩⟩

theorem la_get (g : LexG B C fI fR fG fP) {A : Around} {E : Value → Shared → Prop} {Q : Value → Shared → Prop} {name : Str} {v : Value} {ex : Bool} (hB : typeLookup (.type "object") name = pure none) (hn : name ∈ lexNames) (c : Cx B X s) (l : Lx C a s.heap X0 m cs pk)
    (hv : ∃ mA, s.heap.Ns1 a.dx mA ∧ mA name = some v) (hh : handedOut v = pure v) (k : Q v { s with toks := s.toks + 1 }) : wpAny (model prog w) A (getAttr (.ref a.x) name ex) Q E s := by
  obtain ⟨nm, q, N, bs, sn, sub, col, dd, k0, k1, k2, k3, k5, mN, h1, h2, h3, h4, h5, h6, h7, h8, h9, h10⟩ := g.cls
  obtain ⟨mA, hm, hmv⟩ := hv
  obtain ⟨hp, gg, d, t, os⟩ := s
  exact load_attr (c.base _ _ h1) (h2.keeps c.base) h3 (h10 name hn) hB (l.instOf hm) hmv hh k

theorem la_eval (g : LexG B C fI fR fG fP) {A : Around} {E : Value → Shared → Prop} {Q : Value → Shared → Prop} {name : Str} {v : Value} {p ap : Pos} (hB : typeLookup (.type "object") name = pure none) (hn : name ∈ lexNames) (r : Room n A) (o : Eo sc env) (h : LS B C a s0 X0 env X s ρ m cs pk) (hs : ρ.nm "self" = some (.rf a.x))
    (hv : ∃ mA, s.heap.Ns1 a.dx mA ∧ mA name = some v) (hh : handedOut v = pure v) (k : ∀ s', Ks X s s' → Q v s') : wpAny (model prog w) A (eval (.Attribute (.Name "self" p) name ap) env) Q E s :=
  Attribute_name (pe_name (n := n) (sc := sc) hs A env E s X _ r o h.fs.cx h.fs.vs fun u s1 k1 t1 => by
    cases t1 using Tl.rfE
    have h1 := h.ks k1
    refine la_get (X := X) (X0 := X0) g hB hn h1.fs.cx h1.lx ?_ hh (k _ (k1.trans (Ks.tok s1 _)))
    obtain ⟨mA, hm, hmv⟩ := hv
    exact ⟨mA, hm.at fun o e => k1.kp _ o (h.lx.tbne (by simp [LA.all])) e, hmv⟩)

theorem ns1_uniq {h : Heap} {d : Nat} {m1 m2 : Str → Option Value} (x : h.Ns1 d m1) (y : h.Ns1 d m2) : m1 = m2 := by
  obtain ⟨o, es, ep, e1, e2, _, _, e3⟩ := x
  obtain ⟨o', es', ep', f1, f2, _, _, f3⟩ := y
  rw [e1] at f1; cases f1
  rw [e2] at f2; cases f2
  exact funext fun n => (e3 n).symm.trans (f3 n)

theorem set_lineno (g : LexG B C fI fR fG fP) {A : Around} {E : Value → Shared → Prop} {Q : Unit → Shared → Prop} {i : Int} {t : Tok} (c : Cx B X s) (l : Lx C a s.heap X m cs pk)
    (k : ∀ s', Kw a.W X s s' → Lx C a s'.heap X i cs pk → Q () s') : wpAny (model prog w) A (setAttr (.ref a.x) "lineno" (.int i t)) Q E s := by
  obtain ⟨nm, q, N, bs, sn, sub, col, dd, k0, k1, k2, k3, k5, mN, h1, h2, h3, h4, h5, h6, h7, h8, h9, h10⟩ := g.cls
  obtain ⟨mB, b1, b2, b3, b4, b5, b6⟩ := l.dict
  obtain ⟨ox, i1, i2, i3, i4⟩ := l.inst
  obtain ⟨hp, gg, d, tk, os⟩ := s
  refine st_attr PySem.F.store_object (c.base _ _ h1) (h2.keeps c.base) h5 (h10 _ (by simp [lexNames])) ob_lineno i1 i2 i4 b1 (fun h' tk' hns hs => ?_) b2 (by decide +kernel)
  obtain ⟨_, _, _, _, _, _, _, _, _, _, _, _, _, _, _, e1, _⟩ := LA.ne l.nod
  have kp : ∀ b o, b ≠ a.dx → hp.get? b = some o → h'.get? b = some o := fun b o n2 e => hs.extBut b o n2 e
  refine k ⟨h', gg, d, tk', os⟩ (Kw.of (s := ⟨hp, gg, d, tk, os⟩) l.W_X l.W_tb (fun b o nb e => kp b o (fun z => nb (.inr (.inl z))) e) (Nat.le_of_eq hs.1.symm)) ?_
  refine l.setN (t := t) (fun b o _ n2 e => kp b o n2 e) (fun o₀ e => ⟨o₀, kp _ _ (Ne.symm e1) e, rfl, rfl, fun _ z => z⟩) fun mA hA => ?_
  rw [ns1_uniq hA b1]; exact hns

theorem ho_ref {b : Nat} : handedOut (.ref b) = pure (.ref b) := rfl
theorem ho_int {i : Int} {t : Tok} : handedOut (.int i t) = pure (.int i t) := rfl
theorem ho_str {x : Str} {t : Tok} : handedOut (.str x t) = pure (.str x t) := rfl

noncomputable def nxtN (m : Int) (cs : List Nat) : Int := if cs.head? = some 10 then m + 1 else m

theorem rc_callC (g : LexG B C fI fR fG fP) {A : Around} {R : Result → Shared → Prop} (r : Room 9 A) (c : Cx B X s) (l : Lx C a s.heap X m cs pk)
    (k : ∀ t s', Kw a.W X s s' → Lx C a s'.heap X (nxtN m cs) cs.tail pk → R (.ok (.ret (.str (headS cs) t))) s') : codeAny (model prog w) A (.call (.ref fR) ⟨[.ref a.x], []⟩) R s := by
  refine ls_enterC (n := 8) (ps := [("self", .rf a.x)]) g.rd g.lim r c l (.cons (.rf a.x) .nil) fun A' env E' s1 X1 r' o L x2 _ => ?_
  rw [show cfb 1 = [.Assign [.Name "ch" _] (.Call (.Attribute (.Attribute (.Name "self" _) "instream" _) "read" _) [.Constant (.int 1) 0 _] [] _) _,
    .If (.Compare (.Name "ch" _) [.Eq] [.Constant (.str "\n") 0 _] _) [.AugAssign (.Attribute (.Name "self" _) "lineno" _) .Add (.Constant (.int 1) 0 _) _] [] _, .Return (some (.Name "ch" _)) _] from rfl]
  have hself : (rho [("self", .rf a.x)]).nm "self" = some (.rf a.x) := rfl
  have c8 : (csc 1).names.lookup ("ch" : Str) = some .local := by decide +kernel
  obtain ⟨mA, q1, q2, q3, q4, q5, q6⟩ := L.lx.dict
  refine wpAny_execs_cons (wpAny_Assign_Name (MethodCall_ (la_eval g ob_instream (by simp [lexNames]) r' o L hself ⟨mA, q1, q4⟩ ho_ref fun s2 k2 => ?_)) rfl)
  have L2 := L.ks k2
  obtain ⟨of, f1, f2, f3, fd, f4⟩ := L2.lx.sf
  obtain ⟨mS, d1, d2⟩ := L2.lx.sd
  refine getMethod_read f1 f2 f3 f4 d1 d2 rfl fun tk => ?_
  have L2' := L2.ks (Ks.tok s2 tk)
  obtain ⟨orf, fdr, g1, _, g3, _⟩ := L2'.lx.lam
  refine Calls.callWith_function (o := orf) (fd := fdr) (Calls.evalArgs_plain (Calls.spliced_cons ?_))
  simp only [Bool.false_eq_true, if_false]
  refine wpAny_mkInt (Calls.spliced_nil ⟨⟨g1, g3⟩, ?_⟩)
  have L3 := L2'.ks (Ks.tok _ (tk + 1))
  refine lam_call g.lim r' L3.fs.cx (L3.lx.weakX L3.x1) fun t1 s3 k3 l3 => ?_
  have L4 := L3.turn k3 (l3.backX l.inX)
  refine store_name o L4.fs (.inl c8) (.str (headS cs) t1) (by decide +kernel) (by decide +kernel) fun s4 f5 t5 => ?_
  have L5 := L4.tn t5 f5
  show wpAny _ _ (execs _ env) _ _ _
  rw [execs_if]
  have hself5 : ((rho [("self", .rf a.x)]).set "ch" (.str (headS cs))).nm "self" = some (.rf a.x) := rfl
  have hch5 : ((rho [("self", .rf a.x)]).set "ch" (.str (headS cs))).nm "ch" = some (.str (headS cs)) := Rho.set_eq
  generalize (rho [("self", .rf a.x)]).set "ch" (.str (headS cs)) = ρ5 at L5 hself5 hch5
  have hpt : ∀ p8 p9 p10, PT prog w B 8 (csc 1) ρ5 (.Compare (.Name "ch" p8) [.Eq] [.Constant (.str "\n") 0 p9] p10) (headS cs == "\n") := fun _ _ _ => pt_cmp (pe_name hch5) pe_str bo_eq_str
  refine wpAny_bind (wpAny_standAt (wpAny_bind (hpt _ _ _ A' env _ s4 X1 _ r' o L5.fs.cx L5.fs.vs fun s6 k6 => ?_)))
  have L6 := L5.ks k6
  have heq : (headS cs == "\n") = decide (cs.head? = some 10) := by
    have e10 : ("\n" : Str) = chS 10 := by decide +kernel
    cases cs with
    | nil => decide +kernel
    | cons q rest =>
      rw [e10]
      show ((⟨#[q]⟩ : Str) == ⟨#[10]⟩) = _
      rw [chr_beq]; simp
  have fin : ∀ (p16 p17 : Pos) (s7 : Shared), LS B C a s X env X1 s7 ρ5 (nxtN m cs) cs.tail pk → wpAny (model prog w) A' (execs [.Return (some (.Name "ch" p16)) p17] env) (fun fl s' => match fl with | .ret v => R (.ok (.ret v)) s' | .next => R (.ok (.ret .none)) s' | _ => False) E' s7 := fun p16 p17 s7 L7 =>
    wpAny_execs_cons (wpAny_Return_some (pe_name (n := 8) (sc := csc 1) hch5 A' env _ s7 X1 _ r' o L7.fs.cx L7.fs.vs fun u s8 k8 t8 => by
      cases t8 using Tl.strE
      have L8 := L7.ks k8
      exact k _ _ L8.kw L8.lx))
  rw [heq]
  by_cases hh : cs.head? = some 10
  · have en : nxtN m cs = m + 1 := if_pos hh
    rw [decide_eq_true hh]
    simp only [if_true]
    refine wpAny_execs_cons (wpAny_AugAssign_AttributeAny (pe_name (n := 8) (sc := csc 1) hself5 A' env _ s6 X1 _ r' o L6.fs.cx L6.fs.vs fun u s7 k7 t7 => ?_))
    cases t7 using Tl.rfE
    have L7 := L6.ks k7
    obtain ⟨mB, b1, b2, ⟨t2, b3⟩, b4, b5, b6⟩ := L7.lx.dict
    refine la_get (X := X1) g ob_lineno (by simp [lexNames]) L7.fs.cx L7.lx ⟨mB, b1, b3⟩ ho_int ?_
    refine wpAny_mkInt (AutoIntOps.iadd_0 ?_)
    have L8 := L7.ks (Ks.tok s7 (s7.toks + 1 + 1 + 1))
    refine set_lineno g L8.fs.cx (L8.lx.weakX L8.x1) fun s9 k9 l9 => ?_
    exact fin _ _ s9 (en.symm ▸ (L8.turn k9 (l9.backX l.inX)))
  · have en : nxtN m cs = m := if_neg hh
    rw [decide_eq_false hh]
    simp only [Bool.false_eq_true, if_false]
    exact fin _ _ s6 (en.symm ▸ L6)

theorem rc_call (g : LexG B C fI fR fG fP) {A : Around} {E : Value → Shared → Prop} {Q : Value → Shared → Prop} (r : Room 9 A) (c : Cx B X s) (l : Lx C a s.heap X m cs pk)
    (k : ∀ t s', Kw a.W X s s' → Lx C a s'.heap X (nxtN m cs) cs.tail pk → Q (.str (headS cs) t) s') : wpAny (model prog w) A (call (.ref fR) [.ref a.x]) Q E s := wpAny_call (rc_callC g r c l k)
end
end Mine
end

section
open PySem PySem.W PySem.Calls PyProof.Rows PySem.Builtin
set_option Elab.async false
set_option linter.unusedVariables false
set_option maxRecDepth 100000
set_option maxHeartbeats 1000000
namespace Mine

theorem ci_slot : Slot "callable_iterator" "__next__" "callable_iterator.__next__" :=
  .of (owner := "callable_iterator") (n := "__next__") (by rw [typeLookup_type, builtinLookup_eq_fast]; kernel_rfl) (by decide +kernel) (by decide +kernel) (by decide +kernel)
    (by first | exact .inl (by decide +kernel) | exact .inr (by decide +kernel)) (by rw [isSubtype_type]; kernel_rfl)
theorem ci_entry : entryFor table "callable_iterator.__next__" = some Builtin.«callable_iterator.__next__» := entryFor_of_tree (by kernel_rfl)
theorem ci_args (a : Value) : argsOk "callable_iterator.__next__" ⟨[a], []⟩ := by unfold argsOk; kernel_rfl
theorem ci_slot2 : Slot "callable_iterator" "__iter__" "callable_iterator.__iter__" :=
  .of (owner := "callable_iterator") (n := "__iter__") (by rw [typeLookup_type, builtinLookup_eq_fast]; kernel_rfl) (by decide +kernel) (by decide +kernel) (by decide +kernel)
    (by first | exact .inl (by decide +kernel) | exact .inr (by decide +kernel)) (by rw [isSubtype_type]; kernel_rfl)
theorem ci_args2 (a : Value) : argsOk "callable_iterator.__iter__" ⟨[a], []⟩ := by unfold argsOk; kernel_rfl

section
variable {M : Model} {prog : Program} {w : World} {A : Around} {E : Value → Shared → Prop} {s : Shared}

theorem wpAny_callBorrowed {f : Value} {pos : List Value} {Q : Value → Shared → Prop}
    (hc : codeAny M A (.call f ⟨pos, []⟩) (fun r s' => match r with | .ok (.ret v) => Q v s' | .ok _ => False | .error e => E e s') s) : wpAny M A (callBorrowed f pos) Q E s := fun Γ p hΓ => by
  unfold callBorrowed
  rw [Sem.wp_call]
  refine wpCode_mono (fun r s' h => ?_) (hc _ p rfl (hΓ.enter (.call f ⟨pos, []⟩) none p (by intro x; cases x)))
  rcases r with e | (_ | _ | _ | v) <;> first | exact h | exact h.elim

noncomputable def ciObj (m : Nat) (t : Tok) : Obj := { cls := .type "callable_iterator", dict := none, data := .fields #[.ref m, .str "" t, .bool false], slots := #[] }
noncomputable def ciEnd : Obj := { cls := .type "callable_iterator", dict := none, data := .fields #[.none, .none, .bool true], slots := #[] }
noncomputable def mObj (f x : Nat) : Obj := { cls := .type "method", dict := none, data := .fields #[.ref f, .ref x], slots := #[] }

theorem borrows_m {m f x : Nat} {o : Obj} {fd : FuncData} {Q : Bool → Shared → Prop} (hm : s.heap.get? m = some (mObj f x)) (hf : s.heap.get? f = some o) (hd : o.data = .func fd) (hQ : Q true s) : wpAny M A (borrowsExactly (.ref m)) Q E s := by
  unfold borrowsExactly
  refine wpAny_bind (wpAny_load hm ?_)
  show wpAny _ _ (do match (← load f).data with | .func _ => pure true | _ => pure false) _ _ _
  refine wpAny_bind (wpAny_load hf ?_)
  rw [hd]
  exact wpAny_pure hQ
end
end Mine
end

section
open PySem PySem.W PySem.Calls PyProof.Rows PySem.Builtin
set_option Elab.async false
set_option linter.unusedVariables false
set_option maxRecDepth 100000
set_option maxHeartbeats 1000000
namespace Mine
section
variable {M : Model} {prog : Program} {w : World} {A : Around} {E : Value → Shared → Prop} {s : Shared}

theorem stop_si {α : Type} {Q : α → Shared → Prop} (hh : A.handled = none) (h : ∀ h' e o, h'.get? e = some o → o.cls = .type "StopIteration" → (∀ b ob, s.heap.get? b = some ob → h'.get? b = some ob) → s.heap.objs.size ≤ h'.objs.size → E (.ref e) { s with heap := h' }) :
    wpAny M A (do raiseNew (← newExc (.type "StopIteration") []) : Sem α) Q E s := by
  refine wpAny_bind (m := newExc (.type "StopIteration") []) ?_
  simp only [newExc, newTuple]
  refine wpAny_bind (wpAny_newObj_type ?_ (by size_fits))
  refine wpAny_bind (m := firstArgMember _ _) (wpAny_of_eq (a := Value.none) (by first | rfl | (simp only [firstArgMember]; rfl)) ?_)
  refine wpAny_newObj_type ?_ (by size_fits)
  simp only [raiseNew]
  refine wpAny_bind (wpAny_handled ?_)
  rw [hh]
  refine wpAny_bind (wpAny_pure (wpAny_throw ?_))
  refine h _ _ _ (Heap.get?_push_size _ rfl) rfl (fun b ob e => Heap.get?_push_of_some _ (Heap.get?_push_of_some _ e)) ?_
  rw [Heap.size_push, Heap.size_push]
  exact Nat.le_succ_of_le (Nat.le_succ _)

theorem ci_typ {I : Nat} {o : Obj} (h : s.heap.get? I = some o) (hc : o.cls = .type "callable_iterator") : s.TypeIs (.ref I) "callable_iterator" := ⟨o, h, hc⟩

theorem ci_ended {I : Nat} {Q : Option Value → Shared → Prop} (hh : A.handled = none) (hI : s.heap.get? I = some ciEnd)
    (hQ : ∀ h', (∀ b ob, s.heap.get? b = some ob → h'.get? b = some ob) → s.heap.objs.size ≤ h'.objs.size → Q none { s with heap := h' }) : wpAny (model prog w) A (pyNext (.ref I)) Q E s := by
  have hT := ci_typ (s := s) hI rfl
  unfold pyNext
  refine wpAny_bind (wpAny_attempt (wpAny_callSpecial?_slot (name := Str.ofString "__next__") hT ci_slot (wpAny_call_entry ci_slot hT ci_entry ?_ (ci_args _))))
  unfold Builtin.«callable_iterator.__next__»
  refine wpAny_bind (wpAny_of_eq (a := (Value.ref I, ([] : List Value))) rfl ?_)
  dsimp only
  refine wpAny_bind (wpAny_field hI rfl (x := .bool true) rfl ?_)
  rw [if_pos (by decide)]
  refine wpAny_bind (wpAny_rule (wpAny_bind (stop_si (A := A.in1) hh fun h' e o he ho kp sz => ?_)))
  refine wpAny_bind (wpAny_isInstance (T := "StopIteration") (b := true) ⟨o, he, ho⟩ isSubtype_stop ?_)
  exact wpAny_pure (hQ h' kp sz)

theorem ci_next {I m f x : Nat} {t : Tok} {o : Obj} {fd : FuncData} {Q : Option Value → Shared → Prop} (hh : A.handled = none) (hI : s.heap.get? I = some (ciObj m t)) (hm : s.heap.get? m = some (mObj f x))
    (h : codeAny (model prog w) A.in1 (.call (.ref f) ⟨[.ref x], []⟩) (fun r s' => ∃ y u, r = .ok (.ret (.str y u)) ∧ s'.heap.get? I = some (ciObj m t) ∧ s'.heap.get? m = some (mObj f x) ∧ s'.heap.get? f = some o ∧ o.data = .func fd ∧
      ((y == "") = false → Q (some (.str y u)) s') ∧ ((y == "") = true → ∀ h', h'.get? I = some ciEnd → (∀ b ob, b ≠ I → s'.heap.get? b = some ob → h'.get? b = some ob) → s'.heap.objs.size ≤ h'.objs.size → Q none { s' with heap := h' })) s) (hf : s.heap.get? f = some o) (hd : o.data = .func fd) :
    wpAny (model prog w) A (pyNext (.ref I)) Q E s := by
  have hT := ci_typ (s := s) hI rfl
  unfold pyNext
  refine wpAny_bind (wpAny_attempt (wpAny_callSpecial?_slot (name := Str.ofString "__next__") hT ci_slot (wpAny_call_entry ci_slot hT ci_entry ?_ (ci_args _))))
  unfold Builtin.«callable_iterator.__next__»
  refine wpAny_bind (wpAny_of_eq (a := (Value.ref I, ([] : List Value))) rfl ?_)
  dsimp only
  refine wpAny_bind (wpAny_field hI rfl (x := .bool false) rfl ?_)
  rw [if_neg (by decide)]
  refine wpAny_bind (wpAny_field hI rfl (x := .ref m) rfl ?_)
  refine wpAny_bind (wpAny_attempt ?_)
  unfold callOutOfASlot
  refine wpAny_bind (borrows_m hm hf hd ?_)
  rw [if_pos rfl]
  refine wpAny_callBorrowed ?_
  refine method_call hm (codeAny_mono h fun r s' hr => ?_)
  obtain ⟨y, u, rfl, h1, h2, h3, h4, h5, h6⟩ := hr
  dsimp only
  refine wpAny_bind (wpAny_field h1 rfl (x := .bool false) rfl ?_)
  rw [if_neg (by decide)]
  refine wpAny_bind (wpAny_field h1 rfl (x := .str "" t) rfl ?_)
  refine wpAny_bind (wpAny_holding (eqBool_str ?_))
  cases hy : (y == "") with
  | false =>
    have hy2 : (("" : Str) == y) = false := by
      rw [beq_eq_false_iff_ne] at hy ⊢
      exact fun e => hy e.symm
    rw [hy2]
    simp only [Bool.not_false, if_true]
    exact wpAny_pure ⟨_, rfl, wpAny_pure (h5 hy)⟩
  | true =>
    have hy2 : (("" : Str) == y) = true := by
      rw [beq_iff_eq] at hy ⊢
      exact hy.symm
    rw [hy2]
    simp only [Bool.not_true, Bool.false_eq_true, if_false]
    refine wpAny_bind (wpAny_rule (wpAny_bind ?_))
    show wpAny _ _ (field (.ref I) 0 >>= _) _ _ _
    refine wpAny_bind (wpAny_field h1 rfl (x := .ref m) rfl ?_)
    show wpAny _ _ (slotLetsGo _ (.ref m) _ >>= _) _ _ _
    refine wpAny_bind ?_
    unfold slotLetsGo
    refine wpAny_bind (borrows_m h2 h3 h4 ?_)
    rw [if_pos rfl]
    refine wpAny_pure ?_
    refine wpAny_bind (wpAny_setField h1 rfl (by simp) ?_)
    have u1 : (s'.heap.update I (Obj.mapFields (·.setIfInBounds 0 .none))).get? I = some { cls := .type "callable_iterator", dict := none, data := .fields #[.none, .str "" t, .bool false], slots := #[] } := Heap.get?_update_self _ h1 rfl
    refine wpAny_bind (wpAny_setField u1 rfl (by simp) ?_)
    have u2 : ((s'.heap.update I (Obj.mapFields (·.setIfInBounds 0 .none))).update I (Obj.mapFields (·.setIfInBounds 1 .none))).get? I = some { cls := .type "callable_iterator", dict := none, data := .fields #[.none, .none, .bool false], slots := #[] } := Heap.get?_update_self _ u1 rfl
    refine wpAny_setField u2 rfl (by simp) ?_
    have u3 : (((s'.heap.update I (Obj.mapFields (·.setIfInBounds 0 .none))).update I (Obj.mapFields (·.setIfInBounds 1 .none))).update I (Obj.mapFields (·.setIfInBounds 2 (.bool true)))).get? I = some ciEnd := Heap.get?_update_self _ u2 rfl
    have sb : Heap.SameBut I s'.heap (((s'.heap.update I (Obj.mapFields (·.setIfInBounds 0 .none))).update I (Obj.mapFields (·.setIfInBounds 1 .none))).update I (Obj.mapFields (·.setIfInBounds 2 (.bool true)))) :=
      ((Heap.SameBut.update ..).trans (Heap.SameBut.update ..)).trans (Heap.SameBut.update ..)
    generalize (((s'.heap.update I (Obj.mapFields (·.setIfInBounds 0 .none))).update I (Obj.mapFields (·.setIfInBounds 1 .none))).update I (Obj.mapFields (·.setIfInBounds 2 (.bool true)))) = H at u3 sb ⊢
    refine stop_si (A := A.in1) hh fun h' e o he ho kp sz => ?_
    refine wpAny_bind (wpAny_isInstance (T := "StopIteration") (b := true) ⟨o, he, ho⟩ isSubtype_stop ?_)
    exact wpAny_pure (h6 hy h' (kp _ _ u3) (fun b ob ne q => kp _ _ (sb.extBut b ob ne q)) (Nat.le_trans (Nat.le_of_eq sb.1.symm) sz))

theorem ci_iter {I : Nat} {o : Obj} {Q : Value → Shared → Prop} (hI : s.heap.get? I = some o) (hc : o.cls = .type "callable_iterator") (h : Q (.ref I) s) : wpAny (model prog w) A (pyIter (.ref I)) Q E s := by
  have hT := ci_typ (s := s) hI hc
  refine wpAny_pyIter_slot hT ci_slot2 (wpAny_call_entry ci_slot2 hT (b := Builtin.«dict_keyiterator.__iter__») (entryFor_alias (id' := "dict_keyiterator.__iter__") (by kernel_rfl) rfl (by decide +kernel) (by kernel_rfl)) ?_ (ci_args2 _))
  show wpAny _ _ (ret (.ref I)) _ _ s
  exact wpAny_pure ⟨_, rfl, "callable_iterator", _, hT, ci_slot.lookup, h⟩
end
end Mine
end

section
open PySem PySem.W PySem.Calls PyProof.Rows PySem.Builtin PySem.Builtin.ObjectAttr
set_option Elab.async false
set_option linter.unusedVariables false
set_option maxRecDepth 100000
set_option maxHeartbeats 1000000
namespace Mine
theorem fn_get_lk : typeLookup (.type "function") "__get__" = pure (some (.builtin "function.__get__")) := by rw [typeLookup_type, builtinLookup_eq_fast]; kernel_rfl
theorem fn_set_lk : typeLookup (.type "function") "__set__" = pure none := by rw [typeLookup_type, builtinLookup_eq_fast]; kernel_rfl
theorem fn_del_lk : typeLookup (.type "function") "__delete__" = pure none := by rw [typeLookup_type, builtinLookup_eq_fast]; kernel_rfl
theorem ob_rc : typeLookup (.type "object") "_read_char" = pure none := by rw [typeLookup_type, builtinLookup_eq_fast]; kernel_rfl

section
variable {prog : Program} {w : World} {A : Around} {E : Value → Shared → Prop} {h : Heap} {g : Array GenState} {d : Drawn} {t : Nat} {os : OsState}
variable {nm q : Str} {C N x dx f : Nat} {bs : List Value} {sn : List Str} {sub : List Value} {ab : Bool} {col : Option Bool} {dd : Option Addr} {k0 k1 k2 k3 k5 : Option Value} {newId : String}
  {mN mA : Str → Option Value} {v : Value} {o of : Obj} {fd : FuncData}

theorem bm_entry {tk : Tok} {Q : Fin → Shared → Prop}
    (hC : h.get? C = some (excClassObj nm q C N bs [.type "object"] true sn sub ab col dd k0 k1 k2 k3 k5 newId)) (hn : h.Ns N mN) (hna : mN "_read_char" = some (.ref f)) (hng : mN "__getattr__" = none)
    (hx : h.get? x = some o) (hc : o.cls = .ref C) (hdx : o.dict = some dx) (hnc : ∀ c, o.data ≠ .cls c) (hns : h.Ns dx mA) (hsh : mA "_read_char" = none) (hf : h.get? f = some of) (hfc : of.cls = .type "function") (hfd : of.data = .func fd)
    (hq : Q (.done (.ret (.ref h.objs.size))) ⟨h.push (mObj f x), g, d, t, os⟩) :
    wpAny (model prog w) A (Builtin.«proto.getattr_hooked» ⟨[.ref x, .str "_read_char" tk], []⟩) Q E ⟨h, g, d, t, os⟩ := by
  have hT : ∀ tk, (⟨h, g, d, tk, os⟩ : Shared).TypeIs (.ref f) "function" := fun _ => ⟨_, hf, hfc⟩
  have e1 := fn_get_lk
  have e2 := fn_set_lk
  have e3 := fn_del_lk
  unfold Builtin.«proto.getattr_hooked»
  repeat (first | (with_reducible refine wpAny_loadPart_at hx ?_; rw [hc]) | (with_reducible refine wpAny_typeLookup_exc hC hn PySem.F.mro_object ob_rc ?_; rw [hna]) | (with_reducible refine wpAny_typeOf (T := "function") (hT _) ?_) | wp_step)
  split
  · rename_i c hcd
    exact absurd hcd (hnc c)
  unfold instanceDict
  repeat (first | (with_reducible refine wpAny_loadPart_at hx ?_; rw [hc]) | with_reducible refine wpAny_loadPart_at hC ?_ | wp_step)
  rw [hdx]
  repeat (first | (with_reducible refine wpAny_nsGet hns ?_; rw [hsh]) | (with_reducible refine wpAny_typeLookup_exc hC hn PySem.F.mro_object PySem.F.lk_object_getattr ?_; rw [hng]) | wp_step)
  refine fn_get (K := [(f, of)]) (fun b ob e => ?_) ?_ ?_
  · have : b = f ∧ ob = of := by
      rw [List.lookup_cons] at e
      by_cases hb : (b == f) = true
      · rw [hb] at e
        exact ⟨eq_of_beq hb, (Option.some.inj e).symm⟩
      · simp [hb] at e
    rw [this.1, this.2]; exact hf
  · show (List.lookup f [(f, of)]).map (·.cls) = _
    rw [List.lookup_cons, beq_self_eq_true]
    exact congrArg some hfc
  · exact wpAny_pure hq

theorem bm_attr {ex : Bool} {Q : Value → Shared → Prop}
    (hC : h.get? C = some (excClassObj nm q C N bs [.type "object"] true sn sub ab col dd k0 k1 k2 k3 k5 newId)) (hn : h.Ns N mN) (hgg : mN "__getattribute__" = none) (hna : mN "_read_char" = some (.ref f)) (hng : mN "__getattr__" = none)
    (hx : h.get? x = some o) (hc : o.cls = .ref C) (hdx : o.dict = some dx) (hnc : ∀ c, o.data ≠ .cls c) (hns : h.Ns dx mA) (hsh : mA "_read_char" = none) (hf : h.get? f = some of) (hfc : of.cls = .type "function") (hfd : of.data = .func fd)
    (hq : Q (.ref h.objs.size) ⟨h.push (mObj f x), g, d, t + 1, os⟩) :
    wpAny (model prog w) A (getAttr (.ref x) "_read_char" ex) Q E ⟨h, g, d, t, os⟩ := by
  unfold getAttr getAttrBy
  repeat (first | (with_reducible refine wpAny_loadPart_at hx ?_; rw [hc]) | (with_reducible refine wpAny_typeLookup_exc hC hn F.mro_object F.lk_object_ga ?_; rw [hgg]) | wp_step)
  show wpAny _ _ ((runValue (.builtin "proto.getattr_hooked" ⟨[.ref x, .str "_read_char" t], []⟩)).onRaise (noteIf true (.ref x) (.str "_read_char" t))) _ _ _
  refine wpAny_onRaise (wpAny_runValue (codeAny_builtin F.plainObj_entry_getattr_hooked (bm_entry hC hn hna hng hx hc hdx hnc hns hsh hf hfc hfd ?_)))
  show wpAny _ _ (handedOut (.ref _)) _ _ _
  exact wpAny_pure hq
end
end Mine
end

section
open PySem PySem.W PySem.Calls PyProof.Rows
set_option Elab.async false
set_option linter.unusedVariables false
set_option linter.unusedSectionVars false
set_option maxRecDepth 10000
namespace Mine
variable [Star]

theorem Room.in1 {n : Nat} {A : Around} (r : Room (n + 1) A) : Room n A.in1 := ⟨by have := r.depth; show A.depth + n < _; (exact Nat.le_of_lt (by assumption)), by have := r.units; show A.units + 1 + 10 * n < _; lia, r.hand⟩

structure GS (B : Heap) (C : Nat) (a : LA) (fR : Nat) (s0 : Shared) (X0 : Nat → Prop) (I M : Nat) (tI : Tok) (e : Bool) (env : Env) (X : Nat → Prop) (s : Shared) (ρ : Rho) (m : Int) (cs : List Nat) (pk : List Str) : Prop where
  ls : LS B C a s0 X0 env X s ρ m cs pk
  iX : X I
  il : I ≠ env.locals
  ib : I ≠ Mine.tb
  i0 : s0.heap.objs.size ≤ I
  m0 : s0.heap.objs.size ≤ M
  ml : M ≠ env.locals
  mi : M ≠ I
  mb : M ≠ Mine.tb
  io : s.heap.get? I = some (if e then ciEnd else ciObj M tI)
  mo : s.heap.get? M = some (mObj fR a.x)
  nc : env.cells = []

section
variable {prog : Program} {w : World} {B : Heap} {n : Nat} {C fI fR fG fP : Nat} {a : LA} {s0 s s' : Shared} {X0 X : Nat → Prop} {I M : Nat} {tI : Tok} {e : Bool} {sc : Scope} {env : Env} {ρ : Rho} {m m' : Int} {cs cs' : List Nat} {pk pk' : List Str}

theorem GS.nM (h : GS B C a fR s0 X0 I M tI e env X s ρ m cs pk) {b : Nat} (q : Mut env ρ b) : b = env.locals := by
  rcases q with q | ⟨y, q⟩ | ⟨p, hp, _⟩
  · exact q
  · rw [h.nc] at q; cases q
  · rw [h.ls.own] at hp; cases hp
theorem GS.ks (h : GS B C a fR s0 X0 I M tI e env X s ρ m cs pk) (k : Ks X s s') : GS B C a fR s0 X0 I M tI e env X s' ρ m cs pk :=
  { h with ls := h.ls.ks k, io := k.kp _ _ h.ib h.io, mo := k.kp _ _ h.mb h.mo }
theorem GS.tn (h : GS B C a fR s0 X0 I M tI e env X s ρ m cs pk) {x : Str} {d : D} (t : Tn (Mut env ρ) s s') (f : Fs B env X s' (ρ.set x d)) : GS B C a fR s0 X0 I M tI e env X s' (ρ.set x d) m cs pk :=
  { h with ls := h.ls.tn t f, io := t.kp _ _ (fun q => h.il (h.nM q)) h.ib h.io, mo := t.kp _ _ (fun q => h.ml (h.nM q)) h.mb h.mo }
theorem GS.turn (h : GS B C a fR s0 X0 I M tI e env X s ρ m cs pk) (k : Kw a.W X s s') (l : Lx C a s'.heap X0 m' cs' pk') : GS B C a fR s0 X0 I M tI e env X s' ρ m' cs' pk' :=
  { h with
    ls := h.ls.turn k l
    io := k.kp _ _ (fun q => by have := h.ls.az _ (LA.W_all q); have := h.i0; lia) h.ib h.io
    mo := k.kp _ _ (fun q => by have := h.ls.az _ (LA.W_all q); have := h.m0; lia) h.mb h.mo }
theorem GS.stop (h : GS B C a fR s0 X0 I M tI e env X s ρ m cs pk) {h' : Heap} (hI : h'.get? I = some ciEnd) (kp : ∀ b ob, b ≠ I → s.heap.get? b = some ob → h'.get? b = some ob) (sz : s.heap.objs.size ≤ h'.objs.size) : GS B C a fR s0 X0 I M tI true env X { s with heap := h' } ρ m cs pk := by
  have f := h.ls.fs
  have cx : Cx B X { s with heap := h' } := f.cx.turn (s' := { s with heap := h' }) (fun b o q e => kp b o (fun z => by
    subst z
    rcases q with q | q
    · exact q h.iX
    · exact h.ib q) e) sz rfl
  have nc0 : ∀ {α : Prop} {x : Str} {c : Nat}, env.cells.lookup x = some c → α := fun e => by rw [h.nc] at e; cases e
  refine { h with ls := ?_, io := by rw [if_pos rfl]; exact hI, mo := kp _ _ h.mi h.mo }
  refine { h.ls with fs := ?_, lx := h.ls.lx.keep (fun b hb o e => kp b o (fun z => by have := h.ls.az b hb; have := h.i0; lia) e) (fun _ q => q), kp := fun b o n1 n2 e => kp b o (fun z => by have := ltz e; have := h.i0; lia) (h.ls.kp b o n1 n2 e), sz := Nat.le_trans h.ls.sz sz }
  refine f.turn (I := I) (s' := { s with heap := h' }) kp h.iX cx (fun _ q => q) (fun _ q _ => q) (Ne.symm h.il) (fun x c e => nc0 e) (fun p hp => by rw [h.ls.own] at hp; cases hp) (fun t => t.move (fun b o nb e => kp b o (fun z => nb (z ▸ h.iX)) e) fun _ q => .inl q)

noncomputable def nl (cs : List Nat) : Int := (cs.filter (· == 10)).length
theorem nl_step (m : Int) (cs : List Nat) : nxtN m cs + nl cs.tail = m + nl cs := by
  cases cs with
  | nil => rfl
  | cons c r =>
    unfold nxtN nl
    by_cases h : c = 10
    · simp [h]; lia
    · simp [h]

theorem gs_next (g : LexG B C fI fR fG fP) {A : Around} {E : Value → Shared → Prop} {Q : Option Value → Shared → Prop} (r : Room 10 A) (h : GS B C a fR s0 X0 I M tI e env X s ρ m cs pk)
    (k1 : e = false → ∀ c rest t s', cs = c :: rest → GS B C a fR s0 X0 I M tI false env X s' ρ (nxtN m cs) rest pk → Q (some (.str (chS c) t)) s')
    (k2 : (e = false → cs = []) → ∀ s', GS B C a fR s0 X0 I M tI true env X s' ρ m cs pk → Q none s') : wpAny (model prog w) A (pyNext (.ref I)) Q E s := by
  cases e with
  | true =>
    have hI := h.io
    rw [if_pos rfl] at hI
    exact ci_ended r.hand hI fun h' kp sz => k2 (by simp) _ (h.stop (kp _ _ hI) (fun b ob _ e => kp b ob e) sz)
  | false =>
    have hI := h.io
    simp only [Bool.false_eq_true, if_false] at hI
    obtain ⟨o, fd, f1, fc, f2, _⟩ := g.rd.at_
    have fx : ∀ {s' : Shared}, Cx B X s' → s'.heap.get? fR = some o := fun c => c.base _ _ f1
    refine ci_next r.hand hI h.mo (rc_callC g r.in1 h.ls.fs.cx (h.ls.lx.weakX h.ls.x1) fun t s1 kk l1 => ?_) (fx h.ls.fs.cx) f2
    have h1 := h.turn kk (l1.backX h.ls.lx.inX)
    have h1I := h1.io
    simp only [Bool.false_eq_true, if_false] at h1I
    refine ⟨_, t, rfl, h1I, h1.mo, fx h1.ls.fs.cx, f2, fun hy => ?_, fun hy h' e1 e2 e3 => ?_⟩
    · cases cs with
      | nil => exact absurd hy (by decide +kernel)
      | cons c rest => exact k1 rfl c rest t s1 rfl h1
    · cases cs with
      | nil => exact k2 (fun _ => rfl) _ (by simpa [nxtN] using h1.stop e1 e2 e3)
      | cons c rest =>
        have : (chS c == "") = true := hy
        have e0 : ("" : Str) = ⟨#[]⟩ := by decide +kernel
        rw [e0, beq_iff_eq] at this
        simp [chS] at this
end
end Mine
end

section
open PySem PySem.W PySem.Calls PyProof.Rows
set_option Elab.async false
set_option linter.unusedVariables false
set_option linter.unusedSectionVars false
set_option maxRecDepth 10000
namespace Mine
variable [Star]

section
variable {prog : Program} {w : World} {B : Heap} {n : Nat} {C fI fR fG fP : Nat} {a : LA} {s0 s s' : Shared} {X0 X : Nat → Prop} {I M : Nat} {tI : Tok} {e : Bool} {sc : Scope} {env : Env} {ρ : Rho} {m m' : Int} {cs cs' : List Nat} {pk pk' : List Str}

theorem GS.isIt (h : GS B C a fR s0 X0 I M tI e env X s ρ m cs pk) : IsIt s.heap I := by
  have := h.io
  cases e
  · exact ⟨_, _, "callable_iterator", this, rfl, rfl, by decide⟩
  · exact ⟨_, _, "callable_iterator", this, rfl, rfl, by decide⟩

theorem gs_for (g : LexG B C fI fR fG fP) {A : Around} {E : Value → Shared → Prop} {Q : Flow → Shared → Prop} {p1 p2 pos : Pos} {body : List Stmt} (r : Room 10 A) (o : Eo (csc 2) env) (K : Int) (J : Rho → List Nat → Prop)
    (h : GS B C a fR s0 X0 I M tI e env X s ρ m cs pk) (he : e = true → cs = []) (hK : m + nl cs = K) (hJ : J ρ cs) (hfi : ρ.nm "fiter" = some (.rf I))
    (step : ∀ (E' : Value → Shared → Prop) (s' : Shared) (ρ' : Rho) (m' : Int) (c : Nat) (rest : List Nat), J ρ' (c :: rest) → GS B C a fR s0 X0 I M tI false env X s' (ρ'.set "ch" (.str (chS c))) m' rest pk → m' + nl rest = K →
      wpAny (model prog w) A (execs body env) (fun fl s'' => match fl with
        | .next | .cont => ∃ e'' ρ'' m'' cs'', cs''.length ≤ rest.length ∧ (e'' = true → cs'' = []) ∧ J ρ'' cs'' ∧ GS B C a fR s0 X0 I M tI e'' env X s'' ρ'' m'' cs'' pk ∧ m'' + nl cs'' = K
        | .brk => False
        | .ret v => Q (.ret v) s'') E' s')
    (fin : ∀ (s' : Shared) (ρ' : Rho) (m' : Int), J ρ' [] → GS B C a fR s0 X0 I M tI true env X s' ρ' m' [] pk → m' + nl [] = K → Q .next s') :
    wpAny (model prog w) A (exec (.For (.Name "ch" p1) (.Name "fiter" p2) body [] pos) env) Q E s := by
  refine wpAny_For (pe_name (n := 10) (sc := csc 2) hfi A env _ s X _ r o h.ls.fs.cx h.ls.fs.vs fun u s1 k1 t1 => ?_)
  cases t1 using Tl.rfE
  have h1 := h.ks k1
  obtain ⟨oI, _, _, q1, q2, _⟩ := h1.isIt
  have hcI : oI.cls = .type "callable_iterator" := by
    have := h1.io
    rw [this] at q1
    cases q1
    cases e <;> rfl
  refine ci_iter q1 hcI ?_
  refine codeAny_forLoop_any (fun k s' => ∃ e' ρ' m' cs', cs'.length = k ∧ (e' = true → cs' = []) ∧ J ρ' cs' ∧ GS B C a fR s0 X0 I M tI e' env X s' ρ' m' cs' pk ∧ m' + nl cs' = K) ?_ cs.length ⟨e, ρ, m, cs, rfl, he, hJ, h1, hK⟩
  rintro k s2 ⟨e2, ρ2, m2, cs2, rfl, he2, hJ2, h2, hK2⟩
  refine gs_next g r h2 (fun ee c rest t s3 ec h3 => ?_) (fun ee s3 h3 => ?_)
  · subst ec
    have hK3 : nxtN m2 (c :: rest) + nl rest = K := by
      have := nl_step m2 (c :: rest)
      rw [List.tail_cons] at this
      rw [this]; exact hK2
    refine lotg h3.isIt ?_
    refine wpAny_assign_Name (store_name o h3.ls.fs (.inl (by decide +kernel)) (.str (chS c) t) (by decide +kernel) (by decide +kernel) fun s4 f4 t4 => ?_)
    have h4 := h3.tn t4 f4
    refine wpAny_mono (step _ s4 ρ2 _ c rest hJ2 h4 hK3) (fun fl s5 hq => ?_) fun _ _ x => x
    cases fl with
    | next =>
      obtain ⟨e5, ρ5, m5, cs5, w1, w2, w3, w4, w5⟩ := hq
      exact ⟨_, by rw [List.length_cons]; lia, e5, ρ5, m5, cs5, rfl, w2, w3, w4, w5⟩
    | cont =>
      obtain ⟨e5, ρ5, m5, cs5, w1, w2, w3, w4, w5⟩ := hq
      exact ⟨_, by rw [List.length_cons]; lia, e5, ρ5, m5, cs5, rfl, w2, w3, w4, w5⟩
    | brk => exact hq.elim
    | ret v => exact hq
  · refine wpAny_execs_nil ?_
    have hc : cs2 = [] := by
      cases e2 with
      | true => exact he2 rfl
      | false => exact ee rfl
    subst hc
    exact fin s3 ρ2 m2 hJ2 h3 hK2
end
end Mine
end

section
open PySem PySem.W PySem.Calls PyProof.Rows
set_option Elab.async false
set_option linter.unusedVariables false
set_option linter.unusedSectionVars false
set_option maxRecDepth 10000
namespace Mine
variable [Star]

noncomputable def MCok (env : Env) (o : Expr) (name : Str) (apos : Pos) (args : List Expr) (pos : Pos) : Prop := ∃ pl, eval (.Call (.Attribute o name apos) args [] pos) env = (do
  let ov ← eval o env
  standAt apos.atName
  let (f, first) ← holding [ov] (getMethod ov name pl)
  callWith pos f first (backTo pos (starEach args env)) [])

structure NmG (a : LA) (I : Nat) (ρ : Rho) (tok : Str) (L : Nat) : Prop where
  self : ρ.nm "self" = some (.rf a.x)
  fiter : ρ.nm "fiter" = some (.rf I)
  token : ρ.nm "token" = some (.str tok)
  len : tok.length + L ≤ 200000
theorem NmG.ch {a : LA} {I : Nat} {ρ : Rho} {tok : Str} {L : Nat} (h : NmG a I ρ tok L) (d : D) : NmG a I (ρ.set "ch" d) tok L := ⟨(Rho.set_ne (by decide +kernel)).trans h.self, (Rho.set_ne (by decide +kernel)).trans h.fiter, (Rho.set_ne (by decide +kernel)).trans h.token, h.len⟩
theorem NmG.tok {a : LA} {I : Nat} {ρ : Rho} {tok tok' : Str} {L L' : Nat} (h : NmG a I ρ tok L) (hl : tok'.length + L' ≤ 200000) : NmG a I (ρ.set "token" (.str tok')) tok' L' := ⟨(Rho.set_ne (by decide +kernel)).trans h.self, (Rho.set_ne (by decide +kernel)).trans h.fiter, Rho.set_eq, hl⟩

noncomputable def escT (tok : Str) (c : Nat) (rest : List Nat) : Str := tok ++ (if c = 92 then headS rest else chS c)
noncomputable def escR (c : Nat) (rest : List Nat) : List Nat := if c = 92 then rest.tail else rest

theorem headS_len (cs : List Nat) : (headS cs).length ≤ 1 := by
  cases cs with
  | nil => decide +kernel
  | cons c r => exact Nat.le_refl _

section
variable {prog : Program} {w : World} {B : Heap} {n : Nat} {C fI fR fG fP : Nat} {a : LA} {s0 s s' : Shared} {X0 X : Nat → Prop} {I M : Nat} {tI : Tok} {e : Bool} {sc : Scope} {env : Env} {ρ : Rho} {m m' : Int} {cs cs' : List Nat} {pk pk' : List Str}

theorem la_read (g : LexG B C fI fR fG fP) {A : Around} {E : Value → Shared → Prop} {Q : Value → Shared → Prop} {p5 p6 p7 : Pos} (hmc : MCok env (.Name "self" p5) "_read_char" p6 [] p7) (r : Room 9 A) (o : Eo sc env) (h : LS B C a s0 X0 env X s ρ m cs pk) (hs : ρ.nm "self" = some (.rf a.x))
    (k : ∀ t s1 s', Ks X s s1 → Kw a.W X s1 s' → LS B C a s0 X0 env X s' ρ (nxtN m cs) cs.tail pk → Q (.str (headS cs) t) s') :
    wpAny (model prog w) A (eval (.Call (.Attribute (.Name "self" p5) "_read_char" p6) [] [] p7) env) Q E s := by
  obtain ⟨pl, he⟩ := hmc
  refine MethodCall_ (pe_name (n := 9) (sc := sc) hs A env _ s X _ r o h.fs.cx h.fs.vs fun u s1 k1 t1 => ?_) he
  cases t1 using Tl.rfE
  have h1 := h.ks k1
  obtain ⟨nm, q, N, bs, sn, sub, col, dd, q0, q1, q2, q3, q5, mN, w1, w2, w3, w4, w5, w6, w7, w8, w9, w10⟩ := g.cls
  obtain ⟨of, fd, f1, fc, f2, _⟩ := g.rd.at_
  have c1 := h1.fs.cx
  obtain ⟨mA, d1, d2, d3⟩ := h1.lx.dict
  have hsh : mA "_read_char" = none := by
    cases hm : mA "_read_char" with
    | none => rfl
    | some v => exact absurd (d2 "_read_char" (by rw [hm]; simp)) (by decide +kernel)
  have key : wpAny (model prog w) A (call (.ref fR) [.ref a.x]) Q E s1 := rc_call g r c1 (h1.lx.weakX h1.x1) fun t s2 k2 l2 => k t s1 s2 k1 k2 (h1.turn k2 (l2.backX h.lx.inX))
  obtain ⟨hp, gg, d, t, os⟩ := s1
  refine method_of (c1.base _ _ w1) (w2.keeps c1.base) w3 w4 w7 (c1.base _ _ f1) fc ob_rc (h1.lx.instOf d1) hsh ?_
  exact Calls.callWith_function (o := of) (fd := fd) (args := []) (evalArgs_empty ⟨⟨c1.base _ _ f1, f2⟩, key⟩)

theorem gs_tok (g : LexG B C fI fR fG fP) {A : Around} {E : Value → Shared → Prop} {Q : Flow → Shared → Prop} {p1 p2 p3 p4 p5 p6 p7 p8 p9 p10 p11 p12 : Pos} {more : List Stmt} (r : Room 10 A) (o : Eo (csc 2) env) {tok : Str} {c : Nat}
    (hmc : MCok env (.Name "self" p5) "_read_char" p6 [] p7) (hsw : swapsWith (.Call (.Attribute (.Name "self" p5) "_read_char" p6) [] [] p7) (some (.Name "ch" p4)) p8.line env = pure false)
    (h : GS B C a fR s0 X0 I M tI e env X s ρ m cs pk) (hn : NmG a I ρ tok (cs.length + 1)) (hc : ρ.nm "ch" = some (.str (chS c)))
    (k : ∀ (s' : Shared) (ρ' : Rho) (m' : Int), NmG a I ρ' (escT tok c cs) (escR c cs).length → GS B C a fR s0 X0 I M tI e env X s' ρ' m' (escR c cs) pk → m' + nl (escR c cs) = m + nl cs → wpAny (model prog w) A (execs more env) Q E s') :
    wpAny (model prog w) A (execs (.If (.Compare (.Name "ch" p1) [.Eq] [.Constant (.str "\\") 0 p2] p3) [.Assign [.Name "ch" p4] (.Call (.Attribute (.Name "self" p5) "_read_char" p6) [] [] p7) p8] [] p9 :: .AugAssign (.Name "token" p10) .Add (.Name "ch" p11) p12 :: more) env) Q E s := by
  have hsl : sizeLine = 2 ^ 24 := by decide
  rw [execs_if]
  have hpt : PT prog w B 10 (csc 2) ρ (.Compare (.Name "ch" p1) [.Eq] [.Constant (.str "\\") 0 p2] p3) (chS c == "\\") := pt_cmp (pe_name hc) pe_str bo_eq_str
  refine wpAny_bind (wpAny_standAt (wpAny_bind (hpt A env _ s X _ r o h.ls.fs.cx h.ls.fs.vs fun s1 k1 => ?_)))
  have h1 := h.ks k1
  have e92 : ("\\" : Str) = ⟨#[92]⟩ := by decide +kernel
  have heq : (chS c == "\\") = decide (c = 92) := by rw [e92]; exact chr_beq c 92
  rw [heq]
  -- the sum
  have aug : ∀ (s1 : Shared) (ρ1 : Rho) (m1 : Int) (cs1 : List Nat) (y : Str), GS B C a fR s0 X0 I M tI e env X s1 ρ1 m1 cs1 pk → NmG a I ρ1 tok (cs1.length + 1) → ρ1.nm "ch" = some (.str y) → y.length ≤ 1 →
      (∀ s', GS B C a fR s0 X0 I M tI e env X s' (ρ1.set "token" (.str (tok ++ y))) m1 cs1 pk → NmG a I (ρ1.set "token" (.str (tok ++ y))) (tok ++ y) cs1.length → wpAny (model prog w) A (execs more env) Q E s') →
      wpAny (model prog w) A (execs (.AugAssign (.Name "token" p10) .Add (.Name "ch" p11) p12 :: more) env) Q E s1 := fun s1 ρ1 m1 cs1 y h1 hn1 hc1 hy kk => by
    have hl := hn1.len
    refine wpAny_execs_cons ?_
    rw [arm_exec_AugAssign]
    refine wpAny_bind (wpAny_standAt (wpAny_bind (load_name o h1.ls.fs.vs hn1.token fun u tu => ?_)))
    cases tu using Tl.strE
    refine wpAny_bind (wpAny_holding (pe_name (n := 10) (sc := csc 2) hc1 A env E s1 X _ r o h1.ls.fs.cx h1.ls.fs.vs fun v s2 k2 t2 => ?_))
    cases t2 using Tl.strE
    have h2 := h1.ks k2
    refine wpAny_bind (wpAny_standAt (wpAny_bind (wpAny_operating (SB.iadd (fun t' tk => ?_) (by lia)))))
    refine wpAny_bind (wpAny_standAt (wpAny_bind (wpAny_bindName ?_)))
    have h3 := h2.ks (Ks.tok s2 tk)
    refine store_name o h3.ls.fs (.inl (by decide +kernel)) (.str (tok ++ y) _) (by decide +kernel) (by decide +kernel) fun s4 f4 t4 => wpAny_pure ?_
    exact kk s4 (h3.tn t4 f4) (hn1.tok (by rw [Str.length_append]; lia))
  by_cases h92 : c = 92
  · rw [decide_eq_true h92]
    simp only [if_true]
    refine wpAny_execs_cons (wpAny_Assign_Name (la_read g hmc (r.mono (by (exact Nat.le_succ _))) o h1.ls hn.self fun t s2 s3 k2 k3 l3 => ?_) hsw)
    have h3 := (h1.ks k2).turn k3 l3.lx
    refine store_name o h3.ls.fs (.inl (by decide +kernel)) (.str (headS cs) t) (by decide +kernel) (by decide +kernel) fun s4 f4 t4 => ?_
    have h4 := h3.tn t4 f4
    have eR : escR c cs = cs.tail := if_pos h92
    have eT : escT tok c cs = tok ++ headS cs := by unfold escT; rw [if_pos h92]
    have htl : cs.tail.length ≤ cs.length := by simp
    have hn4 : NmG a I (ρ.set "ch" (.str (headS cs))) tok (cs.tail.length + 1) := { hn.ch (.str (headS cs)) with len := by have := hn.len; lia }
    refine aug s4 _ _ _ _ h4 hn4 Rho.set_eq (headS_len cs) fun s5 h5 hn5 => ?_
    refine k s5 ((ρ.set "ch" (.str (headS cs))).set "token" (.str (tok ++ headS cs))) (nxtN m cs) ?_ ?_ ?_
    · rw [eR, eT]; exact hn5
    · rw [eR]; exact h5
    · rw [eR]; exact nl_step m cs
  · rw [decide_eq_false h92]
    simp only [Bool.false_eq_true, if_false]
    have eR : escR c cs = cs := if_neg h92
    have eT : escT tok c cs = tok ++ chS c := by unfold escT; rw [if_neg h92]
    refine aug s1 ρ m cs (chS c) h1 hn hc (Nat.le_refl _) fun s5 h5 hn5 => ?_
    refine k s5 (ρ.set "token" (.str (tok ++ chS c))) m ?_ ?_ ?_
    · rw [eR, eT]; exact hn5
    · rw [eR]; exact h5
    · rw [eR]
end
end Mine
end

section
open PySem PySem.W PySem.Calls PyProof.Rows PySem.Builtin
set_option Elab.async false
set_option linter.unusedVariables false
set_option maxRecDepth 100000
set_option maxHeartbeats 1000000
namespace Mine
theorem m_call : typeLookup (.type "method") "__call__" = pure (some (.builtin "method.__call__")) := by rw [typeLookup_type, builtinLookup_eq_fast]; kernel_rfl
section
variable {prog : Program} {w : World} {A : Around} {E : Value → Shared → Prop} {s : Shared}

theorem call_iter2 {m f x : Nat} {t : Tok} {Q : Value → Shared → Prop} (hm : s.heap.get? m = some (mObj f x)) (hQ : Q (.ref s.heap.objs.size) { s with heap := s.heap.push (ciObj m t) }) :
    wpAny (model prog w) A (call (.builtin "iter") [.ref m, .str "" t]) Q E s := by
  have hT : s.TypeIs (.ref m) "method" := ⟨_, hm, rfl⟩
  refine Calls.call_function_entry (b := Builtin.«iter») (by decide +kernel) (by decide +kernel) (entryFor_of_tree (by kernel_rfl)) (by unfold argsOk; kernel_rfl) ?_
  unfold Builtin.«iter»
  refine wpAny_bind (wpAny_of_eq (a := [Value.ref m, Value.str "" t]) (by first | rfl | kernel_rfl) ?_)
  dsimp only
  refine wpAny_bind (wpAny_specialOf hT m_call ?_)
  simp only [Option.isNone_some, Bool.false_eq_true, if_false]
  refine wpAny_bind (wpAny_rule (wpAny_bind ?_))
  unfold newFields
  refine wpAny_newObj_type ?_ (by size_fits)
  exact wpAny_pure ⟨_, rfl, hQ⟩
end
end Mine
end

section
open PySem PySem.W PySem.Calls PyProof.Rows
set_option Elab.async false
set_option linter.unusedVariables false
set_option linter.unusedSectionVars false
set_option maxRecDepth 10000
namespace Mine

noncomputable def isWs (c : Nat) : Bool := c == 10 || c == 9 || c == 13 || c == 32
theorem escR_len (c : Nat) (r : List Nat) : (escR c r).length ≤ r.length := by
  unfold escR
  split
  · simp
  · exact Nat.le_refl _
noncomputable def lexF (p : Nat → Bool) : Nat → Str → List Nat → Str × List Nat
  | 0, tok, _ => (tok, [])
  | n + 1, tok, cs => match cs with
    | [] => (tok, [])
    | c :: r => if p c then (tok, r) else lexF p n (escT tok c r) (escR c r)
theorem lexF_nil {p : Nat → Bool} : ∀ (n : Nat) (tok : Str), lexF p n tok [] = (tok, [])
  | 0, _ => rfl
  | _ + 1, _ => rfl
theorem lexF_eq {p : Nat → Bool} : ∀ (n m : Nat) (tok : Str) (cs : List Nat), cs.length ≤ n → cs.length ≤ m → lexF p n tok cs = lexF p m tok cs
  | n, m, tok, [], _, _ => by rw [lexF_nil, lexF_nil]
  | 0, _, _, _ :: _, h, _ => absurd h (Nat.not_succ_le_zero _)
  | _, 0, _, _ :: _, _, h => absurd h (Nat.not_succ_le_zero _)
  | n + 1, m + 1, tok, c :: r, h, h' => by
    show (if p c then _ else lexF p n _ _) = (if p c then _ else lexF p m _ _)
    rw [lexF_eq n m _ _ (Nat.le_trans (escR_len c r) (Nat.le_of_succ_le_succ h)) (Nat.le_trans (escR_len c r) (Nat.le_of_succ_le_succ h'))]
theorem lexF_len {p : Nat → Bool} : ∀ (n : Nat) (tok : Str) (cs : List Nat), (lexF p n tok cs).2.length ≤ cs.length
  | 0, _, _ => Nat.zero_le _
  | _ + 1, _, [] => Nat.zero_le _
  | n + 1, tok, c :: r => by
    show (if p c then (tok, r) else lexF p n (escT tok c r) (escR c r)).2.length ≤ r.length + 1
    split
    · exact Nat.le_succ _
    · exact Nat.le_succ_of_le (Nat.le_trans (lexF_len n _ _) (escR_len c r))
noncomputable def lexP (tok : Str) (cs : List Nat) : Str × List Nat := lexF isWs cs.length tok cs
noncomputable def lexQ (tok : Str) (cs : List Nat) : Str × List Nat := lexF (fun c => decide (c = 34)) cs.length tok cs
theorem lexP_n (tok : Str) : lexP tok [] = (tok, []) := rfl
theorem lexQ_n (tok : Str) : lexQ tok [] = (tok, []) := rfl
theorem lexP_c (tok : Str) (c : Nat) (r : List Nat) : lexP tok (c :: r) = if isWs c then (tok, r) else lexP (escT tok c r) (escR c r) := by
  show (if isWs c then _ else lexF _ r.length _ _) = _
  rw [lexF_eq r.length (escR c r).length _ _ (escR_len c r) (Nat.le_refl _)]; rfl
theorem lexQ_c (tok : Str) (c : Nat) (r : List Nat) : lexQ tok (c :: r) = if c = 34 then (tok, r) else lexQ (escT tok c r) (escR c r) := by
  show (if decide (c = 34) then _ else lexF _ r.length _ _) = _
  rw [lexF_eq r.length (escR c r).length _ _ (escR_len c r) (Nat.le_refl _)]
  simp only [decide_eq_true_eq]; rfl
noncomputable def lexO : List Nat → Str × List Nat
  | [] => ("", [])
  | c :: r => if isWs c then lexO r else if c = 34 then lexQ "" r else lexP (escT "" c r) (escR c r)

theorem ws_contains : ∀ c : Nat, c < 128 → Txt.contains wsT (chS c) = isWs c := by decide +kernel

variable [Star]
section
variable {prog : Program} {w : World} {B : Heap} {n : Nat} {C fI fR fG fP : Nat} {a : LA} {s0 s s' : Shared} {X0 X : Nat → Prop} {I M : Nat} {tI : Tok} {e : Bool} {sc : Scope} {env : Env} {ρ : Rho} {m m' : Int} {cs cs' : List Nat} {pk pk' : List Str}

theorem escR_asc {c : Nat} {r : List Nat} (h : ∀ x ∈ r, x < 128) : ∀ x ∈ escR c r, x < 128 := by
  unfold escR
  split
  · exact fun x hx => h x (List.mem_of_mem_tail hx)
  · exact h

theorem gs_ws (g : LexG B C fI fR fG fP) {A : Around} {E : Value → Shared → Prop} {Q : Bool → Shared → Prop} {p1 p2 p3 p4 : Pos} (r : Room 10 A) (o : Eo (csc 2) env) {c : Nat} (hc : c < 128) (h : GS B C a fR s0 X0 I M tI e env X s ρ m cs pk) (hs : ρ.nm "self" = some (.rf a.x)) (hch : ρ.nm "ch" = some (.str (chS c)))
    (k : ∀ s', GS B C a fR s0 X0 I M tI e env X s' ρ m cs pk → Q (isWs c) s') :
    wpAny (model prog w) A (PySem.isTrue (.Compare (.Name "ch" p1) [.In] [.Attribute (.Name "self" p2) "whitespace" p3] p4) env (eval (.Compare (.Name "ch" p1) [.In] [.Attribute (.Name "self" p2) "whitespace" p3] p4) env)) Q E s := by
  refine wpAny_isTrue_Compare1 (pe_name (n := 10) (sc := csc 2) hch A env _ s X _ r o h.ls.fs.cx h.ls.fs.vs fun u s1 k1 t1 => ?_) rfl
  cases t1 using Tl.strE
  have h1 := h.ks k1
  obtain ⟨mA, q1, q2, q3, q4, ⟨t, q5⟩, q6⟩ := h1.ls.lx.dict
  refine la_eval g ob_ws (by simp [lexNames]) r o h1.ls hs ⟨mA, q1, q5⟩ ho_str fun s2 k2 => ?_
  have h2 := h1.ks k2
  refine SB.contains (wpAny_truthy_bool ?_)
  rw [ws_contains c hc]
  exact k s2 h2

noncomputable def GRet (B : Heap) (C : Nat) (a : LA) (s0 : Shared) (X0 : Nat → Prop) (pk : List Str) (OUT : Str × List Nat) (K : Int) (fl : Flow) (s' : Shared) : Prop :=
  ∃ t m', fl = .ret (.str OUT.1 t) ∧ Kw a.W X0 s0 s' ∧ Lx C a s'.heap X0 m' OUT.2 pk ∧ m' + nl OUT.2 = K

theorem gs_ret {A : Around} {E : Value → Shared → Prop} {OUT : Str × List Nat} {K : Int} {p1 p2 : Pos} {more : List Stmt} {Q : Flow → Shared → Prop} (r : Room 10 A) (o : Eo (csc 2) env) (h : GS B C a fR s0 X0 I M tI e env X s ρ m OUT.2 pk) (ht : ρ.nm "token" = some (.str OUT.1)) (hK : m + nl OUT.2 = K)
    (hQ : ∀ fl s', GRet B C a s0 X0 pk OUT K fl s' → Q fl s') :
    wpAny (model prog w) A (execs (.Return (some (.Name "token" p1)) p2 :: more) env) Q E s :=
  wpAny_execs_cons (wpAny_Return_some (pe_name (n := 10) (sc := csc 2) ht A env _ s X _ r o h.ls.fs.cx h.ls.fs.vs fun u s1 k1 t1 => by
    cases t1 using Tl.strE
    have h1 := h.ks k1
    exact hQ _ _ ⟨_, m, rfl, h1.ls.kw, h1.ls.lx, hK⟩))
end
end Mine
end

section
open PySem PySem.W PySem.Calls PyProof.Rows
set_option Elab.async false
set_option linter.unusedVariables false
set_option linter.unusedSectionVars false
set_option maxRecDepth 10000
namespace Mine
variable [Star]

noncomputable def bodyO : List Stmt := forB (cfb 2)[3]?
noncomputable def bodyQ : List Stmt := forB (thB bodyO[1]?)[0]?
noncomputable def bodyP : List Stmt := forB (orB bodyO[1]?)[2]?

section
variable {prog : Program} {w : World} {B : Heap} {n : Nat} {C fI fR fG fP : Nat} {a : LA} {s0 s s' : Shared} {X0 X : Nat → Prop} {I M : Nat} {tI : Tok} {e : Bool} {sc : Scope} {env : Env} {ρ : Rho} {m m' : Int} {cs cs' : List Nat} {pk pk' : List Str}

theorem gs_P (g : LexG B C fI fR fG fP) {A : Around} {E : Value → Shared → Prop} {Q : Flow → Shared → Prop} {p1 p2 pos : Pos} (r : Room 10 A) (o : Eo (csc 2) env) {OUT : Str × List Nat} {K : Int} {tok : Str} (h : GS B C a fR s0 X0 I M tI e env X s ρ m cs pk) (he : e = true → cs = []) (hK : m + nl cs = K)
    (hn : NmG a I ρ tok cs.length) (hl : lexP tok cs = OUT) (ha : ∀ x ∈ cs, x < 128) (k1 : ∀ fl s', GRet B C a s0 X0 pk OUT K fl s' → Q fl s')
    (k2 : ∀ s' ρ' m', NmG a I ρ' OUT.1 0 → OUT.2 = [] → GS B C a fR s0 X0 I M tI true env X s' ρ' m' [] pk → m' + nl [] = K → Q .next s') :
    wpAny (model prog w) A (exec (.For (.Name "ch" p1) (.Name "fiter" p2) bodyP [] pos) env) Q E s := by
  refine gs_for g r o K (fun ρ' cs' => ∃ tok', NmG a I ρ' tok' cs'.length ∧ lexP tok' cs' = OUT ∧ ∀ x ∈ cs', x < 128) h he hK ⟨tok, hn, hl, ha⟩ hn.fiter (fun E' s1 ρ1 m1 c rest hJ h1 hK1 => ?_) (fun s1 ρ1 m1 hJ h1 hK1 => ?_)
  · obtain ⟨t1, n1, l1, a1⟩ := hJ
    have n2 := n1.ch (.str (chS c))
    have hch : (ρ1.set "ch" (.str (chS c))).nm "ch" = some (.str (chS c)) := Rho.set_eq
    rw [lexP_c] at l1
    rw [show bodyP = [.If (.Compare (.Name "ch" _) [.In] [.Attribute (.Name "self" _) "whitespace" _] _) [.Return (some (.Name "token" _)) _] [.If (.Compare (.Name "ch" _) [.Eq] [.Constant (.str "\\") 0 _] _) [.Assign [.Name "ch" _] (.Call (.Attribute (.Name "self" _) "_read_char" _) [] [] _) _] [] _] _, .AugAssign (.Name "token" _) .Add (.Name "ch" _) _] from rfl]
    rw [execs_if]
    refine wpAny_bind (wpAny_standAt (wpAny_bind (gs_ws g r o (a1 c (.head _)) h1 n2.self hch fun s2 h2 => ?_)))
    cases hw : isWs c with
    | true =>
      rw [hw] at l1
      simp only [if_true] at l1
      subst l1
      simp only [if_true]
      refine gs_ret (OUT := (t1, rest)) r o h2 n2.token hK1 fun fl s' hg => ?_
      obtain ⟨t, m', rfl, q⟩ := hg
      exact k1 _ _ ⟨t, m', rfl, q⟩
    | false =>
      rw [hw] at l1
      simp only [Bool.false_eq_true, if_false] at l1
      simp only [Bool.false_eq_true, if_false]
      refine gs_tok (more := []) g r o ⟨_, rfl⟩ rfl h2 n2 hch fun s3 ρ3 m3 n3 h3 hK3 => wpAny_execs_nil ?_
      exact ⟨false, ρ3, m3, escR c rest, escR_len c rest, by simp, ⟨_, n3, l1, escR_asc fun x hx => a1 x (.tail _ hx)⟩, h3, by rw [hK3]; exact hK1⟩
  · obtain ⟨t1, n1, l1, _⟩ := hJ
    rw [lexP_n] at l1
    subst l1
    exact k2 s1 ρ1 m1 n1 rfl h1 hK1

theorem gs_Q (g : LexG B C fI fR fG fP) {A : Around} {E : Value → Shared → Prop} {Q : Flow → Shared → Prop} {p1 p2 pos : Pos} (r : Room 10 A) (o : Eo (csc 2) env) {OUT : Str × List Nat} {K : Int} {tok : Str} (h : GS B C a fR s0 X0 I M tI e env X s ρ m cs pk) (he : e = true → cs = []) (hK : m + nl cs = K)
    (hn : NmG a I ρ tok cs.length) (hl : lexQ tok cs = OUT) (ha : ∀ x ∈ cs, x < 128) (k1 : ∀ fl s', GRet B C a s0 X0 pk OUT K fl s' → Q fl s')
    (k2 : ∀ s' ρ' m', NmG a I ρ' OUT.1 0 → OUT.2 = [] → GS B C a fR s0 X0 I M tI true env X s' ρ' m' [] pk → m' + nl [] = K → Q .next s') :
    wpAny (model prog w) A (exec (.For (.Name "ch" p1) (.Name "fiter" p2) bodyQ [] pos) env) Q E s := by
  refine gs_for g r o K (fun ρ' cs' => ∃ tok', NmG a I ρ' tok' cs'.length ∧ lexQ tok' cs' = OUT ∧ ∀ x ∈ cs', x < 128) h he hK ⟨tok, hn, hl, ha⟩ hn.fiter (fun E' s1 ρ1 m1 c rest hJ h1 hK1 => ?_) (fun s1 ρ1 m1 hJ h1 hK1 => ?_)
  · obtain ⟨t1, n1, l1, a1⟩ := hJ
    have n2 := n1.ch (.str (chS c))
    have hch : (ρ1.set "ch" (.str (chS c))).nm "ch" = some (.str (chS c)) := Rho.set_eq
    rw [lexQ_c] at l1
    rw [show bodyQ = [.If (.Compare (.Name "ch" _) [.Eq] [.Constant (.str "\"") 0 _] _) [.Return (some (.Name "token" _)) _] [.If (.Compare (.Name "ch" _) [.Eq] [.Constant (.str "\\") 0 _] _) [.Assign [.Name "ch" _] (.Call (.Attribute (.Name "self" _) "_read_char" _) [] [] _) _] [] _] _, .AugAssign (.Name "token" _) .Add (.Name "ch" _) _] from rfl]
    rw [execs_if]
    have e34 : ("\"" : Str) = ⟨#[34]⟩ := by decide +kernel
    have heq : (chS c == "\"") = decide (c = 34) := by rw [e34]; exact chr_beq c 34
    have hpt : ∀ p1 p2 p3, PT prog w B 10 (csc 2) (ρ1.set "ch" (.str (chS c))) (.Compare (.Name "ch" p1) [.Eq] [.Constant (.str "\"") 0 p2] p3) (chS c == "\"") := fun _ _ _ => pt_cmp (pe_name hch) pe_str bo_eq_str
    refine wpAny_bind (wpAny_standAt (wpAny_bind (hpt _ _ _ A env _ s1 X _ r o h1.ls.fs.cx h1.ls.fs.vs fun s2 k2' => ?_)))
    have h2 := h1.ks k2'
    rw [heq]
    by_cases h34 : c = 34
    · rw [if_pos h34] at l1
      rw [decide_eq_true h34]
      subst l1
      simp only [if_true]
      refine gs_ret (OUT := (t1, rest)) r o h2 n2.token hK1 fun fl s' hg => ?_
      obtain ⟨t, m', rfl, q⟩ := hg
      exact k1 _ _ ⟨t, m', rfl, q⟩
    · rw [if_neg h34] at l1
      rw [decide_eq_false h34]
      simp only [Bool.false_eq_true, if_false]
      refine gs_tok (more := []) g r o ⟨_, rfl⟩ rfl h2 n2 hch fun s3 ρ3 m3 n3 h3 hK3 => wpAny_execs_nil ?_
      exact ⟨false, ρ3, m3, escR c rest, escR_len c rest, by simp, ⟨_, n3, l1, escR_asc fun x hx => a1 x (.tail _ hx)⟩, h3, by rw [hK3]; exact hK1⟩
  · obtain ⟨t1, n1, l1, _⟩ := hJ
    rw [lexQ_n] at l1
    subst l1
    exact k2 s1 ρ1 m1 n1 rfl h1 hK1
end
end Mine
end

section
open PySem PySem.W PySem.Calls PyProof.Rows
set_option Elab.async false
set_option linter.unusedVariables false
set_option linter.unusedSectionVars false
set_option maxRecDepth 10000
namespace Mine
variable [Star]

section
variable {prog : Program} {w : World} {B : Heap} {n : Nat} {C fI fR fG fP : Nat} {a : LA} {s0 s s' : Shared} {X0 X : Nat → Prop} {I M : Nat} {tI : Tok} {e : Bool} {sc : Scope} {env : Env} {ρ : Rho} {m m' : Int} {cs cs' : List Nat} {pk pk' : List Str}

theorem gs_O (g : LexG B C fI fR fG fP) {A : Around} {E : Value → Shared → Prop} {Q : Flow → Shared → Prop} {p1 p2 pos : Pos} (r : Room 10 A) (o : Eo (csc 2) env) {OUT : Str × List Nat} {K : Int} (h : GS B C a fR s0 X0 I M tI e env X s ρ m cs pk) (he : e = true → cs = []) (hK : m + nl cs = K)
    (hn : NmG a I ρ "" cs.length) (hl : lexO cs = OUT) (ha : ∀ x ∈ cs, x < 128) (k1 : ∀ fl s', GRet B C a s0 X0 pk OUT K fl s' → Q fl s')
    (k2 : ∀ s' ρ' m', NmG a I ρ' OUT.1 0 → OUT.2 = [] → GS B C a fR s0 X0 I M tI true env X s' ρ' m' [] pk → m' + nl [] = K → Q .next s') :
    wpAny (model prog w) A (exec (.For (.Name "ch" p1) (.Name "fiter" p2) bodyO [] pos) env) Q E s := by
  refine gs_for g r o K (fun ρ' cs' => (NmG a I ρ' "" cs'.length ∧ lexO cs' = OUT ∧ ∀ x ∈ cs', x < 128) ∨ (cs' = [] ∧ NmG a I ρ' OUT.1 0 ∧ OUT.2 = [])) h he hK (.inl ⟨hn, hl, ha⟩) hn.fiter (fun E' s1 ρ1 m1 c rest hJ h1 hK1 => ?_) (fun s1 ρ1 m1 hJ h1 hK1 => ?_)
  · rcases hJ with ⟨n1, l1, a1⟩ | ⟨q, _⟩
    · have n2 := n1.ch (.str (chS c))
      have hch : (ρ1.set "ch" (.str (chS c))).nm "ch" = some (.str (chS c)) := Rho.set_eq
      have lO : lexO (c :: rest) = if isWs c then lexO rest else if c = 34 then lexQ "" rest else lexP (escT "" c rest) (escR c rest) := rfl
      rw [lO] at l1
      have ar : ∀ x ∈ rest, x < 128 := fun x hx => a1 x (.tail _ hx)
      rw [show bodyO = [.If (.Compare (.Name "ch" _) [.In] [.Attribute (.Name "self" _) "whitespace" _] _) [.Continue _] [] _, .If (.Compare (.Name "ch" _) [.Eq] [.Constant (.str "\"") 0 _] _) [.For (.Name "ch" _) (.Name "fiter" _) bodyQ [] _]
        [.If (.Compare (.Name "ch" _) [.Eq] [.Constant (.str "\\") 0 _] _) [.Assign [.Name "ch" _] (.Call (.Attribute (.Name "self" _) "_read_char" _) [] [] _) _] [] _, .AugAssign (.Name "token" _) .Add (.Name "ch" _) _, .For (.Name "ch" _) (.Name "fiter" _) bodyP [] _] _] from rfl]
      rw [execs_if]
      refine wpAny_bind (wpAny_standAt (wpAny_bind (gs_ws g r o (a1 c (.head _)) h1 n2.self hch fun s2 h2 => ?_)))
      cases hw : isWs c with
      | true =>
        rw [hw] at l1
        simp only [if_true] at l1
        simp only [if_true]
        refine wpAny_execs_cons ?_
        show wpAny _ _ (do standAt _; pure Flow.cont) _ _ _
        refine wpAny_bind (wpAny_standAt (wpAny_pure ?_))
        exact ⟨false, _, m1, rest, Nat.le_refl _, by simp, .inl ⟨{ n2 with len := by have := n2.len; rw [List.length_cons] at this; (exact Nat.le_of_lt (by assumption)) }, l1, ar⟩, h2, hK1⟩
      | false =>
        rw [hw] at l1
        simp only [Bool.false_eq_true, if_false] at l1
        simp only [Bool.false_eq_true, if_false]
        rw [show ∀ x : List Stmt, [] ++ x = x from fun _ => rfl, execs_if]
        have e34 : ("\"" : Str) = ⟨#[34]⟩ := by decide +kernel
        have heq : (chS c == "\"") = decide (c = 34) := by rw [e34]; exact chr_beq c 34
        have hpt : ∀ p1 p2 p3, PT prog w B 10 (csc 2) (ρ1.set "ch" (.str (chS c))) (.Compare (.Name "ch" p1) [.Eq] [.Constant (.str "\"") 0 p2] p3) (chS c == "\"") := fun _ _ _ => pt_cmp (pe_name hch) pe_str bo_eq_str
        refine wpAny_bind (wpAny_standAt (wpAny_bind (hpt _ _ _ A env _ s2 X _ r o h2.ls.fs.cx h2.ls.fs.vs fun s3 k3 => ?_)))
        have h3 := h2.ks k3
        rw [heq]
        have endk : ∀ s' ρ' m', NmG a I ρ' OUT.1 0 → OUT.2 = [] → GS B C a fR s0 X0 I M tI true env X s' ρ' m' [] pk → m' + nl [] = K → ∃ e'' ρ'' m'' cs'', cs''.length ≤ rest.length ∧ (e'' = true → cs'' = []) ∧ ((NmG a I ρ'' "" cs''.length ∧ lexO cs'' = OUT ∧ ∀ x ∈ cs'', x < 128) ∨ (cs'' = [] ∧ NmG a I ρ'' OUT.1 0 ∧ OUT.2 = [])) ∧ GS B C a fR s0 X0 I M tI e'' env X s' ρ'' m'' cs'' pk ∧ m'' + nl cs'' = K :=
          fun s' ρ' m' q1 q2 q3 q4 => ⟨true, ρ', m', [], Nat.zero_le _, fun _ => rfl, .inr ⟨rfl, q1, q2⟩, q3, q4⟩
        by_cases h34 : c = 34
        · rw [if_pos h34] at l1
          rw [decide_eq_true h34]
          simp only [if_true]
          refine wpAny_execs_cons (gs_Q g r o h3 (by simp) hK1 { n2 with len := by have := n2.len; rw [List.length_cons] at this; (exact Nat.le_of_lt (by assumption)) } l1 ar (fun fl s' hg => ?_) (fun s' ρ' m' q1 q2 q3 q4 => wpAny_execs_nil (endk s' ρ' m' q1 q2 q3 q4)))
          obtain ⟨t, m', rfl, q⟩ := hg
          exact k1 _ _ ⟨t, m', rfl, q⟩
        · rw [if_neg h34] at l1
          rw [decide_eq_false h34]
          simp only [Bool.false_eq_true, if_false]
          refine gs_tok (more := [.For (.Name "ch" _) (.Name "fiter" _) bodyP [] _]) g r o ⟨_, rfl⟩ rfl h3 n2 hch fun s4 ρ4 m4 n4 h4 hK4 => ?_
          refine wpAny_execs_cons (gs_P g r o h4 (by simp) (hK4.trans hK1) n4 l1 (escR_asc ar) (fun fl s' hg => ?_) (fun s' ρ' m' q1 q2 q3 q4 => wpAny_execs_nil (endk s' ρ' m' q1 q2 q3 q4)))
          obtain ⟨t, m', rfl, q⟩ := hg
          exact k1 _ _ ⟨t, m', rfl, q⟩
    · cases q
  · rcases hJ with ⟨n1, l1, a1⟩ | ⟨_, q2, q3⟩
    · subst l1
      exact k2 s1 ρ1 m1 n1 rfl h1 hK1
    · exact k2 s1 ρ1 m1 q2 q3 h1 hK1
end
end Mine
end

section
open PySem PySem.W PySem.Calls PyProof.Rows
set_option Elab.async false
set_option linter.unusedVariables false
set_option linter.unusedSectionVars false
set_option maxRecDepth 10000
namespace Mine
variable [Star]

section
variable {prog : Program} {w : World} {B : Heap} {n : Nat} {C fI fR fG fP : Nat} {a : LA} {s0 s s' : Shared} {X0 X : Nat → Prop} {I M : Nat} {tI : Tok} {e : Bool} {sc : Scope} {env : Env} {ρ : Rho} {m m' : Int} {cs cs' : List Nat} {pk pk' : List Str}

theorem LS.push (h : LS B C a s0 X0 env X s ρ m cs pk) (ob : Obj) (tk : Nat) : LS B C a s0 X0 env (fun b => X b ∨ b = s.heap.objs.size) { s with heap := s.heap.push ob, toks := tk } ρ m cs pk where
  fs := h.fs.up (fun b o _ e => Heap.get?_push_of_some _ e) (h.fs.cx.moreI ob tk) (fun _ q => .inl q) (fun b q => q.imp_right fun (q : b = _) => by rw [q]; exact Nat.le_refl _)
  lx := h.lx.keep (fun b _ o e => Heap.get?_push_of_some _ e) fun _ q => q
  x1 := fun b q => .inl (h.x1 b q)
  mt := h.mt
  az := h.az
  own := h.own
  os := h.os
  dr := h.dr
  kp := fun b o n1 n2 e => Heap.get?_push_of_some _ (h.kp b o n1 n2 e)
  sz := Nat.le_trans h.sz (by rw [Heap.size_push]; (exact Nat.le_succ _))

structure GT (C : Nat) (a : LA) (s : Shared) (X : Nat → Prop) (m : Int) (cs : List Nat) (pk : List Str) (v : Value) (s' : Shared) : Prop where
  kw : Kw a.W X s s'
  out : ∃ t m' cs' pk' y, v = .str y t ∧ Lx C a s'.heap X m' cs' pk' ∧ m' + nl cs' = m + nl cs ∧ ((∃ p r, pk = p :: r ∧ y = p ∧ pk' = r ∧ cs' = cs) ∨ (pk = [] ∧ pk' = [] ∧ y = (lexO cs).1 ∧ cs' = (lexO cs).2))

theorem gt_callC (g : LexG B C fI fR fG fP) (hit : GlobBlt B "iter" (.builtin "iter")) {A : Around} {R : Result → Shared → Prop} (r : Room 11 A) (c : Cx B X s) (l : Lx C a s.heap X m cs pk)
    (k : ∀ v s', GT C a s X m cs pk v s' → R (.ok (.ret v)) s') : codeAny (model prog w) A (.call (.ref fG) ⟨[.ref a.x], []⟩) R s := by
  refine ls_enterC (n := 10) (ps := [("self", .rf a.x)]) g.gt g.lim r c l (.cons (.rf a.x) .nil) fun A' env E' s1 X1 r' o L x2 hnc => ?_
  rw [show cfb 2 = [.If (.Attribute (.Name "self" _) "pushback" _) [.Return (some (.Call (.Attribute (.Attribute (.Name "self" _) "pushback" _) "pop" _) [.Constant (.int 0) 0 _] [] _)) _] [] _,
    .Assign [.Name "token" _] (.Constant (.str "") 0 _) _, .Assign [.Name "fiter" _] (.Call (.Name "iter" _) [.Attribute (.Name "self" _) "_read_char" _, .Constant (.str "") 0 _] [] _) _, .For (.Name "ch" _) (.Name "fiter" _) bodyO [] _, .Return (some (.Name "token" _)) _] from rfl]
  have hself : (rho [("self", .rf a.x)]).nm "self" = some (.rf a.x) := rfl
  rw [execs_if]
  obtain ⟨mA, q1, q2, q3, q4, q5, q6⟩ := L.lx.dict
  refine wpAny_bind (wpAny_standAt (wpAny_bind (isTrue_plain (la_eval g ob_pb (by simp [lexNames]) r' o L hself ⟨mA, q1, q6⟩ ho_ref fun s2 k2 => ?_) rfl)))
  have L2 := L.ks k2
  obtain ⟨vs, u1, u2, u3⟩ := L2.lx.push
  have hul := u2.length
  refine wpAny_truthy_list u1.isList (by rw [List.size_toArray]; lia) ?_
  have hemp : (!vs.toArray.isEmpty) = !pk.isEmpty := by
    cases u2 <;> rfl
  rw [hemp]
  have L3 := L2.ks (Ks.tok s2 (s2.toks + 1 + 1))
  cases pk with
  | cons p pr =>
    simp only [List.isEmpty_cons, Bool.not_false, if_true]
    obtain ⟨mB, d1, d2, d3, d4, d5, d6⟩ := L3.lx.dict
    refine wpAny_execs_cons (wpAny_Return_some (Call_method1 rfl rfl rfl (la_eval g ob_pb (by simp [lexNames]) r' o L3 hself ⟨mB, d1, d6⟩ ho_ref fun s4 k4 => ?_)))
    have L4 := L3.ks k4
    obtain ⟨ws, w1, w2, w3⟩ := L4.lx.push
    obtain ⟨n0, e0⟩ := id w1
    refine ⟨"list", "list.pop", F.plainAttrs_list, F.slot_list_pop, F.type_list_pop, ⟨_, e0, rfl⟩, fun b eb => (by cases eb; exact ⟨_, e0, rfl⟩), ?_⟩
    refine P.pop_at_list (l := a.pb) (wpAny_mkInt ?_)
    cases w2 with
    | cons y ty w2' =>
    rename_i ws4
    have hl4 := w2'.length
    rw [List.length_cons] at w3
    refine ⟨(Value.str p ty :: ws4).toArray, n0, 0, s4.toks, 0, .str p ty, by rw [sizeLine_eq]; simp; lia, rfl, e0, by decide +kernel, by simp [seqIndex?], by simp, ?_⟩
    have hs' : Heap.SameBut a.pb s4.heap (s4.heap.update a.pb (Obj.mapSeq fun xs => xs.eraseIdxIfInBounds 0)) := Heap.SameBut.update ..
    have hl' : (s4.heap.update a.pb (Obj.mapSeq fun xs => xs.eraseIdxIfInBounds 0)).PlainList a.pb ws4.toArray := by
      have qq := PySem.IsL.update (n := n0) e0 (fun xs => xs.eraseIdxIfInBounds 0)
      have e : (Value.str p ty :: ws4).toArray.eraseIdxIfInBounds 0 = ws4.toArray := by
        simp [Array.eraseIdxIfInBounds]
      rw [e] at qq
      exact ⟨_, qq⟩
    have l5 := L4.lx.setPb hs' hl' w2' (by (exact Nat.le_of_lt (by assumption)))
    have k5 : Kw a.W X1 s4 { s4 with heap := s4.heap.update a.pb (Obj.mapSeq fun xs => xs.eraseIdxIfInBounds 0), toks := s4.toks + 1 } := Kw.of (s := s4) (fun b hb => L4.x1 b (L4.lx.W_X b hb)) L4.lx.W_tb (fun b o nb e => hs'.extBut b o (fun z => nb (.inr (.inr (.inl z)))) e) (Nat.le_of_eq hs'.1.symm)
    have L5 := L4.turn k5 l5
    exact k _ _ ⟨L5.kw, ty, m, cs, pr, p, rfl, L5.lx, rfl, .inl ⟨p, pr, rfl, rfl, rfl, rfl⟩⟩
  | nil =>
    simp only [List.isEmpty_nil, Bool.not_true, Bool.false_eq_true, if_false]
    rw [show ∀ x : List Stmt, [] ++ x = x from fun _ => rfl]
    refine wpAny_execs_cons (wpAny_Assign_Name (wpAny_mkText ?_) rfl)
    have L4 := L3.ks (Ks.tok _ (s2.toks + 1 + 1 + 1))
    refine store_name o L4.fs (.inl (by decide +kernel)) (.str "" _) (by decide +kernel) (by decide +kernel) fun s5 f5 t5 => ?_
    have L5 := L4.tn t5 f5
    have hself5 : ((rho [("self", .rf a.x)]).set "token" (.str "")).nm "self" = some (.rf a.x) := rfl
    have htok5 : ((rho [("self", .rf a.x)]).set "token" (.str "")).nm "token" = some (.str "") := Rho.set_eq
    generalize (rho [("self", .rf a.x)]).set "token" (.str "") = ρ5 at L5 hself5 htok5
    show wpAny _ _ (execs _ env) _ _ _
    refine wpAny_execs_cons (wpAny_Assign_Name (wpAny_Call_NameR (name_builtin o L5.fs.cx (by decide +kernel) hit ?_ (by decide +kernel))) rfl)
    refine Calls.callWith_builtin rfl (Calls.evalArgs_plain (Calls.spliced_cons ?_))
    simp only [Bool.false_eq_true, if_false]
    refine Attribute_name (pe_name (n := 10) (sc := csc 2) hself5 A' env _ s5 X1 _ r' o L5.fs.cx L5.fs.vs fun u s6 k6 t6 => ?_)
    cases t6 using Tl.rfE
    have L6 := L5.ks k6
    obtain ⟨nm, q, N, bs, sn, sub, col, dd, g0, g1, g2, g3, g5, mN, z1, z2, z3, z4, z5, z6, z7, z8, z9, z10⟩ := g.cls
    obtain ⟨of, fd, y1, y2, y3, _⟩ := g.rd.at_
    obtain ⟨mC, v1, v2, _⟩ := L6.lx.dict
    have hsh : mC "_read_char" = none := by
      cases hm : mC "_read_char" with
      | none => rfl
      | some v => exact absurd (v2 "_read_char" (by rw [hm]; simp)) (by decide +kernel)
    obtain ⟨ox, i1, i2, i3, i4⟩ := L6.lx.inst
    have c6 := L6.fs.cx
    have K6 : Ks X1 s6 { s6 with heap := s6.heap.push (mObj fR a.x), toks := s6.toks + 1 } := Ks.push s6 _ _
    obtain ⟨hp6, g6, d6, t6', os6⟩ := s6
    refine bm_attr (c6.base _ _ z1) (z2.keeps c6.base) z3 z7 z4 i1 i2 i4 i3 v1.ns hsh (c6.base _ _ y1) y2 y3 ?_
    refine Calls.spliced_cons ?_
    simp only [Bool.false_eq_true, if_false]
    refine wpAny_mkText (Calls.spliced_nil ?_)
    have L7 := L6.ks K6
    have L7' := L7.ks (Ks.tok _ (t6' + 1 + 1))
    refine call_iter2 (m := hp6.objs.size) (f := fR) (x := a.x) (Heap.get?_push_size _ rfl) ?_
    have sI : (hp6.push (mObj fR a.x)).objs.size = hp6.objs.size + 1 := Heap.size_push ..
    have L8 := L7'.push (ciObj hp6.objs.size (t6' + 1)) (t6' + 1 + 1)
    have hXl : ∀ b, X1 b → b < hp6.objs.size := c6.xlt
    have hsz6 : s.heap.objs.size ≤ hp6.objs.size := L6.sz
    have e8I : ((hp6.push (mObj fR a.x)).push (ciObj hp6.objs.size (t6' + 1))).get? (hp6.push (mObj fR a.x)).objs.size = some (ciObj hp6.objs.size (t6' + 1)) := Heap.get?_push_size _ rfl
    have e8M : ((hp6.push (mObj fR a.x)).push (ciObj hp6.objs.size (t6' + 1))).get? hp6.objs.size = some (mObj fR a.x) := Heap.get?_push_of_some _ (Heap.get?_push_size _ rfl)
    refine store_name o L8.fs (.inl (by decide +kernel)) (.rf (hp6.push (mObj fR a.x)).objs.size) (by decide +kernel) (by decide +kernel) fun s9 f9 t9 => ?_
    have L9 := L8.tn t9 f9
    have nC : env.cells = [] := hnc (by decide +kernel)
    have nMut : ∀ b, hp6.objs.size ≤ b → ¬ Mut env ρ5 b := fun b hb q => by
      rcases q with q | ⟨y, q⟩ | ⟨p, hp, _⟩
      · have := hXl _ L6.fs.lx
        rw [q] at hb; lia
      · rw [nC] at q; cases q
      · rw [L6.own] at hp; cases hp
    have hI1 : hp6.objs.size ≤ (hp6.push (mObj fR a.x)).objs.size := by rw [sI]; (exact Nat.le_succ _)
    have tbl : Mine.tb < hp6.objs.size := hXl _ c6.tb
    have lol : env.locals < hp6.objs.size := hXl _ L6.fs.lx
    have hK9 : m + nl cs = m + nl cs := rfl
    have n9 : NmG a (hp6.push (mObj fR a.x)).objs.size (ρ5.set "fiter" (.rf (hp6.push (mObj fR a.x)).objs.size)) "" cs.length := by
      obtain ⟨_, _, _, w3⟩ := L9.lx.sg
      refine ⟨(Rho.set_ne (by decide +kernel)).trans hself5, Rho.set_eq, (Rho.set_ne (by decide +kernel)).trans htok5, ?_⟩
      have : ("" : Str).length = 0 := by decide +kernel
      lia
    have G9 : GS B C a fR s X (hp6.push (mObj fR a.x)).objs.size hp6.objs.size (t6' + 1) false env _ s9 (ρ5.set "fiter" (.rf (hp6.push (mObj fR a.x)).objs.size)) m cs [] :=
      { ls := L9, iX := .inr rfl, il := Nat.ne_of_gt (Nat.lt_of_lt_of_le lol hI1), ib := nen (by lia), i0 := Nat.le_trans hsz6 hI1, m0 := hsz6, ml := Nat.ne_of_gt lol, mi := nen (by lia), mb := nen (by lia)
        io := t9.kp _ _ (nMut _ hI1) (nen (by lia)) e8I, mo := t9.kp _ _ (nMut _ (Nat.le_refl _)) (nen (by lia)) e8M, nc := nC }
    have fin : ∀ fl s', GRet B C a s X [] (lexO cs) (m + nl cs) fl s' → (match fl with | .ret v => R (.ok (.ret v)) s' | .next => R (.ok (.ret .none)) s' | _ => False) := fun fl s' hg => by
      obtain ⟨t, m', rfl, h1, h2, h3⟩ := hg
      exact k _ _ ⟨h1, t, m', (lexO cs).2, [], (lexO cs).1, rfl, h2, h3, .inr ⟨rfl, rfl, rfl, rfl⟩⟩
    show wpAny _ _ (execs _ env) _ _ _
    refine wpAny_execs_cons (gs_O g r' o G9 (by simp) rfl n9 rfl L9.lx.asc (fun fl s' hg => ?_) (fun s' ρ' m' w1 w2 w3 w4 => ?_))
    · have := fin fl s' hg
      obtain ⟨t, m', rfl, _⟩ := hg
      exact this
    · refine gs_ret (OUT := lexO cs) (K := m + nl cs) r' o (by rw [w2]; exact w3) w1.token (by rw [w2]; exact w4) fin
end
end Mine
end

section
open PySem PySem.W PySem.Calls PyProof.Rows
set_option Elab.async false
set_option linter.unusedVariables false
set_option linter.unusedSectionVars false
set_option maxRecDepth 10000
namespace Mine
variable [Star]

section
variable {prog : Program} {w : World} {B : Heap} {n : Nat} {C fI fR fG fP : Nat} {a : LA} {s0 s s' : Shared} {X0 X : Nat → Prop} {sc : Scope} {env : Env} {ρ : Rho} {m m' : Int} {cs cs' : List Nat} {pk pk' : List Str}

theorem StrsAre.append {vs ws : List Value} {ts us : List Str} (h : StrsAre vs ts) (k : StrsAre ws us) : StrsAre (vs ++ ws) (ts ++ us) := by
  induction h with
  | nil => exact k
  | cons y t _ ih => exact .cons y t ih

theorem pt_callC (g : LexG B C fI fR fG fP) {A : Around} {R : Result → Shared → Prop} {y : Str} {t : Tok} (r : Room 11 A) (c : Cx B X s) (l : Lx C a s.heap X m cs pk) (hk : pk.length < 1000)
    (k : ∀ s', Kw a.W X s s' → Lx C a s'.heap X m cs (pk ++ [y]) → R (.ok (.ret .none)) s') : codeAny (model prog w) A (.call (.ref fP) ⟨[.ref a.x, .str y t], []⟩) R s := by
  refine ls_enterC (n := 10) (ps := [("self", .rf a.x), ("token", .str y)]) g.pt g.lim r c l (.cons (.rf a.x) (.cons (.str y t) .nil)) fun A' env E' s1 X1 r' o L x2 hnc => ?_
  rw [show cfb 3 = [.Expr (.Call (.Attribute (.Attribute (.Name "self" _) "pushback" _) "append" _) [.Name "token" _] [] _) _] from rfl]
  have hself : (rho [("self", .rf a.x), ("token", .str y)]).nm "self" = some (.rf a.x) := rfl
  have htok : (rho [("self", .rf a.x), ("token", .str y)]).nm "token" = some (.str y) := rfl
  have hi : interactive env = false := by unfold interactive; rw [o.iss, o.kind]; rfl
  obtain ⟨mA, q1, q2, q3, q4, q5, q6⟩ := L.lx.dict
  refine wpAny_execs_cons (wpAny_Expr ?_ hi rfl)
  refine Call_method1 rfl rfl rfl (la_eval g ob_pb (by simp [lexNames]) r' o L hself ⟨mA, q1, q6⟩ ho_ref fun s2 k2 => ?_)
  have L2 := L.ks k2
  obtain ⟨vs, u1, u2, u3⟩ := L2.lx.push
  obtain ⟨n0, e0⟩ := id u1
  refine ⟨"list", "list.append", F.plainAttrs_list, slot_list_append, F.type_list_append, ⟨_, e0, rfl⟩, fun b eb => (by cases eb; exact ⟨_, e0, rfl⟩), ?_⟩
  refine Calls.callWith_builtin rfl (Calls.evalArgs_plain (Calls.spliced_cons (pe_name (n := 10) (sc := csc 3) htok A' env E' s2 X1 _ r' o L2.fs.cx L2.fs.vs fun u s3 k3 t3 => Calls.spliced_nil ?_)))
  cases t3 using Tl.strE with
  | str tk3 =>
  have L3 := L2.ks k3
  obtain ⟨ws, w1, w2, w3⟩ := L3.lx.push
  have hwl := w2.length
  refine wpAny_list_append_plain w1 (fun h' hl hs' => ?_) (by rw [List.size_toArray, sizeLine_eq]; lia)
  have hl' : h'.PlainList a.pb (ws ++ [Value.str y tk3]).toArray := by simpa using hl
  have l4 := L3.lx.setPb hs' hl' (StrsAre.append w2 (.cons y tk3 .nil)) (by simp; lia)
  have k4 : Kw a.W X1 s3 { s3 with heap := h', toks := s3.toks } := Kw.of (s := s3) (fun b hb => L3.x1 b (L3.lx.W_X b hb)) L3.lx.W_tb (fun b o nb e => hs'.extBut b o (fun z => nb (.inr (.inr (.inl z)))) e) (Nat.le_of_eq hs'.1.symm)
  have L4 := L3.turn k4 l4
  refine wpAny_execs_nil ?_
  exact k _ L4.kw L4.lx

structure LW (B : Heap) (C : Nat) (a : LA) (s0 : Shared) (X0 : Nat → Prop) (env : Env) (X : Nat → Prop) (s : Shared) (ρ : Rho) (m : Int) (cs : List Nat) (pk : List Str) : Prop where
  fs : Fs B env X s ρ
  lx : Lx C a s.heap X0 m cs pk
  x1 : ∀ b, X0 b → X b
  mt : ∀ b, Mut env ρ b → s0.heap.objs.size ≤ b
  az : ∀ b ∈ a.all, b < s0.heap.objs.size
  os : s.os = s0.os
  dr : s.drawn = s0.drawn
  kp : ∀ b o, ¬ a.W b → b ≠ Mine.tb → s0.heap.get? b = some o → s.heap.get? b = some o
  sz : s0.heap.objs.size ≤ s.heap.objs.size

theorem LW.kw (h : LW B C a s0 X0 env X s ρ m cs pk) : Kw a.W X0 s0 s := ⟨h.os, h.dr, h.kp, h.sz, fun _ => h.fs.cx.ti.move (fun _ _ _ e => e) fun b q => .inl (h.x1 b q), fun _ => h.fs.cx.gn⟩
theorem LW.ks (h : LW B C a s0 X0 env X s ρ m cs pk) (k : Ks X s s') : LW B C a s0 X0 env X s' ρ m cs pk where
  fs := k.fs h.fs
  lx := h.lx.ks k
  x1 := h.x1
  mt := h.mt
  az := h.az
  os := k.os.trans h.os
  dr := k.dr.trans h.dr
  kp := fun b o n1 n2 e => k.kp b o n2 (h.kp b o n1 n2 e)
  sz := Nat.le_trans h.sz k.sz
theorem LW.tn {ρ' : Rho} {X' : Nat → Prop} (h : LW B C a s0 X0 env X s ρ m cs pk) (t : Tn (Mut env ρ) s s') (f : Fs B env X' s' ρ') (hx : ∀ b, X b → X' b) (oi : OwnIn ρ ρ' s) : LW B C a s0 X0 env X' s' ρ' m cs pk where
  fs := f
  lx := h.lx.keep (fun b hb o e => t.kp b o (fun q => by have := h.mt b q; have := h.az b hb; lia) (h.lx.tbne hb) e) fun _ q => q
  x1 := fun b q => hx b (h.x1 b q)
  mt := fun b q => (Mut.le oi q).elim (h.mt b) fun z => Nat.le_trans h.sz z
  az := h.az
  os := t.os.trans h.os
  dr := t.dr.trans h.dr
  kp := fun b o n1 n2 e => t.kp b o (fun q => by have := h.mt b q; have := ltz e; lia) n2 (h.kp b o n1 n2 e)
  sz := Nat.le_trans h.sz t.sz
theorem LW.turn (h : LW B C a s0 X0 env X s ρ m cs pk) (k : Kw a.W X s s') (l : Lx C a s'.heap X0 m' cs' pk') : LW B C a s0 X0 env X s' ρ m' cs' pk' := by
  have wx : ∀ b, a.W b → X b := fun b hb => h.x1 b (h.lx.W_X b hb)
  have nw : ∀ b, a.W b → ¬ Mut env ρ b := fun b hb q => by have := h.mt b q; have := h.az b (LA.W_all hb); lia
  have f := h.fs
  refine { fs := ?_, lx := l, x1 := h.x1, mt := h.mt, az := h.az, os := k.os.trans h.os, dr := k.dr.trans h.dr, kp := fun b o n1 n2 e => k.kp b o n1 n2 (h.kp b o n1 n2 e), sz := Nat.le_trans h.sz k.sz }
  have nl : ¬ a.W env.locals := fun q => nw _ q (.inl rfl)
  have nc : ∀ x c, env.cells.lookup x = some c → ¬ a.W c := fun x c e q => nw _ q (.inr (.inl ⟨x, e⟩))
  refine ⟨k.cx f.cx wx, ⟨fun y d e => ?_, fun p hp => ?_⟩, f.lx, f.ln, let ⟨m, hm⟩ := f.lm; ⟨m, hm.at' fun o e => k.kp _ o nl f.ln e⟩, fun y c e => ?_, f.inj, f.dis⟩
  · obtain ⟨c1, b1⟩ := f.vs.nm y d e
    refine ⟨?_, b1⟩
    rcases c1 with ⟨a1, a2, m, u, a3, a4, a5⟩ | ⟨c, u, a1, a2, a3, a4, a5⟩
    · exact .inl ⟨a1, a2, m, u, a3.at' fun o e => k.kp _ o nl a2 e, a4, k.tl f.cx wx a5⟩
    · exact .inr ⟨c, u, a1, a2, a3, let ⟨ob, e1, e2⟩ := a4; ⟨ob, k.kp _ ob (nc y c a2) a3 e1, e2⟩, k.tl f.cx wx a5⟩
  · obtain ⟨⟨q1, q2, us, q3, q4, q5⟩, q6⟩ := f.vs.own p hp
    exact ⟨⟨q1, q2, us, q3.at fun o e => k.kp _ o (fun z => nw _ z (.inr (.inr ⟨p, hp, rfl⟩))) q2 e, q4, k.tls f.cx wx q5⟩, q6⟩
  · obtain ⟨q1, q2, u, ob, e1, e2⟩ := f.cel y c e
    exact ⟨q1, q2, u, ob, k.kp _ ob (nc y c e) q2 e1, e2⟩
theorem lw_px {A : Around} {E : Value → Shared → Prop} {Q : Flow → Shared → Prop} {st : Stmt} {more : List Stmt} {P : Rho → Prop} (r : Room n A) (o : Eo sc env) (h : LW B C a s0 X0 env X s ρ m cs pk) (hp : PX prog w B n sc ρ [st] { nx := P })
    (k : ∀ s' X' ρ', P ρ' → LW B C a s0 X0 env X' s' ρ' m cs pk → wpAny (model prog w) A (execs more env) Q E s') : wpAny (model prog w) A (execs (st :: more) env) Q E s :=
  wpAny_execs_cons (wp_one (hp A env E s X _ r o h.fs fun fl s1 X1 t x1 x2 ok => by
    cases fl with
    | next =>
      obtain ⟨ρ1, p1, f1, oi⟩ := ok
      exact k s1 X1 ρ1 p1 (h.tn t f1 x1 oi)
    | cont => obtain ⟨_, q, _⟩ := ok; exact q.elim
    | brk => obtain ⟨_, q, _⟩ := ok; exact q.elim
    | ret v => obtain ⟨_, _, q, _⟩ := ok; exact q.elim))
end
end Mine
end

section
open PySem PySem.W PySem.Calls PyProof.Rows
set_option Elab.async false
set_option linter.unusedVariables false
set_option linter.unusedSectionVars false
set_option maxRecDepth 10000
namespace Mine

theorem lexP_len (tok : Str) (cs : List Nat) : (lexP tok cs).2.length ≤ cs.length := lexF_len _ _ _
theorem lexQ_len (tok : Str) (cs : List Nat) : (lexQ tok cs).2.length ≤ cs.length := lexF_len _ _ _
theorem lexO_le : ∀ cs : List Nat, (lexO cs).2.length ≤ cs.length ∧ (cs ≠ [] → (lexO cs).2.length < cs.length)
  | [] => by simp [lexO]
  | c :: r => by
    have h : (lexO (c :: r)).2.length ≤ r.length := by
      have e : lexO (c :: r) = if isWs c then lexO r else if c = 34 then lexQ "" r else lexP (escT "" c r) (escR c r) := rfl
      rw [e]
      split
      · exact (lexO_le r).1
      · split
        · exact lexQ_len _ _
        · exact Nat.le_trans (lexP_len _ _) (escR_len c r)
    refine ⟨?_, fun _ => ?_⟩ <;> rw [List.length_cons] <;> lia
theorem lexO_lt {cs : List Nat} (h : ¬ (lexO cs).1 = "") : (lexO cs).2.length < cs.length := by
  cases cs with
  | nil => exact absurd rfl h
  | cons c r => exact (lexO_le _).2 (by simp)

noncomputable def lexAllF : Nat → List Nat → List Str
  | 0, _ => []
  | n + 1, cs => if (lexO cs).1 = "" then [] else (lexO cs).1 :: lexAllF n (lexO cs).2
noncomputable def lexEndF : Nat → List Nat → List Nat
  | 0, cs => cs
  | n + 1, cs => if (lexO cs).1 = "" then (lexO cs).2 else lexEndF n (lexO cs).2
theorem lexF_same : ∀ (n m : Nat) (cs : List Nat), cs.length < n → cs.length < m → lexAllF n cs = lexAllF m cs ∧ lexEndF n cs = lexEndF m cs
  | 0, _, _, h, _ => absurd h (Nat.not_lt_zero _)
  | _, 0, _, _, h => absurd h (Nat.not_lt_zero _)
  | n + 1, m + 1, cs, h, h' => by
    show (if _ then _ else _) = (if _ then _ else _) ∧ (if _ then _ else _) = (if _ then _ else _)
    by_cases q : (lexO cs).1 = ""
    · rw [if_pos q, if_pos q, if_pos q, if_pos q]; exact ⟨rfl, rfl⟩
    · obtain ⟨e1, e2⟩ := lexF_same n m (lexO cs).2 (Nat.lt_of_lt_of_le (lexO_lt q) (Nat.le_of_lt_succ h)) (Nat.lt_of_lt_of_le (lexO_lt q) (Nat.le_of_lt_succ h'))
      rw [if_neg q, if_neg q, if_neg q, if_neg q, e1, e2]; exact ⟨rfl, rfl⟩
noncomputable def lexAll (cs : List Nat) : List Str := lexAllF (cs.length + 1) cs
noncomputable def lexEnd (cs : List Nat) : List Nat := lexEndF (cs.length + 1) cs
theorem lexAll_eq (cs : List Nat) : lexAll cs = if (lexO cs).1 = "" then [] else (lexO cs).1 :: lexAll (lexO cs).2 := by
  show (if _ then _ else _) = _
  by_cases q : (lexO cs).1 = ""
  · rw [if_pos q, if_pos q]
  · rw [if_neg q, if_neg q, (lexF_same cs.length ((lexO cs).2.length + 1) (lexO cs).2 (lexO_lt q) (Nat.lt_succ_self _)).1]; rfl
theorem lexEnd_eq (cs : List Nat) : lexEnd cs = if (lexO cs).1 = "" then (lexO cs).2 else lexEnd (lexO cs).2 := by
  show (if _ then _ else _) = _
  by_cases q : (lexO cs).1 = ""
  · rw [if_pos q, if_pos q]
  · rw [if_neg q, if_neg q, (lexF_same cs.length ((lexO cs).2.length + 1) (lexO cs).2 (lexO_lt q) (Nat.lt_succ_self _)).2]; rfl

variable [Star]
section
variable {prog : Program} {w : World} {B : Heap} {n : Nat} {C fI fR fG fP : Nat} {a : LA} {s0 s s' : Shared} {X0 X : Nat → Prop} {sc : Scope} {env : Env} {ρ : Rho} {m m' : Int} {cs cs' : List Nat} {pk pk' : List Str}

theorem la_meth (g : LexG B C fI fR fG fP) {A : Around} {E : Value → Shared → Prop} {Q : Value × List Value → Shared → Prop} {name : Str} {f : Nat} {y : Option Value} {pl : Sem Bool} (hB : typeLookup (.type "object") name = pure y) (hn : name ∉ lexNames)
    (hf : (∀ mN, (∃ nm q N bs sn sub col dd k0 k1 k2 k3 k5, B.get? C = some (excClassObj nm q C N bs [.type "object"] true sn sub false col dd k0 k1 k2 k3 k5 "object.__new__") ∧ B.Ns N mN) → mN "get_token" = some (.ref fG) → mN "push_token" = some (.ref fP) → mN name = some (.ref f)) ∧ ∃ o, B.get? f = some o ∧ o.cls = .type "function") (c : Cx B X s) (l : Lx C a s.heap X0 m cs pk)
    (k : Q (.ref f, [.ref a.x]) s) : wpAny (model prog w) A (getMethod (.ref a.x) name pl) Q E s := by
  obtain ⟨nm, q, N, bs, sn, sub, col, dd, q0, q1, q2, q3, q5, mN, w1, w2, w3, w4, w5, w6, w7, w8, w9, w10⟩ := g.cls
  obtain ⟨hf1, of, f1, fc⟩ := hf
  obtain ⟨mA, d1, d2, d3⟩ := l.dict
  have hsh : mA name = none := by
    cases hm : mA name with
    | none => rfl
    | some v => exact absurd (d2 name (by rw [hm]; simp)) hn
  obtain ⟨hp, gg, d, t, os⟩ := s
  exact method_of (c.base _ _ w1) (w2.keeps c.base) w3 w4 (hf1 mN ⟨nm, q, N, bs, sn, sub, col, dd, q0, q1, q2, q3, q5, w1, w2⟩ w8 w9) (c.base _ _ f1) fc hB (l.instOf d1) hsh k

theorem ob_gt : typeLookup (.type "object") "get_token" = pure none := by rw [typeLookup_type, builtinLookup_eq_fast]; kernel_rfl
theorem ob_pt : typeLookup (.type "object") "push_token" = pure none := by rw [typeLookup_type, builtinLookup_eq_fast]; kernel_rfl

theorem lw_push (g : LexG B C fI fR fG fP) {A : Around} {E : Value → Shared → Prop} {Q : Flow → Shared → Prop} {p1 p2 p3 p4 p5 : Pos} {kk : Nat} {y : Str} {more : List Stmt} (hmc : MCok env (.Name "lexer" p1) "push_token" p2 [.Constant (.str y) kk p3] p4) (hsw : swapsWith (.Call (.Attribute (.Name "lexer" p1) "push_token" p2) [.Constant (.str y) kk p3] [] p4) none p5.line env = pure false)
    (r : Room 11 A) (o : Eo sc env) (h : LW B C a s0 X0 env X s ρ m cs pk) (hs : ρ.nm "lexer" = some (.rf a.x)) (hk : pk.length < 1000)
    (k : ∀ s', LW B C a s0 X0 env X s' ρ m cs (pk ++ [y]) → wpAny (model prog w) A (execs more env) Q E s') :
    wpAny (model prog w) A (execs (.Expr (.Call (.Attribute (.Name "lexer" p1) "push_token" p2) [.Constant (.str y) kk p3] [] p4) p5 :: more) env) Q E s := by
  obtain ⟨pl, he⟩ := hmc
  have hi : interactive env = false := by unfold interactive; rw [o.iss, o.kind]; rfl
  obtain ⟨of, fd, f1, fc, f2, _⟩ := g.pt.at_
  refine wpAny_execs_cons (wpAny_Expr (MethodCall_ (pe_name (n := 11) (sc := sc) hs A env _ s X _ r o h.fs.cx h.fs.vs fun u s1 k1 t1 => ?_) he) hi hsw)
  cases t1 using Tl.rfE
  have h1 := h.ks k1
  refine la_meth (X := X) (f := fP) g ob_pt (by decide +kernel) ⟨fun mN _ _ q => q, of, f1, fc⟩ h1.fs.cx h1.lx ?_
  show wpAny _ _ (callWith p4 (.ref fP) [.ref a.x] [(false, eval (.Constant (.str y) kk p3) env)] []) _ _ _
  refine Calls.callWith_function (o := of) (fd := fd) (Calls.evalArgs_plain (Calls.spliced_cons (wpAny_mkText (Calls.spliced_nil ⟨⟨?_, f2⟩, ?_⟩))))
  · exact h1.fs.cx.base _ _ f1
  have h2 := h1.ks (Ks.tok s1 (s1.toks + 1))
  refine wpAny_call (pt_callC g r h2.fs.cx (h2.lx.weakX h2.x1) hk fun s3 k3 l3 => ?_)
  exact k s3 (h2.turn k3 (l3.backX h.lx.inX))

theorem lw_get (g : LexG B C fI fR fG fP) (hit : GlobBlt B "iter" (.builtin "iter")) {A : Around} {E : Value → Shared → Prop} {Q : Value → Shared → Prop} {p1 p2 p4 : Pos} (hmc : MCok env (.Name "lexer" p1) "get_token" p2 [] p4)
    (r : Room 11 A) (o : Eo sc env) (h : LW B C a s0 X0 env X s ρ m cs pk) (hs : ρ.nm "lexer" = some (.rf a.x))
    (k : ∀ y t s' m' cs' pk', LW B C a s0 X0 env X s' ρ m' cs' pk' → m' + nl cs' = m + nl cs → ((∃ p r, pk = p :: r ∧ y = p ∧ pk' = r ∧ cs' = cs) ∨ (pk = [] ∧ pk' = [] ∧ y = (lexO cs).1 ∧ cs' = (lexO cs).2)) → Q (.str y t) s') :
    wpAny (model prog w) A (eval (.Call (.Attribute (.Name "lexer" p1) "get_token" p2) [] [] p4) env) Q E s := by
  obtain ⟨pl, he⟩ := hmc
  obtain ⟨of, fd, f1, fc, f2, _⟩ := g.gt.at_
  refine MethodCall_ (pe_name (n := 11) (sc := sc) hs A env _ s X _ r o h.fs.cx h.fs.vs fun u s1 k1 t1 => ?_) he
  cases t1 using Tl.rfE
  have h1 := h.ks k1
  refine la_meth (X := X) (f := fG) g ob_gt (by decide +kernel) ⟨fun mN _ q _ => q, of, f1, fc⟩ h1.fs.cx h1.lx ?_
  refine Calls.callWith_function (o := of) (fd := fd) (args := []) (evalArgs_empty ⟨⟨h1.fs.cx.base _ _ f1, f2⟩, ?_⟩)
  refine wpAny_call (gt_callC g hit r h1.fs.cx (h1.lx.weakX h1.x1) fun v s2 gt => ?_)
  obtain ⟨kw, t, m', cs', pk', y, rfl, l2, hm, hc⟩ := gt
  exact k y t s2 m' cs' pk' (h1.turn kw (l2.backX h.lx.inX)) hm hc
end
end Mine
end

section
open PySem PySem.W PySem.Calls PyProof.Rows
set_option Elab.async false
set_option linter.unusedVariables false
set_option linter.unusedSectionVars false
set_option maxRecDepth 10000
namespace Mine
variable [Star]
section
variable {prog : Program} {w : World} {B : Heap} {n : Nat} {C fI fR fG fP : Nat} {a : LA} {s0 s s' : Shared} {X0 X : Nat → Prop} {sc : Scope} {env : Env} {ρ : Rho} {m m' : Int} {cs cs' : List Nat} {pk pk' : List Str}

theorem new_own {A : Around} {E : Value → Shared → Prop} {Q : Unit → Shared → Prop} {x : Str} {vs : List Value} {ds : List D} (o : Eo sc env) (f : Fs B env X s ρ) (t : Tls s.heap X vs ds) (hz : ds.length ≤ 100000) (hx : sc.names.lookup x = some .local ∨ sc.names.lookup x = some .cell) (hd : (x == ("__debug__" : Str)) = false) (hc : (x == ("__classdict__" : Str)) = false)
    (k : ∀ s3, Fs B env (fun b => X b ∨ b = s.heap.objs.size) s3 (ρ.new x s.heap.objs.size ds) → Tn (Mut env ρ) s s3 → OwnIn ρ (ρ.new x s.heap.objs.size ds) s → Q () s3) :
    wpAny (model prog w) A (storeName env x (.ref s.heap.objs.size)) Q E { s with heap := s.heap.push { cls := .type "list", data := .seq vs.toArray } } := by
  have hl := t.length
  have c1 := f.cx
  have f2 : Fs B env (fun b => X b ∨ b = s.heap.objs.size) { s with heap := s.heap.push { cls := .type "list", data := .seq vs.toArray } } ρ :=
    f.up (fun b o _ e => Heap.get?_push_of_some _ e) (c1.moreI _ _) (fun _ h => .inl h) (fun b h => h.imp_right fun (e : b = _) => by rw [e]; exact Nat.le_refl _)
  refine store_name o f2 hx (.rf s.heap.objs.size) hd hc fun s3 f3 t3 => ?_
  have hlt : ∀ b, X b → b < s.heap.objs.size := c1.xlt
  have hnm : ¬ Mut env ρ s.heap.objs.size := fun m => by have := hlt _ (Mut.inX f m); lia
  have htb : s.heap.objs.size ≠ tb := nen (by have := hlt _ c1.tb; lia)
  have kp3 : ∀ ob, (s.heap.push { cls := .type "list", data := .seq vs.toArray }).get? s.heap.objs.size = some ob → s3.heap.get? s.heap.objs.size = some ob := fun ob e => t3.kp _ ob hnm htb e
  have hf : Fs B env (fun b => X b ∨ b = s.heap.objs.size) s3 (ρ.new x s.heap.objs.size ds) := by
    refine { f3 with vs := ⟨f3.vs.nm, fun p hp => ?_⟩, dis := ?_ }
    · cases hp with
      | head =>
        refine ⟨⟨.inr rfl, htb, vs, ⟨0, kp3 _ (Heap.get?_push_size _ rfl)⟩, by lia, ?_⟩, by show (if x = x then _ else _) = _; rw [if_pos rfl]⟩
        refine t.move (fun b o nb e => t3.kp b o (fun m => nb (Mut.inX f m)) (fun z => nb (z ▸ c1.tb)) (Heap.get?_push_of_some _ e)) fun b q => q.imp_right fun (q : b = _) => by rw [q]; exact Nat.le_refl _
      | tail _ hp => exact f3.vs.own p hp
    · refine List.pairwise_cons.mpr ⟨fun q hq => ⟨fun e => ?_, fun e => ?_⟩, f3.dis⟩
      · have := (List.mem_filter.mp hq).2
        simp at this
        exact this e.symm
      · have := hlt _ (f.vs.own q (List.mem_filter.mp hq).1).1.1
        have e' : s.heap.objs.size = q.2.1 := e
        lia
  refine k s3 hf ?_ fun p hp => ?_
  · exact (Tn.trans (M' := Mut env ρ) (s' := { s with heap := s.heap.push { cls := .type "list", data := .seq vs.toArray } }) ⟨rfl, rfl, fun b o _ _ e => Heap.get?_push_of_some _ e, by show _ ≤ (s.heap.push _).objs.size; rw [Heap.size_push]; (exact Nat.le_succ _)⟩ t3 fun b m => .inl m)
  · cases hp with
    | head => exact .inr (Nat.le_refl _)
    | tail _ hp => exact .inl ⟨p, (List.mem_filter.mp hp).1, rfl⟩

structure NmW (a : LA) (wl : Nat) (ρ : Rho) (ds : List Str) : Prop where
  own : ρ.own = [(("words" : Str), wl, ds.map .str)]
  lexer : ρ.nm "lexer" = some (.rf a.x)
  words : ρ.nm "words" = some (.rf wl)

inductive WSt (cs : List Nat) : Nat → List Nat → List Str → List Str → Prop
  | one : WSt cs (cs.length + 3) cs ["two"] ["one"]
  | mid {cs' : List Nat} {ds : List Str} {y : Str} : ds ++ [y] ++ lexAll cs' = [("one" : Str), "two"] ++ lexAll cs → lexEnd cs' = lexEnd cs → (ds ++ [y]).length + cs'.length ≤ cs.length + 2 → (y == "") = false → WSt cs (cs'.length + 2) cs' [] (ds ++ [y])
  | fin : ([("one" : Str), "two"] ++ lexAll cs).length ≤ cs.length + 2 → WSt cs 0 (lexEnd cs) [] (([("one" : Str), "two"] ++ lexAll cs) ++ [("" : Str)])

theorem lexAll_nil {cs : List Nat} (h : (lexO cs).1 = "") : lexAll cs = [] ∧ lexEnd cs = (lexO cs).2 := by
  rw [lexAll_eq, lexEnd_eq, if_pos h, if_pos h]; exact ⟨rfl, rfl⟩
theorem lexAll_cons {cs : List Nat} (h : ¬ (lexO cs).1 = "") : lexAll cs = (lexO cs).1 :: lexAll (lexO cs).2 ∧ lexEnd cs = lexEnd (lexO cs).2 := by
  constructor
  · rw [lexAll_eq, if_neg h]
  · rw [lexEnd_eq, if_neg h]

theorem WSt.step {i : Nat} {cs cs' cs'' : List Nat} {pk pk' ds : List Str} {y : Str} (h : WSt cs i cs' pk ds) (hi : 0 < i) (hc : (∃ p r, pk = p :: r ∧ y = p ∧ pk' = r ∧ cs'' = cs') ∨ (pk = [] ∧ pk' = [] ∧ y = (lexO cs').1 ∧ cs'' = (lexO cs').2)) :
    ∃ j, j < i ∧ WSt cs j cs'' pk' (ds ++ [y]) := by
  cases h with
  | one =>
    rcases hc with ⟨p, r, q1, q2, q3, q4⟩ | ⟨q, _⟩
    · simp at q1
      obtain ⟨rfl, rfl⟩ := q1
      subst q2 q3 q4
      exact ⟨cs''.length + 2, by (exact Nat.le_refl _), .mid (ds := ["one"]) rfl rfl (by simp; lia) (by decide +kernel)⟩
    · simp at q
  | @mid cs' ds z h1 h2 h3 h4 =>
    rcases hc with ⟨p, r, q1, _⟩ | ⟨_, q2, q3, q4⟩
    · simp at q1
    · subst q2 q3 q4
      by_cases hy : (lexO cs').1 = ""
      · obtain ⟨a1, a2⟩ := lexAll_nil hy
        rw [a1, List.append_nil] at h1
        refine ⟨0, by assumption, ?_⟩
        rw [hy, h1, ← a2, h2]
        refine .fin ?_
        rw [← h1]
        lia
      · obtain ⟨a1, a2⟩ := lexAll_cons hy
        have hlt := lexO_lt hy
        refine ⟨(lexO cs').2.length + 2, by lia, .mid (ds := ds ++ [z]) ?_ (a2.symm.trans h2) ?_ ?_⟩
        · rw [← h1, a1]; simp
        · simp only [List.length_append, List.length_cons, List.length_nil] at h3 ⊢
          lia
        · simpa using hy
  | fin _ => lia

theorem lw_words (g : LexG B C fI fR fG fP) (hit : GlobBlt B "iter" (.builtin "iter")) {aw : Nat} (gw : Gr B 34 "_law_words" aw ["lexer"]) {A : Around} {E : Value → Shared → Prop} {Q : Value → Shared → Prop} (r : Room 12 A) (c : Cx B X s) (l : Lx C a s.heap X m cs []) (hcl : cs.length ≤ 50000)
    (k : ∀ v s' m', Kw a.W X s s' → Lx C a s'.heap X m' (lexEnd cs) [] → m' + nl (lexEnd cs) = m + nl cs → Tl s'.heap X v (.list (([("one" : Str), "two"] ++ lexAll cs).map .str)) → Q v s') :
    wpAny (model prog w) A (call (.ref aw) [.ref a.x]) Q E s := by
  obtain ⟨o', fd, h1, h2, h3, h4, h5, h6, h7, h8, h10, h9⟩ := gw.at_
  refine wpAny_call (fa_enterC (n := 11) (ps := [("lexer", .rf a.x)]) h1 h2 gw.lim h3 h4 h6 h7 h8 (fun vs hv => h9 vs (by simpa using hv)) (by rw [h5]; exact gw.ok) (by rw [h5]; exact h10) r c (.cons (.rf a.x) .nil) fun A' env E' s₁ X' r' eo fs kp e1 e2 e3 sz x1 x2 hm hnc => ?_)
  rw [h5] at eo
  have L : LW B C a s X env X' s₁ (rho [("lexer", .rf a.x)]) m cs [] := ⟨fs, l.keep (fun b _ o e => kp b o e) fun _ q => q, x1, hm, fun b hb => c.xlt b (l.inX b hb), e1, e2, fun b o _ _ e => kp b o e, sz⟩
  have hlex : (rho [("lexer", .rf a.x)]).nm "lexer" = some (.rf a.x) := rfl
  rw [show fb 34 = [.Expr (.Call (.Attribute (.Name "lexer" _) "push_token" _) [.Constant (.str "one") _ _] [] _) _, .Expr (.Call (.Attribute (.Name "lexer" _) "push_token" _) [.Constant (.str "two") _ _] [] _) _,
    .Assign [.Name "words" _] (.List [.Call (.Attribute (.Name "lexer" _) "get_token" _) [] [] _] _) _,
    .While (.Compare (.Subscript (.Name "words" _) (.UnaryOp .USub (.Constant (.int 1) _ _) _) _) [.NotEq] [.Constant (.str "") _ _] _) [.Expr (.Call (.Attribute (.Name "words" _) "append" _) [.Call (.Attribute (.Name "lexer" _) "get_token" _) [] [] _] [] _) _] [] _,
    .Return (some (.Subscript (.Name "words" _) (.Slice none (some (.UnaryOp .USub (.Constant (.int 1) _ _) _)) none _) _)) _] from rfl]
  refine lw_push g ⟨_, rfl⟩ rfl r' eo L hlex (by simp) fun s2 L2 => ?_
  refine lw_push g ⟨_, rfl⟩ rfl r' eo L2 hlex (by simp) fun s3 L3 => ?_
  refine wpAny_execs_cons (wpAny_Assign_Name (List_ (spliced_more (lw_get g hit ⟨_, rfl⟩ r' eo L3 hlex fun y t s4 m4 cs4 pk4 L4 hm4 hc4 => ?_) rfl)) rfl)
  show wpAny _ _ (pure []) _ _ _
  refine wpAny_pure (wpAny_newObj_type ?_ (by show (1 : Nat) ≤ sizeLine; rw [sizeLine_eq]; (exact Nat.succ_pos _)))
  have hc5 : y = "one" ∧ pk4 = [("two" : Str)] ∧ cs4 = cs := by
    rcases hc4 with ⟨p, r, q1, q2, q3, q4⟩ | ⟨q, _⟩
    · simp at q1
      obtain ⟨rfl, rfl⟩ := q1
      exact ⟨q2, q3, q4⟩
    · simp at q
  obtain ⟨z1, z2, z3⟩ := hc5
  subst z1 z2
  rw [z3] at L4 hm4
  clear hc4
  refine new_own (ds := [.str "one"]) eo L4.fs (.cons (.str "one" t) .nil) (by simp) (.inl (by decide +kernel)) (by decide +kernel) (by decide +kernel) fun s5 f5 t5 oi5 => ?_
  have L5 := L4.tn t5 f5 (fun _ q => .inl q) oi5
  have N5 : NmW a s4.heap.objs.size ((rho [("lexer", .rf a.x)]).new "words" s4.heap.objs.size [.str "one"]) ["one"] := ⟨rfl, rfl, rfl⟩
  generalize (rho [("lexer", .rf a.x)]).new "words" s4.heap.objs.size [.str "one"] = ρ5 at L5 N5
  generalize s4.heap.objs.size = wl at L5 N5
  show wpAny _ _ (execs _ env) _ _ _
  refine wpAny_execs_cons (wpAny_While ?_)
  have hK : m4 + nl cs = m + nl cs := hm4
  have aft : ∀ (s' : Shared) (ρ' : Rho) (X1 : Nat → Prop) (m' : Int) (R : Flow → Shared → Prop), NmW a wl ρ' (([("one" : Str), "two"] ++ lexAll cs) ++ [("" : Str)]) → LW B C a s X env X1 s' ρ' m' (lexEnd cs) [] → m' + nl (lexEnd cs) = m + nl cs → (∀ v s2, Q v s2 → R (.ret v) s2) → ∀ p1 p2 p3 p4 p5 p6 k1 , wpAny (model prog w) A' (execs [.Return (some (.Subscript (.Name "words" p1) (.Slice none (some (.UnaryOp .USub (.Constant (.int 1) k1 p2) p3)) none p4) p5)) p6] env) R E' s' := by
    intro s' ρ' X1 m' R N L hm hR p1 p2 p3 p4 p5 p6 k1
    have hsee : ρ'.see.nm "words" = some (.list ((([("one" : Str), "two"] ++ lexAll cs) ++ [("" : Str)]).map .str)) := see_own (p := (("words" : Str), wl, _)) (by rw [N.own]; rfl)
    have hpe : PE prog w B 11 (fsc 34) ρ'.see (.Subscript (.Name "words" p1) (.Slice none (some (.UnaryOp .USub (.Constant (.int 1) k1 p2) p3)) none p4) p5) (.list (([("one" : Str), "two"] ++ lexAll cs).map .str)) := by
      have h0 := pe_slice_list (prog := prog) (w := w) (B := B) (n := 11) (sc := fsc 34) (pos := p5) (p := p4) (lower := none) (upper := some (.UnaryOp .USub (.Constant (.int 1) k1 p2) p3)) (step := none) (ds := (([("one" : Str), "two"] ++ lexAll cs) ++ [("" : Str)]).map .str) (lo := none) (hi := some (-1)) (st := none) (pe_name (pos := p1) hsee) trivial (pe_neg pe_int) trivial (by intro e; cases e) (by rw [pick_init, List.length_dropLast]; (exact Nat.le_succ _))
      rw [pick_init, ← List.map_dropLast, List.dropLast_concat] at h0
      exact h0
    refine wpAny_execs_cons (wpAny_Return_some (hpe A' env _ s' (Xo X1 ρ') _ r' eo (Xo.cx L.fs.vs L.fs.cx) (Xo.vs L.fs.vs) fun v s2 k1 t1 => hR _ _ ?_))
    have L2 := L.ks (Xo.ks L.fs.vs L.fs.cx k1)
    refine k v s2 m' L2.kw L2.lx hm (t1.move (fun _ _ _ e => e) fun b hb => .inl ⟨L.x1 b hb, fun p hp e => ?_⟩)
    rw [N.own] at hp
    cases hp with
    | head =>
      have h1 := L.mt wl (.inr (.inr ⟨_, by rw [N.own]; exact .head _, rfl⟩))
      have h2 := c.xlt b hb
      have e' : wl = b := e
      lia
    | tail _ hp => cases hp
  refine codeAny_whileLoop (fun i s' => ∃ ρ' X1 m' cs' pk' ds, NmW a wl ρ' ds ∧ WSt cs i cs' pk' ds ∧ LW B C a s X env X1 s' ρ' m' cs' pk' ∧ m' + nl cs' = m + nl cs) ?_ (cs.length + 3) ⟨ρ5, _, m4, cs, ["two"], ["one"], N5, .one, L5, hK⟩
  rintro i s6 ⟨ρ6, X6, m6, cs6, pk6, ds6, N6, W6, L6, hK6⟩
  have hds : ∃ (d0 : List Str) (y : Str), ds6 = d0 ++ [y] ∧ (y == ("" : Str)) = decide (i = 0) ∧ (d0 ++ [y]).length ≤ 60000 := by
    cases W6 with
    | one => exact ⟨[], "one", rfl, by simp; decide +kernel, by simp⟩
    | mid h1 h2 h3 h4 => exact ⟨_, _, rfl, by rw [h4]; simp, by lia⟩
    | fin h1 => exact ⟨_, "", rfl, by simp, by rw [List.length_append]; simp at h1 ⊢; lia⟩
  obtain ⟨d0, y6, rfl, hy6, hl6⟩ := hds
  have hsee : ρ6.see.nm "words" = some (.list ((d0 ++ [y6]).map .str)) := see_own (p := (("words" : Str), wl, (d0 ++ [y6]).map .str)) (by rw [N6.own]; rfl)
  have hpt : ∀ p1 p2 p3 p4 p5 p6 k1 k2, PT prog w B 11 (fsc 34) ρ6 (.Compare (.Subscript (.Name "words" p1) (.UnaryOp .USub (.Constant (.int 1) k1 p2) p3) p4) [.NotEq] [.Constant (.str "") k2 p5] p6) (!decide (i = 0)) := fun p1 p2 p3 p4 p5 p6 k1 k2 => by
    refine PT.to (pt_see (pt_cmp (a := .str y6) (b := .str "") (pe_item_list (ds := (d0 ++ [y6]).map .str) (i := -1) (d := .str y6) (pe_name hsee) (pe_neg pe_int) ?_) pe_str bo_ne_str)) ?_
    · rw [atD_lastD (by simp)]
      simp [List.getLastD_eq_getLast?]
    · rw [bne, hy6]
  refine hpt _ _ _ _ _ _ _ _ A' env _ s6 X6 _ r' eo L6.fs.cx L6.fs.vs fun s7 k7 => ?_
  have L7 := L6.ks k7
  by_cases hi : i = 0
  · rw [decide_eq_true hi]
    simp only [Bool.not_true, Bool.false_eq_true, if_false]
    refine wpAny_execs_nil ?_
    subst hi
    generalize hz : (0 : Nat) = z at W6
    generalize hd : d0 ++ [y6] = ds at W6 N6
    cases W6 with
    | one => lia
    | mid h1 h2 h3 h4 => lia
    | fin h1 => exact aft s7 ρ6 X6 m6 _ N6 L7 hK6 (fun _ _ q => q) _ _ _ _ _ _ _
  · rw [decide_eq_false hi]
    simp only [Bool.not_false, if_true]
    have hint : interactive env = false := by unfold interactive; rw [eo.iss, eo.kind]; rfl
    refine wpAny_execs_cons (wpAny_Expr ?_ hint rfl)
    refine Call_method1 rfl rfl rfl (pe_name (n := 11) (sc := fsc 34) N6.words A' env _ s7 X6 _ r' eo L7.fs.cx L7.fs.vs fun v8 s8 k8 t8 => ?_)
    cases t8 using Tl.rfE
    have L8 := L7.ks k8
    have hmem : (("words" : Str), wl, (d0 ++ [y6]).map D.str) ∈ ρ6.own := by rw [N6.own]; exact .head _
    obtain ⟨⟨q1, q2, us, q3, q4, q5⟩, q6⟩ := L8.fs.vs.own _ hmem
    obtain ⟨n0, e0⟩ := id q3
    refine ⟨"list", "list.append", F.plainAttrs_list, slot_list_append, F.type_list_append, ⟨_, e0, rfl⟩, fun b eb => (by cases eb; exact ⟨_, e0, rfl⟩), ?_⟩
    refine Calls.callWith_builtin rfl (Calls.evalArgs_plain (Calls.spliced_cons (lw_get g hit ⟨_, rfl⟩ r' eo L8 N6.lexer fun y t s9 m9 cs9 pk9 L9 hm9 hc9 => Calls.spliced_nil ?_)))
    obtain ⟨⟨q1, q2, ws, q3', q4', q5'⟩, q6⟩ := L9.fs.vs.own _ hmem
    have hlen := q5'.length
    have hlen' : ws.length = (d0 ++ [y6]).length := by rw [hlen, List.length_map]
    refine wpAny_list_append_plain q3' (fun h' hl hs' => ?_) (by rw [List.size_toArray, sizeLine_eq]; lia)
    have hl' : h'.PlainList wl (ws ++ [Value.str y t]).toArray := by simpa using hl
    obtain ⟨f10, t10⟩ := Fs.put (t := s9.toks) (l' := (d0 ++ [y6]).map D.str ++ [.str y]) L9.fs hmem hs' hl' (by rw [List.length_append, List.length_singleton]; lia) ((q5'.append (.cons (.str y t) .nil)).same hs' q1)
    have L10 := L9.tn t10 f10 (fun _ q => q) (Rho.put_own s9)
    obtain ⟨j, hj, W10⟩ := W6.step (Nat.pos_of_ne_zero hi) hc9
    refine wpAny_execs_nil ?_
    refine ⟨j, hj, ρ6.put "words" ((d0 ++ [y6]).map D.str ++ [.str y]), X6, m9, cs9, pk9, _, ⟨?_, N6.lexer, N6.words⟩, W10, L10, by rw [hm9]; exact hK6⟩
    show ρ6.own.map _ = _
    rw [N6.own]
    simp
end
end Mine
end

section
open PySem PySem.W PySem.Calls PyProof.Rows
set_option Elab.async false
set_option linter.unusedVariables false
set_option linter.unusedSectionVars false
set_option maxRecDepth 10000
namespace Mine

structure NmOk (L : List Int) : Prop where
  len : (Txt.split ("r/" ++ pathT L) "/").length ≤ 10
  each : ∀ t ∈ Txt.split ("r/" ++ pathT L) "/", t.length ≤ 100
  st : Txt.startswith (pathT L) "/" = false
  all : ∀ t ∈ nmL L, t ∈ allNames
  nl : (nmT (pathT L)).length ≤ 1000
  s1 : Txt.slice ("/r" ++ ("/" ++ pathT L)) (some 1) none = "r/" ++ pathT L
  s2 : (Txt.slice ("/r" ++ ("/" ++ pathT L)) none (some 1) != "/") = false
  s3 : (Txt.slice ("/r" ++ ("/" ++ pathT L)) (some 1) (some 2) != "/") = true
  n10 : (nmL L).length ≤ 10

noncomputable def ruleL (L : List Int) : List (List It) := (nmL L).map thI
noncomputable def plN (p : Str) : List Str := (Txt.split p "/").drop 1
noncomputable def placesL : List Str := ["/r/a b", "/r/c\"d", "/r/#g/a b", "/e\\f", "/r/ a/\"q", "/r/a b/#g/e\\f", "/r/\\x"]
noncomputable def rulesN (N : List Int) : List (List (List It)) := N.map fun x => ruleL (piecesL (x.fdiv 4))
noncomputable def dueN (N : List Int) : List (List (List It)) := N.map fun x => ownL (piecesL (x.fdiv 4))
noncomputable def hitsD (R : List (List (List It))) : D → D
  | .str p => .list ((hitsL R (plN p)).map .int)
  | d => d
noncomputable def ruleD : D → D
  | .str nm => .list ((thI nm).map itD)
  | d => d
noncomputable def dueD : D → D
  | .int x => ruD (ownL (piecesL (x.fdiv 4)))
  | d => d

theorem pl_len : ∀ p ∈ placesL, p.length ≤ 100 ∧ (plN p).length ≤ 1000 ∧ (∀ t ∈ plN p, t.length ≤ 100) := by
  have h : (placesL.all fun p => decide (p.length ≤ 100) && decide ((plN p).length ≤ 1000) && (plN p).all fun t => decide (t.length ≤ 100)) = true := by decide +kernel
  intro p hp
  have := List.all_eq_true.mp h p hp
  simp only [Bool.and_eq_true, decide_eq_true_eq] at this
  exact ⟨this.1.1, this.1.2, fun t ht => by simpa using List.all_eq_true.mp this.2 t ht⟩

variable [Star]
theorem toPys_ll : ∀ ls : List (List Int), toPys (ls.map fun l => D.list (l.map .int)) = ls.map fun l => PyData.list (l.map .int)
  | [] => by simp [toPys]
  | l :: r => by simp [toPys, toPy, toPys_ints, toPys_ll r]
theorem okPs_ll : ∀ ls : List (List Int), okPs (ls.map fun l => D.list (l.map .int)) = true
  | [] => by simp [okPs]
  | l :: r => by simp [okPs, okP, okPs_ints, okPs_ll r]
theorem lay_ll : ∀ ls : List (List Int), PyData.canLayAll0 (ls.map fun l => PyData.list (l.map .int)) = true
  | [] => by simp [PyData.canLayAll0]
  | l :: r => by simp [PyData.canLayAll0, PyData.canLay0, ke_canLayAll0, lay_ll r]
theorem depth_ll : ∀ ls : List (List Int), PyData.depthAll (ls.map fun l => PyData.list (l.map .int)) ≤ 1
  | [] => by simp [PyData.depthAll]
  | l :: r => by have := depth_ll r; simp [PyData.depthAll, PyData.depth, ke_depthAll]; omega
theorem shaped_ll (ls : List (List Int)) : SeqAt.shaped (toPy (.list (ls.map fun l => .list (l.map .int)))) = true := by
  have h := depth_ll ls
  simp only [toPy, toPys_ll, SeqAt.shaped, PyData.canLay0, PyData.depth, lay_ll, Bool.true_and, decide_eq_true_eq]
  omega

section
variable {prog : Program} {w : World} {B : Heap} {n : Nat} {sc : Scope} {ρ : Rho}

theorem px_law3 (g : Gnd prog w B) (hn : 9 ≤ n) {N : List Int} {W : List Str} {ρ : Rho} (hN : N.length ≤ 10) (hNW : N.length ≤ W.length) (hW : W.length ≤ 100) (hpk : pickD (W.map D.str) (some 3) none (some 2) = (N.map fun x => pth x).map .str) (hnm : ∀ x ∈ N, NmOk (piecesL (x.fdiv 4)))
    (hh : ∀ p ∈ placesL, hitsL (rulesN N) (plN p) = hitsL (dueN N) (plN p)) (h0 : DI [] [("words", .list (W.map .str)), ("numbers", .list (N.map .int))] ρ) :
    PX prog w B n (fsc 37) ρ ((fb 37).drop 7) { nx := fun _ => False, rt := (· = .bool true) } := by
  obtain ⟨a1, g1, f1⟩ := fa_things (n := n) g hn
  obtain ⟨a2, g2, f2⟩ := fa_normpath (n := n) g (by omega)
  obtain ⟨a3, g3, f3⟩ := fa_join (n := n) g (by omega)
  obtain ⟨a4, g4, f4⟩ := fa_own (n := n) g (by omega)
  obtain ⟨a5, g5, f5⟩ := fa_pieces (n := n) g (by omega)
  obtain ⟨a6, g6, f6⟩ := fa_hits (n := n) g hn
  have nW : ρ.nm "words" = some (.list (W.map .str)) := h0.get rfl
  have nN : ρ.nm "numbers" = some (.list (N.map .int)) := h0.get rfl
  have hrulesD : ∀ x ∈ N, ((nmL (piecesL (x.fdiv 4))).map D.str).map ruleD = (ruleL (piecesL (x.fdiv 4))).map fun i => D.list (i.map itD) := fun x hx => by
    unfold ruleL
    rw [List.map_map, List.map_map]
    rfl
  unfold fb stm
  change PX _ _ _ _ _ _ (_ :: _) _
  obtain ⟨F, hF⟩ : ∃ F : D → D, ∀ x ∈ N, F (.str (pth x)) = ruD (ruleL (piecesL (x.fdiv 4))) := ⟨fun d => match d with | .str y => .list (((Txt.split (nmT y) "/").drop 1 |>.map D.str).map ruleD) | d => d, fun x hx => by
    show D.list (((nmL (piecesL (x.fdiv 4))).map D.str).map ruleD) = _
    rw [hrulesD x hx]; rfl⟩
  with_reducible refine px_assign (d := .list (((N.map fun x => pth x).map D.str).map F)) (pe_map (z := true) F ?_ ?_ ?_ (pi_list (pe_to (congrArg D.list hpk) (pe_slice_list (ds := W.map .str) (lo := some 3) (hi := none) (st := some 2) (pe_name nW) ?_ ?_ ?_ ?_ ?_))) (fun d hd => ?_) ?_) ?_ ?_ ?_ ?_ ?_
  · decide +kernel
  · decide +kernel
  · decide +kernel
  · exact pe_int
  · trivial
  · exact pe_int
  · intro e; cases e
  · rw [hpk, List.length_map, List.length_map, List.length_map]; exact hNW
  · obtain ⟨y, hy, rfl⟩ := List.mem_map.mp hd
    obtain ⟨x, hx, rfl⟩ := List.mem_map.mp hy
    have ok := hnm x hx
    rw [hF x hx]
    have hpl := pth_len x
    have e0 : ruD (ruleL (piecesL (x.fdiv 4))) = .list (((nmL (piecesL (x.fdiv 4))).map D.str).map ruleD) := by rw [hrulesD x hx]; rfl
    rw [e0]
    have hd1 : ((pickD ((Txt.split (nmT (pathT (piecesL (x.fdiv 4)))) "/").map D.str) (some 1) none none)) = (nmL (piecesL (x.fdiv 4))).map D.str := by
      rw [show (1 : Int) = ((1 : Nat) : Int) from rfl, pick_from, ← List.map_drop]; rfl
    have hln : ∀ y : Str, ("/r" ++ ("/" ++ y) : Str).length = y.length + 3 := fun y => by
      rw [Str.length_append, Str.length_append]
      have h1 : ("/r" : Str).length = 2 := by decide +kernel
      have h2 : ("/" : Str).length = 1 := by decide +kernel
      omega
    have o1 : Txt.startswith (pth x) "/" = false := ok.st
    have o2 : Txt.slice ("/r" ++ ("/" ++ pth x)) (some 1) none = "r/" ++ pth x := ok.s1
    have o3 : (Txt.slice ("/r" ++ ("/" ++ pth x)) none (some 1) != "/") = false := ok.s2
    have o4 : (Txt.slice ("/r" ++ ("/" ++ pth x)) (some 1) (some 2) != "/") = true := ok.s3
    have o5 : (Txt.split ("r/" ++ pth x) "/").length ≤ 10 := ok.len
    have o6 : ∀ t ∈ Txt.split ("r/" ++ pth x) "/", t.length ≤ 100 := ok.each
    have hr2 : ("r/" : Str).length = 2 := by decide +kernel
    have o8 : ("/r" ++ ("/" ++ pth x) : Str).length ≤ 1000 := by rw [hln]; omega
    have o9 : ("r/" ++ pth x : Str).length ≤ 1000 := by rw [Str.length_append]; omega
    have o10 : ((("/r" ++ ("/" ++ pth x) : Str).length : Int) != 0) = true := by rw [hln]; simp; omega
    have o7 : FA prog w B n a2 [.str ("/r" ++ ("/" ++ pth x))] (.str (nmT (pathT (piecesL (x.fdiv 4))))) := f2 ("/r" ++ ("/" ++ pth x)) ("r/" ++ pth x) o8 o9 o2 o10 o3 o4 o5 o6
    with_reducible refine pe_map (z := true) ruleD ?_ ?_ ?_ (pi_list (pe_to (congrArg D.list hd1) (pe_slice_list (ds := (Txt.split (nmT (pathT (piecesL (x.fdiv 4)))) "/").map D.str) (lo := some 1) (hi := none) (st := none) (pe_m1 (x := nmT (pathT (piecesL (x.fdiv 4)))) (a := .str "/") (pe_call g2 ?_ (pes_cons (pe_call g3 ?_ (pes_cons pe_str (pes_cons (d := .str (pth x)) (pe_name rc_self) pes_nil)) (f3 (pth x) ?_ o1)) pes_nil) o7) pe_str (sm_split ?_ ?_)) ?_ ?_ ?_ ?_ ?_))) (fun d hd => ?_) ?_
    · decide +kernel
    · decide +kernel
    · decide +kernel
    · decide +kernel
    · decide +kernel
    · omega
    · decide +kernel
    · exact Nat.le_trans ok.nl (by decide)
    · exact pe_int
    · trivial
    · trivial
    · intro e; cases e
    · rw [hd1, List.length_map, List.length_map]
      unfold nmL
      rw [List.length_drop]
      omega
    · obtain ⟨nm, hnm', rfl⟩ := List.mem_map.mp hd
      show PE _ _ _ _ _ _ _ (.list ((thI nm).map itD))
      with_reducible refine pe_call g1 ?_ (pes_cons (pe_name rc_self) pes_nil) (f1 nm (ok.all nm hnm'))
      decide +kernel
    · rw [List.length_map]; have := ok.n10; omega
  · rw [List.length_map, List.length_map]; omega
  · exact .inr (by decide +kernel)
  · exact fun _ o => swaps_cell o (by decide +kernel)
  · decide +kernel
  · decide +kernel
  have e1 : ((N.map fun x => pth x).map D.str).map F = (rulesN N).map ruD := by
    unfold rulesN
    rw [List.map_map, List.map_map, List.map_map]
    exact List.map_congr_left fun x hx => hF x hx
  rw [e1]
  have h1 := h0.set "rules" (.list ((rulesN N).map ruD))
  generalize ρ.set "rules" (.list ((rulesN N).map ruD)) = ρ1 at h1 ⊢
  have nN1 : ρ1.nm "numbers" = some (.list (N.map .int)) := h1.get rfl
  change PX _ _ _ _ _ _ (_ :: _) _
  with_reducible refine px_assign (d := .list ((N.map D.int).map dueD)) (pe_map (z := true) dueD ?_ ?_ ?_ (pi_list (pe_name nN1)) (fun d hd => ?_) ?_) ?_ ?_ ?_ ?_ ?_
  · decide +kernel
  · decide +kernel
  · decide +kernel
  · obtain ⟨x, hx, rfl⟩ := List.mem_map.mp hd
    show PE _ _ _ _ _ _ _ (ruD (ownL (piecesL (x.fdiv 4))))
    with_reducible refine pe_call g4 ?_ (pes_cons (pe_call g5 ?_ (pes_cons (pe_binop (a := .int x) (pe_name rc_self) pe_int (bo_div_int ?_ ?_)) pes_nil) (f5 (x.fdiv 4))) pes_nil) (f4 _ ?_ ?_)
    · decide +kernel
    · decide +kernel
    · decide
    · exact fdiv4_ok
    · exact piecesL_lt _
    · exact piecesL_len _
  · rw [List.length_map]; omega
  · exact .inr (by decide +kernel)
  · exact fun _ o => swaps_cell o (by decide +kernel)
  · decide +kernel
  · decide +kernel
  have e2 : (N.map D.int).map dueD = (dueN N).map ruD := by
    unfold dueN
    rw [List.map_map, List.map_map]
    rfl
  rw [e2]
  have h2 := h1.set "due" (.list ((dueN N).map ruD))
  generalize ρ1.set "due" (.list ((dueN N).map ruD)) = ρ2 at h2 ⊢
  change PX _ _ _ _ _ _ (_ :: _) _
  with_reducible refine px_assign (d := .list (placesL.map D.str)) (pe_list (pes_cons pe_str (pes_cons pe_str (pes_cons pe_str (pes_cons pe_str (pes_cons pe_str (pes_cons pe_str (pes_cons pe_str pes_nil)))))))) ?_ ?_ ?_ ?_ ?_
  · exact .inl (by decide +kernel)
  · exact fun _ _ => rfl
  · decide +kernel
  · decide +kernel
  have h3 := h2.set "places" (.list (placesL.map D.str))
  generalize ρ2.set "places" (.list (placesL.map D.str)) = ρ3 at h3 ⊢
  have n1 : ρ3.nm "rules" = some (.list ((rulesN N).map ruD)) := h3.get rfl
  have n2 : ρ3.nm "due" = some (.list ((dueN N).map ruD)) := h3.get rfl
  have n3 : ρ3.nm "places" = some (.list (placesL.map D.str)) := h3.get rfl
  have lR : (rulesN N).length ≤ 1000 := by unfold rulesN; rw [List.length_map]; omega
  have lD : (dueN N).length ≤ 1000 := by unfold dueN; rw [List.length_map]; omega
  change PX _ _ _ _ _ _ (_ :: _) _
  have key : ∀ (R : List (List (List It))) (v : Str), ((placesL.map D.str).map (hitsD R)) = (placesL.map fun p => hitsL R (plN p)).map fun l => D.list (l.map .int) := fun R v => by
    rw [List.map_map, List.map_map]; rfl
  have ee : (placesL.map fun p => hitsL (rulesN N) (plN p)) = placesL.map fun p => hitsL (dueN N) (plN p) := List.map_congr_left hh
  have hdr : ∀ p : Str, pickD ((Txt.split p "/").map D.str) (some 1) none none = (plN p).map D.str := fun p => by
    rw [show (1 : Int) = ((1 : Nat) : Int) from rfl, pick_from, ← List.map_drop]; rfl
  have lm : (placesL.map fun p => hitsL (dueN N) (plN p)).length ≤ 100 := by rw [List.length_map]; decide
  with_reducible refine px_return (d := .bool true) (pe_to ?_ (pe_eqD (a := .list ((placesL.map fun p => hitsL (dueN N) (plN p)).map fun l => .list (l.map .int))) (b := .list ((placesL.map fun p => hitsL (dueN N) (plN p)).map fun l => .list (l.map .int))) (pe_to ?_ (pe_map (z := true) (hitsD (rulesN N)) ?_ ?_ ?_ (pi_list (pe_name n3)) (fun d hd => ?_) ?_)) (pe_to ?_ (pe_map (z := true) (hitsD (dueN N)) ?_ ?_ ?_ (pi_list (pe_name n3)) (fun d hd => ?_) ?_)) ?_ ?_ ?_ ?_ ?_)) rfl
  · exact congrArg D.bool (PySem.SeqAt.eqv_refl _ (SeqAt.canLay_of_shaped (shaped_ll _)))
  · rw [key _ "", ee]
  · decide +kernel
  · decide +kernel
  · decide +kernel
  · obtain ⟨p, hp, rfl⟩ := List.mem_map.mp hd
    obtain ⟨q1, q2, q3⟩ := pl_len p hp
    show PE _ _ _ _ _ _ _ (.list ((hitsL (rulesN N) (plN p)).map .int))
    with_reducible refine pe_call g6 ?_ (pes_cons (pe_name (rc_free n1 ?_ ?_)) (pes_cons (pe_to (congrArg D.list (hdr p)) (pe_slice_list (ds := (Txt.split p "/").map .str) (lo := some 1) (hi := none) (st := none) (pe_m1 (x := p) (a := .str "/") (pe_name rc_self) pe_str (sm_split ?_ ?_)) ?_ ?_ ?_ ?_ ?_)) pes_nil)) (f6 _ _ lR q2 q3)
    · decide +kernel
    · decide +kernel
    · decide +kernel
    · decide +kernel
    · omega
    · exact pe_int
    · trivial
    · trivial
    · intro e; cases e
    · rw [hdr, List.length_map, List.length_map]; unfold plN; rw [List.length_drop]; omega
  · decide
  · rw [key _ ""]
  · decide +kernel
  · decide +kernel
  · decide +kernel
  · obtain ⟨p, hp, rfl⟩ := List.mem_map.mp hd
    obtain ⟨q1, q2, q3⟩ := pl_len p hp
    show PE _ _ _ _ _ _ _ (.list ((hitsL (dueN N) (plN p)).map .int))
    with_reducible refine pe_call g6 ?_ (pes_cons (pe_name (rc_free n2 ?_ ?_)) (pes_cons (pe_to (congrArg D.list (hdr p)) (pe_slice_list (ds := (Txt.split p "/").map .str) (lo := some 1) (hi := none) (st := none) (pe_m1 (x := p) (a := .str "/") (pe_name rc_self) pe_str (sm_split ?_ ?_)) ?_ ?_ ?_ ?_ ?_)) pes_nil)) (f6 _ _ lD q2 q3)
    · decide +kernel
    · decide +kernel
    · decide +kernel
    · decide +kernel
    · omega
    · exact pe_int
    · trivial
    · trivial
    · intro e; cases e
    · rw [hdr, List.length_map, List.length_map]; unfold plN; rw [List.length_drop]; omega
  · decide
  · omega
  · exact (by simp only [okP]; exact okPs_ll _)
  · exact (by simp only [okP]; exact okPs_ll _)
  · exact shaped_ll _
  · exact shaped_ll _
end
end Mine
end

section
open PySem PySem.W PySem.Calls PyProof.Rows
set_option Elab.async false
set_option linter.unusedVariables false
set_option linter.unusedSectionVars false
set_option maxRecDepth 10000
namespace Mine
variable [Star]
section
variable {prog : Program} {w : World} {B : Heap} {n : Nat} {s s' : Shared} {X : Nat → Prop} {sc : Scope} {env : Env} {ρ : Rho}

theorem Fs.kw {W : Nat → Prop} (f : Fs B env X s ρ) (k : Kw W X s s') (wx : ∀ b, W b → X b) (nw : ∀ b, W b → ¬ Mut env ρ b) : Fs B env X s' ρ := by
  have nl : ¬ W env.locals := fun q => nw _ q (.inl rfl)
  have nc : ∀ x c, env.cells.lookup x = some c → ¬ W c := fun x c e q => nw _ q (.inr (.inl ⟨x, e⟩))
  refine ⟨k.cx f.cx wx, ⟨fun y d e => ?_, fun p hp => ?_⟩, f.lx, f.ln, let ⟨m, hm⟩ := f.lm; ⟨m, hm.at' fun o e => k.kp _ o nl f.ln e⟩, fun y c e => ?_, f.inj, f.dis⟩
  · obtain ⟨c1, b1⟩ := f.vs.nm y d e
    refine ⟨?_, b1⟩
    rcases c1 with ⟨a1, a2, m, u, a3, a4, a5⟩ | ⟨c, u, a1, a2, a3, a4, a5⟩
    · exact .inl ⟨a1, a2, m, u, a3.at' fun o e => k.kp _ o nl a2 e, a4, k.tl f.cx wx a5⟩
    · exact .inr ⟨c, u, a1, a2, a3, let ⟨ob, e1, e2⟩ := a4; ⟨ob, k.kp _ ob (nc y c a2) a3 e1, e2⟩, k.tl f.cx wx a5⟩
  · obtain ⟨⟨q1, q2, us, q3, q4, q5⟩, q6⟩ := f.vs.own p hp
    exact ⟨⟨q1, q2, us, q3.at fun o e => k.kp _ o (fun z => nw _ z (.inr (.inr ⟨p, hp, rfl⟩))) q2 e, q4, k.tls f.cx wx q5⟩, q6⟩
  · obtain ⟨q1, q2, u, ob, e1, e2⟩ := f.cel y c e
    exact ⟨q1, q2, u, ob, k.kp _ ob (nc y c e) q2 e1, e2⟩

theorem Fs.wup {W X' : Nat → Prop} (f : Fs B env X s ρ) (k : ∀ b o, ¬ W b → s.heap.get? b = some o → s'.heap.get? b = some o) (hg : s'.gens = s.gens) (wx : ∀ b, W b → X b) (wt : ¬ W Mine.tb) (nw : ∀ b, W b → ¬ Mut env ρ b) (x1 : ∀ b, X b → X' b) (x2 : ∀ b, X' b → X b ∨ s.heap.objs.size ≤ b) (lt : ∀ b, X' b → b < s'.heap.objs.size) : Fs B env X' s' ρ := by
  have nl : ¬ W env.locals := fun q => nw _ q (.inl rfl)
  have nc : ∀ x c, env.cells.lookup x = some c → ¬ W c := fun x c e q => nw _ q (.inr (.inl ⟨x, e⟩))
  have c := f.cx
  have tl : ∀ {v d}, Tl s.heap X v d → Tl s'.heap X' v d := fun t => t.move (fun b o n e => k b o (fun z => n (wx b z)) e) x2
  have tls : ∀ {v d}, Tls s.heap X v d → Tls s'.heap X' v d := fun t => t.move (fun b o n e => k b o (fun z => n (wx b z)) e) x2
  have cx' : Cx B X' s' := ⟨fun b o e => k b o (fun z => by rw [c.xb b (wx b z)] at e; cases e) (c.base b o e), lt, fun b q => (x2 b q).elim (c.xb b) fun z => by
    cases e : B.get? b with
    | none => rfl
    | some o => exact absurd (Heap.lt_size (c.base b o e)) (Nat.not_lt.mpr z), x1 _ c.tb, c.ti.move (fun b o q e => k b o (fun z => q.elim (fun q => q (wx b z)) fun q => wt (q ▸ z)) e) x2, by rw [hg]; exact c.gn⟩
  refine ⟨cx', ⟨fun y d e => ?_, fun p hp => ?_⟩, x1 _ f.lx, f.ln, let ⟨m, hm⟩ := f.lm; ⟨m, hm.at' fun o e => k _ o nl e⟩, fun y c e => ?_, f.inj, f.dis⟩
  · obtain ⟨c1, b1⟩ := f.vs.nm y d e
    refine ⟨?_, b1⟩
    rcases c1 with ⟨a1, a2, m, u, a3, a4, a5⟩ | ⟨c, u, a1, a2, a3, a4, a5⟩
    · exact .inl ⟨a1, a2, m, u, a3.at' fun o e => k _ o nl e, a4, tl a5⟩
    · exact .inr ⟨c, u, a1, a2, a3, let ⟨ob, e1, e2⟩ := a4; ⟨ob, k _ ob (nc y c a2) e1, e2⟩, tl a5⟩
  · obtain ⟨⟨q1, q2, us, q3, q4, q5⟩, q6⟩ := f.vs.own p hp
    exact ⟨⟨x1 _ q1, q2, us, q3.at fun o e => k _ o (fun z => nw _ z (.inr (.inr ⟨p, hp, rfl⟩))) e, q4, tls q5⟩, q6⟩
  · obtain ⟨q1, q2, u, ob, e1, e2⟩ := f.cel y c e
    exact ⟨x1 _ q1, q2, u, ob, k _ ob (nc y c e) e1, e2⟩

structure Sx (sg sf sd rf sc rc : Nat) (h : Heap) (cs : List Nat) : Prop where
  nod : [sg, sf, sd, rf, sc, rc].Nodup
  sf : ∃ o, h.get? sf = some o ∧ o.cls = .type "function" ∧ o.dict = some sd ∧ ∃ fd, o.data = .func fd
  sd : ∃ mS, h.Ns sd mS ∧ mS "read" = some (.ref rf)
  lam : LamAt h rf sc rc
  sc : h.IsCell sc (some (.ref sg))
  sg : ∃ vs : List Value, h.PlainList sg vs.toArray ∧ StrsAre vs (cs.map chS) ∧ cs.length ≤ 100000
  asc : ∀ c ∈ cs, c < 128

theorem strs_of_signs : ∀ {vs : List Value} {cs : List Nat}, vs.length = cs.length → (∀ (j : Nat) (v : Value), vs[j]? = some v → ∃ c u, cs[j]? = some c ∧ v = .str ⟨#[c]⟩ u) → StrsAre vs (cs.map chS)
  | [], [], _, _ => .nil
  | v :: vs, c :: cs, hl, h => by
    obtain ⟨c', u, e1, rfl⟩ := h 0 v rfl
    cases e1
    exact .cons _ u (strs_of_signs (by simpa using hl) fun j v e => h (j + 1) v e)

theorem sw31 {p3 p4 p5 p6 p8 p9 : Pos} {v2 : Expr} (eo : Eo (fsc 31) env) : swappedStores [.Tuple [.Name "signs" ⟨258, 4, 258, 9⟩, .Name "stream" ⟨258, 11, 258, 17⟩] 0 p3] (.Tuple [.Call (.Name "list" p4) [.Name "text" p5] [] p6, .Lambda ⟨[], [], none, [], [], none, []⟩ v2 ⟨.function, [], false, false, []⟩ p8] 0 p9) env = pure none := by
  obtain ⟨scope, a1, a2, a3, a4, a5, a6, a7⟩ := env
  have e : scope = fsc 31 := eo.iss
  subst e
  with_unfolding_all rfl
theorem st_callC {a cC P : Nat} (gs : Gr B 31 "_law_stream" a ["text"]) (hlist : GlobBlt B "list" (.type "list")) (hcd : ∀ o fd, B.get? a = some o → o.data = .func fd → fd.code = .ref cC) (C : CodeHd B cC P) (hba : ∃ mg, B.Ns mainGlobals mg ∧ B.BuiltinsAt mg P) (hPm : mainGlobals ≠ P) (hPt : P ≠ Mine.tb)
    {A : Around} {R : Result → Shared → Prop} (r : Room 6 A) (c : Cx B X s) (hX : X P) (hP : s.heap.get? P = some (tabObj #[])) {x : Str} {t : Tok} (hx : x.cps.size ≤ 50000) (ha : ∀ c ∈ x.cps.toList, c < 128)
    (k : ∀ s' sg sf sd rf sc rc, Kw (· = P) X s s' → Sx sg sf sd rf sc rc s'.heap x.cps.toList → (∀ b ∈ [sg, sf, sd, rf, sc, rc], s.heap.objs.size ≤ b ∧ b < s'.heap.objs.size) → TI s'.heap (fun b => X b ∨ b ∈ [sg, sf, sd, rf, sc, rc]) → (∃ ps, s'.heap.get? P = some (tabObj ps)) → R (.ok (.ret (.ref sf))) s') :
    codeAny (model prog w) A (.call (.ref a) ⟨[.str x t], []⟩) R s := by
  obtain ⟨o', fd, h1, h2, h3, h4, h5, h6, h7, h8, h10, h9⟩ := gs.at_
  refine fa_enterK (n := 5) (ps := [("text", .str x)]) h1 h2 gs.lim h3 h4 h6 h7 h8 (fun vs hv => h9 vs (by simpa using hv)) (by rw [h5]; exact gs.ok) (by rw [h5]; exact h10) r c (.cons (.str x t) .nil) fun A' env E' s₁ X' r' eo fs kp e1 e2 e3 sz x1 x2 hm hnc hcode => ?_
  rw [h5] at eo
  rw [hcd o' fd h1 h2] at hcode
  obtain ⟨mg, hmg, hba⟩ := hba
  have hPlt : P < s.heap.objs.size := c.xlt _ hX
  have hPnm : ∀ ρ', (∀ b, Mut env ρ' b → s.heap.objs.size ≤ b) → ∀ b, b = P → ¬ Mut env ρ' b := fun ρ' hM b e q => by have := hM b q; rw [e] at this; exact Nat.lt_irrefl _ (Nat.lt_of_lt_of_le hPlt this)
  rw [show fb 31 = [.Assign [.Tuple [.Name "signs" _, .Name "stream" _] 0 _] (.Tuple [.Call (.Name "list" _) [.Name "text" _] [] _, .Lambda ⟨[], [], none, [], [], none, []⟩ (.Constant .none 0 _) ⟨.function, [], false, false, []⟩ _] 0 _) _,
    .Assign [.Attribute (.Name "stream" _) "read" _] lamE _, .Return (some (.Name "stream" _)) _] from rfl]
  have htext : (rho [("text", .str x)]).nm "text" = some (.str x) := rfl
  have hgl := hmg
  refine wpAny_execs_cons (Assign_Tuple (Tuple_ (spliced_more (wpAny_Call_NameR (name_builtin eo fs.cx (by decide +kernel) hlist ?_ (by decide +kernel))) rfl)) (by rfl) (sw31 eo))
  refine PyProof.Rows.callWith_type rfl (Calls.evalArgs_plain (Calls.spliced_cons (pe_name (n := 5) (sc := fsc 31) htext A' env _ s₁ X' _ r' eo fs.cx fs.vs fun u s2 k2 t2 => Calls.spliced_nil ?_)))
  cases t2 using Tl.strE with
  | str t2 =>
  have f2 := k2.fs fs
  refine call_list_str r'.hand x t2 (fun h3 tk3 acc c3 kp3 hacc hit => ?_) (by rw [sizeLine_eq]; lia)
  have sz3 : s2.heap.objs.size < h3.objs.size := ltz hacc
  have k3 : Ks X' s2 { s2 with heap := h3, toks := tk3 } := Ks.of kp3 (Nat.le_of_lt sz3)
  obtain ⟨X1, hX1⟩ : ∃ Z : Nat → Prop, Z = fun b => X' b ∨ b = s2.heap.objs.size := ⟨_, rfl⟩
  have f3 : Fs B env X1 { s2 with heap := h3, toks := tk3 } (rho [("text", .str x)]) := by
    rw [hX1]
    exact Fs.wup (W := fun _ => False) f2 (fun b o _ e => kp3 b o e) rfl (fun _ q => q.elim) id (fun _ q => q.elim) (fun b q => .inl q) (fun b q => q.imp_right fun (e : b = s2.heap.objs.size) => Nat.le_of_eq e.symm) fun b q => by
      show b < h3.objs.size
      rcases q with q | q
      · exact Nat.lt_trans (f2.cx.xlt b q) sz3
      · rw [q]; exact sz3
  have x10 : ∀ b, X' b → X1 b := fun b q => by rw [hX1]; exact .inl q
  have x1a : ∀ b, X b → X1 b := fun b q => x10 b (x1 b q)
  have hsgX : X1 s2.heap.objs.size := by rw [hX1]; exact .inr rfl
  have hP2 : s2.heap.get? P = some (tabObj #[]) := k2.kp _ _ hPt (kp _ _ hP)
  have hP3 : h3.get? P = some (tabObj #[]) := kp3 _ _ hP2
  generalize hsg : s2.heap.objs.size = sg at *
  refine spliced_more ?_ rfl
  have C3 := CodeHd.up C f3.cx.base
  have ba3 := BuiltinsAt.up hba f3.cx.base
  have hmg3 : h3.Ns mainGlobals mg := hmg.keeps f3.cx.base
  refine kla_eval rfl ?_
  refine kla_makeFunction (closure_eq fun y hy => by cases hy) eo.glob hmg3 hcode C3 hP3 trivial rfl hPm ba3 fun c4 ctv4 h4' tk4 hx4 hge4 hlt4 hrec4 htab4 => ?_
  have hn4 : ¬ (fun b => b = P) Mine.tb := fun e => hPt e.symm
  have sz4 : h3.objs.size ≤ h4'.objs.size := Nat.le_trans hge4 (Nat.le_of_lt hlt4)
  have k4 : Kw (fun b => b = P) X1 { s2 with heap := h3, toks := tk3 } { s2 with heap := h4'.push (kla_obj "<lambda>" (env.qual ++ "<lambda>") ⟨[], [], none, [], [], none, []⟩ (.Constant .none 0 ⟨258, 41, 258, 45⟩) ⟨.function, [], false, false, []⟩ (clOf env [] []) ((mg "__name__").getD .none) c4 ctv4), toks := tk4 } :=
    Kw.of (s := { s2 with heap := h3, toks := tk3 }) (fun b e => by rw [e]; exact x1a _ hX) hn4 (fun b o nb e => Heap.get?_push_of_some _ (hx4 b o nb e)) (by rw [Heap.size_push]; exact Nat.le_succ_of_le sz4)
  have f4 := f3.kw k4 (fun b e => by rw [e]; exact x1a _ hX) (hPnm _ hm)
  have hsf4 : (h4'.push (kla_obj "<lambda>" (env.qual ++ "<lambda>") ⟨[], [], none, [], [], none, []⟩ (.Constant .none 0 ⟨258, 41, 258, 45⟩) ⟨.function, [], false, false, []⟩ (clOf env [] []) ((mg "__name__").getD .none) c4 ctv4)).get? h4'.objs.size = some _ := Heap.get?_push_size _ rfl
  have hP4 := Heap.get?_push_of_some (kla_obj "<lambda>" (env.qual ++ "<lambda>") ⟨[], [], none, [], [], none, []⟩ (.Constant .none 0 ⟨258, 41, 258, 45⟩) ⟨.function, [], false, false, []⟩ (clOf env [] []) ((mg "__name__").getD .none) c4 ctv4) htab4
  have hsgF4 : (h4'.push (kla_obj "<lambda>" (env.qual ++ "<lambda>") ⟨[], [], none, [], [], none, []⟩ (.Constant .none 0 ⟨258, 41, 258, 45⟩) ⟨.function, [], false, false, []⟩ (clOf env [] []) ((mg "__name__").getD .none) c4 ctv4)).get? sg = some _ := k4.kp sg _ (fun e => by
    have e' : sg = P := e
    rw [← hsg] at e'
    have := f2.cx.xlt _ (x1 _ hX)
    rw [e'] at this
    exact Nat.lt_irrefl _ this) (fun e => by
    have e' : sg = Mine.tb := e
    rw [← hsg] at e'
    have := f2.cx.xlt _ f2.cx.tb
    rw [e'] at this
    exact Nat.lt_irrefl _ this) hacc
  have hszf : (h4'.push (kla_obj "<lambda>" (env.qual ++ "<lambda>") ⟨[], [], none, [], [], none, []⟩ (.Constant .none 0 ⟨258, 41, 258, 45⟩) ⟨.function, [], false, false, []⟩ (clOf env [] []) ((mg "__name__").getD .none) c4 ctv4)).objs.size = h4'.objs.size + 1 := Heap.size_push ..
  generalize hH4 : h4'.push (kla_obj "<lambda>" (env.qual ++ "<lambda>") ⟨[], [], none, [], [], none, []⟩ (.Constant .none 0 ⟨258, 41, 258, 45⟩) ⟨.function, [], false, false, []⟩ (clOf env [] []) ((mg "__name__").getD .none) c4 ctv4) = H4 at *
  generalize hsfv : h4'.objs.size = sf at *
  have hsfn : s2.heap.objs.size ≤ sf := by rw [hsg]; exact Nat.le_of_lt (Nat.lt_of_lt_of_le sz3 sz4)
  have f4u : Fs B env (fun b => X1 b ∨ b = sf) { s2 with heap := H4, toks := tk4 } (rho [("text", .str x)]) := Fs.wup (W := fun b => b = P) (s := { s2 with heap := h3, toks := tk3 }) f3 (fun b o nb e => by rw [← hH4]; exact Heap.get?_push_of_some _ (hx4 b o nb e)) rfl (fun b e => by rw [e]; exact x1a _ hX) hn4 (hPnm _ hm) (fun b q => .inl q) (fun b q => q.imp_right fun (q : b = sf) => by rw [q]; exact sz4) (fun b q => by
    show b < H4.objs.size
    rw [hszf]
    rcases q with q | q
    · exact Nat.lt_of_lt_of_le (Nat.lt_of_lt_of_le (f3.cx.xlt b q) sz4) (Nat.le_succ _)
    · rw [q]; exact Nat.lt_succ_self _)
  clear f4 k4
  generalize hX2 : (fun b => X1 b ∨ b = sf) = X2 at *
  have x1' : ∀ b, X b → X2 b := fun b q => by rw [← hX2]; exact .inl (x1a b q)
  have hsfX : X2 sf := by rw [← hX2]; exact .inr rfl
  have f4 := f4u
  show wpAny _ _ (pure []) _ _ _
  refine wpAny_pure (wpAny_newObj_type ?_ (by show (2 : Nat) ≤ sizeLine; rw [sizeLine_eq]; decide))
  have k5 : Ks X2 { s2 with heap := H4, toks := tk4 } { s2 with heap := H4.push { cls := .type "tuple", data := .seq [Value.ref sg, .ref sf].toArray }, toks := tk4 } := Ks.push _ _ _
  have f5 := k5.fs f4
  have t5 : Tl (H4.push { cls := .type "tuple", data := .seq [Value.ref sg, .ref sf].toArray }) X2 (.ref H4.objs.size) (.tup [.rf sg, .rf sf]) :=
    .tup ⟨_, Heap.get?_push_size _ rfl, rfl, ⟨_, rfl⟩⟩ (fun q => Nat.lt_irrefl _ (f4.cx.xlt _ q)) (by simp) (.cons (.rf sg) (.cons (.rf sf) .nil))
  refine as_tupT (sc := fsc 31) (n := 5) (by show tgOk (fsc 31) _ 2 = true; decide +kernel) A' env _ _ X2 _ _ _ r' eo f5 t5 fun s6 k6 oi6 f6 => ?_
  show wpAny _ _ (execs _ env) _ _ _
  have hsgP : s.heap.objs.size ≤ sg := by rw [← hsg]; exact Nat.le_trans sz k2.sz
  have hsgsf : sg < sf := Nat.lt_of_lt_of_le sz3 sz4
  have hlt6 : ∀ b, b < H4.objs.size → s.heap.objs.size ≤ b → (∀ y, env.cells.lookup y ≠ some b) → b ≠ env.locals → ¬ Mut env (rho [("text", .str x)]) b := fun b _ _ h3 h4 q => by
    rcases q with q | ⟨y, q⟩ | ⟨p, hp, _⟩
    · exact h4 q
    · exact h3 y q
    · cases hp
  have hfrsg : ∀ b, sg ≤ b → ¬ Mut env (rho [("text", .str x)]) b := fun b hb q => by
    have hlt := Nat.lt_of_lt_of_le (f2.cx.xlt _ (Mut.inX f2 q)) (Nat.le_of_eq hsg)
    exact Nat.lt_irrefl _ (Nat.lt_of_lt_of_le hlt hb)
  have htb6 : ∀ b, s.heap.objs.size ≤ b → b ≠ Mine.tb := fun b hb e => by
    have := c.xlt _ c.tb
    rw [← e] at this
    exact Nat.lt_irrefl _ (Nat.lt_of_lt_of_le this hb)
  have hsg6 := k6.kp sg _ (hfrsg sg (Nat.le_refl _)) (htb6 _ hsgP) (Heap.get?_push_of_some { cls := .type "tuple", data := .seq [Value.ref sg, .ref sf].toArray } hsgF4)
  have hsf6 := k6.kp sf _ (hfrsg sf (Nat.le_of_lt hsgsf)) (htb6 _ (Nat.le_trans hsgP (Nat.le_of_lt hsgsf))) (Heap.get?_push_of_some { cls := .type "tuple", data := .seq [Value.ref sg, .ref sf].toArray } hsf4)
  have hP6 := k6.kp P _ (hPnm _ hm P rfl) hPt (Heap.get?_push_of_some { cls := .type "tuple", data := .seq [Value.ref sg, .ref sf].toArray } hP4)
  have hsz6 : sf < s6.heap.objs.size := by
    have := Heap.lt_size hsf6
    exact this
  obtain ⟨cA, hcA, hcAt⟩ := eo.cells "signs" (.inl (by decide +kernel))
  have C6 := CodeHd.up C f6.cx.base
  have ba6 := BuiltinsAt.up hba f6.cx.base
  have hmg6 : s6.heap.Ns mainGlobals mg := hmg.keeps f6.cx.base
  refine wpAny_execs_cons (plainObj_wpAny_Assign_Attribute (kla_eval rfl ?_) rfl)
  refine kla_makeFunction (closure_eq fun y hy => ?_) eo.glob hmg6 hcode C6 hP6 ?_ ?_ hPm ba6 fun c7 ctv7 h7' tk7 hx7 hge7 hlt7 hrec7 htab7 => ?_
  · simp at hy
    rw [hy, hcA]; rfl
  · trivial
  · rfl
  have hcl : clOf env [(("many" : Str), .local), (("signs" : Str), .free)] [] = [(("signs" : Str), cA)] := by
    show [(("signs" : Str), (env.cells.lookup ("signs" : Str)).getD 0)] = _
    rw [hcA]; rfl
  have hcl' : clOf env lamSc.names [] = [(("signs" : Str), cA)] := hcl
  have sz7 : s6.heap.objs.size ≤ h7'.objs.size := Nat.le_trans hge7 (Nat.le_of_lt hlt7)
  generalize hob : kla_obj "<lambda>" (env.qual ++ "<lambda>") _ _ _ _ _ c7 ctv7 = ob7
  have k7 : Kw (fun b => b = P) X2 s6 { s6 with heap := h7'.push ob7, toks := tk7 } :=
    Kw.of (s := s6) (fun b e => by rw [e]; exact x1' _ hX) hn4 (fun b o nb e => Heap.get?_push_of_some _ (hx7 b o nb e)) (by rw [Heap.size_push]; exact Nat.le_succ_of_le sz7)
  have hM6 : ∀ b, Mut env ((rho [("text", .str x)]).set "signs" (.rf sg) |>.set "stream" (.rf sf)) b → Mut env (rho [("text", .str x)]) b := fun b q => q.imp_right fun q => q.imp_right fun ⟨p, hp, e⟩ => by cases hp
  obtain ⟨X3, hX3⟩ : ∃ Z : Nat → Prop, Z = fun b => X2 b ∨ b = h7'.objs.size ∨ b = c7 := ⟨_, rfl⟩
  have f7 : Fs B env X3 { s6 with heap := h7'.push ob7, toks := tk7 } ((rho [("text", .str x)]).set "signs" (.rf sg) |>.set "stream" (.rf sf)) := by
    rw [hX3]
    exact Fs.wup (W := fun b => b = P) f6 (fun b o nb e => Heap.get?_push_of_some _ (hx7 b o nb e)) rfl (fun b e => by rw [e]; exact x1' _ hX) hn4 (fun b e q => hPnm _ hm b e (hM6 b q)) (fun b q => .inl q) (fun b q => by
      rcases q with q | q | q
      · exact .inl q
      · exact .inr (by rw [q]; exact sz7)
      · exact .inr (by rw [q]; exact hge7)) fun b q => by
      show b < (h7'.push ob7).objs.size
      rw [Heap.size_push]
      rcases q with q | q | q
      · exact Nat.lt_succ_of_lt (Nat.lt_of_lt_of_le (f6.cx.xlt b q) sz7)
      · rw [q]; exact Nat.lt_succ_self _
      · rw [q]; exact Nat.lt_succ_of_lt hlt7
  have x3 : ∀ b, X2 b → X3 b := fun b q => by rw [hX3]; exact .inl q
  have hrfX : X3 h7'.objs.size := by rw [hX3]; exact .inr (.inl rfl)
  have hrcX : X3 c7 := by rw [hX3]; exact .inr (.inr rfl)
  have neP : ∀ b, s.heap.objs.size ≤ b → ¬ (b = P) := fun b hb e => by rw [e] at hb; exact Nat.lt_irrefl _ (Nat.lt_of_lt_of_le hPlt hb)
  have hsg7 := k7.kp sg _ (neP _ hsgP) (htb6 _ hsgP) hsg6
  have hsf7 := k7.kp sf _ (neP _ (Nat.le_trans hsgP (Nat.le_of_lt hsgsf))) (htb6 _ (Nat.le_trans hsgP (Nat.le_of_lt hsgsf))) hsf6
  have hstr : ((rho [("text", .str x)]).set "signs" (.rf sg) |>.set "stream" (.rf sf)).nm "stream" = some (.rf sf) := rfl
  refine pe_name (n := 5) (sc := fsc 31) hstr A' env _ _ X3 _ r' eo f7.cx f7.vs fun u8 s8 k8 t8 => ?_
  cases t8 using Tl.rfE
  have f8 := k8.fs f7
  have hsg8 := k8.kp sg _ (htb6 _ hsgP) hsg7
  have hsf8 := k8.kp sf _ (htb6 _ (Nat.le_trans hsgP (Nat.le_of_lt hsgsf))) hsf7
  have hrf7 : (h7'.push ob7).get? h7'.objs.size = some ob7 := by rw [← hob]; exact Heap.get?_push_size _ rfl
  have hsz7 : (h7'.push ob7).objs.size = h7'.objs.size + 1 := Heap.size_push ..
  generalize hrfv : h7'.objs.size = rf at *
  have hsfrf : sf < c7 := Nat.lt_of_lt_of_le hsz6 hge7
  have hgr : s.heap.objs.size ≤ rf := Nat.le_trans hsgP (Nat.le_of_lt (Nat.lt_trans hsgsf (Nat.lt_trans hsfrf hlt7)))
  have hrf8 := k8.kp rf _ (htb6 _ hgr) hrf7
  obtain ⟨c7', oc7, vs7, t7, q1, q2, q3, q4⟩ := hrec7
  cases q1
  have hgc : s.heap.objs.size ≤ c7 := Nat.le_trans hsgP (Nat.le_of_lt (Nat.lt_trans hsgsf hsfrf))
  have hrc8 := k8.kp c7 _ (htb6 _ hgc) (Heap.get?_push_of_some ob7 q2)
  have hsz8 : rf < s8.heap.objs.size := Heap.lt_size hrf8
  refine setAttr_read hsf8 fun h9 tk9 hf9 hd9 kp9 sz9 => ?_
  have hsfg : s.heap.objs.size ≤ sf := Nat.le_trans hsgP (Nat.le_of_lt hsgsf)
  obtain ⟨X4, hX4⟩ : ∃ Z : Nat → Prop, Z = fun b => X3 b ∨ b = s8.heap.objs.size := ⟨_, rfl⟩
  have x4 : ∀ b, X3 b → X4 b := fun b q => by rw [hX4]; exact .inl q
  have hsdX : X4 s8.heap.objs.size := by rw [hX4]; exact .inr rfl
  have f9 : Fs B env X4 { s8 with heap := h9, toks := tk9 } ((rho [("text", .str x)]).set "signs" (.rf sg) |>.set "stream" (.rf sf)) := by
    rw [hX4]
    exact Fs.wup (W := fun b => b = sf) f8 (fun b o nb e => kp9 b o nb e) rfl (fun b e => by rw [e]; exact x3 _ hsfX) (fun e => htb6 _ hsfg e.symm) (fun b e q => hfrsg b (by rw [e]; exact Nat.le_of_lt hsgsf) (hM6 b q)) (fun _ q => .inl q) (fun b q => q.imp_right fun (e : b = s8.heap.objs.size) => Nat.le_of_eq e.symm) fun b q => by
      show b < h9.objs.size
      rcases q with q | q
      · exact Nat.lt_of_lt_of_le (f8.cx.xlt b q) sz9
      · rw [q]; exact hd9.lt
  refine wpAny_execs_cons (wpAny_Return_some (pe_name (n := 5) (sc := fsc 31) hstr A' env _ _ X4 _ r' eo f9.cx f9.vs fun u10 s10 k10 t10 => ?_))
  cases t10 using Tl.rfE
  have kpA : ∀ b o, b ≠ P → b ≠ Mine.tb → s.heap.get? b = some o → s10.heap.get? b = some o := fun b o n1 n2 e => by
    have hb := Heap.lt_size e
    have nM : ¬ Mut env (rho [("text", .str x)]) b := fun q => Nat.lt_irrefl _ (Nat.lt_of_lt_of_le hb (hm b q))
    have nsf : b ≠ sf := fun z => by rw [z] at hb; exact Nat.lt_irrefl _ (Nat.lt_of_lt_of_le hb hsfg)
    have e3 := kp3 b o (k2.kp b o n2 (kp b o e))
    have e4 : H4.get? b = some o := by rw [← hH4]; exact Heap.get?_push_of_some _ (hx4 b o n1 e3)
    have e6 := k6.kp b o nM n2 (Heap.get?_push_of_some _ e4)
    exact k10.kp b o n2 (kp9 b o nsf (k8.kp b o n2 (k7.kp b o n1 n2 e6)))
  have up10 : ∀ b, s.heap.objs.size ≤ b → b ≠ sf → ∀ o, s8.heap.get? b = some o → s10.heap.get? b = some o := fun b hb n o e => k10.kp b o (htb6 _ hb) (kp9 b o n e)
  have sz10 : s8.heap.objs.size < s10.heap.objs.size := Nat.lt_of_lt_of_le hd9.lt k10.sz
  have hsd : s.heap.objs.size ≤ s8.heap.objs.size := Nat.le_trans hgr (Nat.le_of_lt hsz8)
  have f10 := k10.fs f9
  obtain ⟨v1, _⟩ := f10.vs.nm "signs" (.rf sg) rfl
  have hcell : s10.heap.IsCell cA (some (.ref sg)) := by
    rcases v1 with ⟨q1, _⟩ | ⟨cB, u, q1, q2, q3, q4, q5⟩
    · exact absurd q1 (by unfold Env.kindOf; rw [eo.iss]; decide +kernel)
    · rw [hcA] at q2
      cases q2
      cases q5 using Tl.rfE
      exact q4
  have hcAs : s.heap.objs.size ≤ cA := hm cA (.inr (.inl ⟨_, hcA⟩))
  have hcAsg : cA < sg := by rw [← hsg]; exact f2.cx.xlt _ (f2.cel _ _ hcA).1
  have hk10 : Kw (fun b => b = P) X s s10 := by
    refine ⟨?_, ?_, kpA, ?_, fun _ => ?_, fun _ => f10.cx.gn⟩
    · exact k10.os.trans (k8.os.trans (k7.os.trans (k6.os.trans (k2.os.trans e1))))
    · exact k10.dr.trans (k8.dr.trans (k7.dr.trans (k6.dr.trans (k2.dr.trans e2))))
    · exact Nat.le_trans hsd (Nat.le_of_lt sz10)
    · exact f10.cx.ti.move (fun _ _ _ e => e) fun b q => .inl (x4 b (x3 b (x1' b q)))
  have x20 : ∀ b, X1 b → X4 b := fun b q => x4 b (x3 b (by rw [← hX2]; exact .inl q))
  refine k s10 sg sf s8.heap.objs.size rf cA c7 hk10 ?_ ?_ ?_ ⟨_, k10.kp _ _ hPt (kp9 _ _ (fun e => neP sf hsfg e.symm) (k8.kp _ _ hPt (Heap.get?_push_of_some ob7 htab7)))⟩
  · have n1 : cA < sf := Nat.lt_trans hcAsg hsgsf
    have n2 : sf < rf := Nat.lt_trans hsfrf hlt7
    have n3 : sg < c7 := Nat.lt_trans hsgsf hsfrf
    have n4 : sg < rf := Nat.lt_trans hsgsf n2
    have n5 : c7 < s8.heap.objs.size := Nat.lt_trans hlt7 hsz8
    have n6 : sf < s8.heap.objs.size := Nat.lt_trans n2 hsz8
    have n7 : sg < s8.heap.objs.size := Nat.lt_trans hsgsf n6
    have n8 : cA < s8.heap.objs.size := Nat.lt_trans hcAsg n7
    have n9 : cA < c7 := Nat.lt_trans hcAsg n3
    have n10 : cA < rf := Nat.lt_trans n9 hlt7
    refine ⟨?_, ?_, ?_, ?_, hcell, ?_, ha⟩
    · simp only [List.nodup_cons, List.mem_cons, List.not_mem_nil, or_false, not_or, not_false_eq_true, List.nodup_nil, and_true]
      exact ⟨⟨Nat.ne_of_lt hsgsf, Nat.ne_of_lt n7, Nat.ne_of_lt n4, Nat.ne_of_gt hcAsg, Nat.ne_of_lt n3⟩, ⟨Nat.ne_of_lt n6, Nat.ne_of_lt n2, Nat.ne_of_gt n1, Nat.ne_of_lt hsfrf⟩, ⟨Nat.ne_of_gt hsz8, Nat.ne_of_gt n8, Nat.ne_of_gt n5⟩, ⟨Nat.ne_of_gt n10, Nat.ne_of_gt hlt7⟩, Nat.ne_of_lt n9⟩
    · exact ⟨_, k10.kp _ _ (htb6 _ hsfg) hf9, rfl, rfl, _, rfl⟩
    · exact ⟨_, hd9.at' fun o e => k10.kp _ o (htb6 _ hsd) e, if_pos rfl⟩
    · rw [← hob] at hrf8
      refine ⟨_, _, up10 rf hgr (Nat.ne_of_gt n2) _ hrf8, rfl, rfl, hcl', rfl, rfl, rfl, rfl, fun v => rfl, rfl, oc7, vs7, t7, up10 c7 hgc (Nat.ne_of_gt hsfrf) _ hrc8, q3, q4⟩
    · refine ⟨acc.toList, ⟨_, up10 sg hsgP (Nat.ne_of_lt hsgsf) _ (by simpa using hsg8)⟩, strs_of_signs (by simpa using hit.1) fun j v e => ?_, by simpa using Nat.le_trans hx (by decide)⟩
      obtain ⟨c', u, z1, z2⟩ := hit.2 j v (by simpa using e)
      exact ⟨c', u, by simpa using z1, z2⟩
  · intro b hb
    have q8 : ∀ b, b ≤ s8.heap.objs.size → b < s10.heap.objs.size := fun b h => Nat.lt_of_le_of_lt h sz10
    have n2 : sf < rf := Nat.lt_trans hsfrf hlt7
    simp only [List.mem_cons, List.not_mem_nil, or_false] at hb
    rcases hb with rfl | rfl | rfl | rfl | rfl | rfl
    · exact ⟨hsgP, q8 _ (Nat.le_of_lt (Nat.lt_trans hsgsf (Nat.lt_trans n2 hsz8)))⟩
    · exact ⟨hsfg, q8 _ (Nat.le_of_lt (Nat.lt_trans n2 hsz8))⟩
    · exact ⟨hsd, sz10⟩
    · exact ⟨hgr, q8 _ (Nat.le_of_lt hsz8)⟩
    · exact ⟨hcAs, q8 _ (Nat.le_of_lt (Nat.lt_trans hcAsg (Nat.lt_trans hsgsf (Nat.lt_trans n2 hsz8))))⟩
    · exact ⟨hgc, q8 _ (Nat.le_of_lt (Nat.lt_trans hlt7 hsz8))⟩
  · refine f10.cx.ti.move (fun _ _ _ e => e) fun b q => .inl ?_
    rcases q with q | q
    · exact x4 b (x3 b (x1' b q))
    · simp only [List.mem_cons, List.not_mem_nil, or_false] at q
      rcases q with rfl | rfl | rfl | rfl | rfl | rfl
      · exact x20 _ hsgX
      · exact x4 _ (x3 _ hsfX)
      · exact hsdX
      · exact x4 _ hrfX
      · exact x20 _ (x10 _ (f2.cel _ _ hcA).1)
      · exact x4 _ hrcX
end
end Mine
end

section
open PySem PySem.W PySem.Calls PyProof.Rows
set_option Elab.async false
set_option linter.unusedVariables false
set_option linter.unusedSectionVars false
set_option maxRecDepth 10000
namespace Mine
variable [Star]

structure IS (B : Heap) (C x dx : Nat) (s0 : Shared) (X : Nat → Prop) (env : Env) (s : Shared) (ρ : Rho) (mA : Str → Option Value) : Prop where
  fs : Fs B env X s ρ
  ins : s.heap.get? x = some (instObj C dx)
  ns : s.heap.Ns1 dx mA
  wi : Within mA lexNames
  xx : X x
  xd : X dx
  ne : x ≠ dx
  tbx : x ≠ Mine.tb
  tbd : dx ≠ Mine.tb
  mt : ∀ b, Mut env ρ b → s0.heap.objs.size ≤ b
  lx : x < s0.heap.objs.size
  ld : dx < s0.heap.objs.size
  kp : ∀ b o, b ≠ dx → b ≠ Mine.tb → s0.heap.get? b = some o → s.heap.get? b = some o
  os : s.os = s0.os
  dr : s.drawn = s0.drawn
  sz : s0.heap.objs.size ≤ s.heap.objs.size

section
variable {prog : Program} {w : World} {B : Heap} {n : Nat} {C fI fR fG fP : Nat} {s0 s s' : Shared} {X0 X : Nat → Prop} {sc : Scope} {env : Env} {ρ : Rho} {x dx : Nat} {mA : Str → Option Value}

theorem IS.ks (h : IS B C x dx s0 X env s ρ mA) (k : Ks X s s') : IS B C x dx s0 X env s' ρ mA where
  fs := k.fs h.fs
  ins := k.kp _ _ h.tbx h.ins
  ns := h.ns.at fun o e => k.kp _ o h.tbd e
  wi := h.wi
  xx := h.xx
  xd := h.xd
  ne := h.ne
  tbx := h.tbx
  tbd := h.tbd
  mt := h.mt
  lx := h.lx
  ld := h.ld
  kp := fun b o n1 n2 e => k.kp b o n2 (h.kp b o n1 n2 e)
  os := k.os.trans h.os
  dr := k.dr.trans h.dr
  sz := Nat.le_trans h.sz k.sz

theorem is_store (g : LexG B C fI fR fG fP) {A : Around} {E : Value → Shared → Prop} {Q : Unit → Shared → Prop} {name : Str} {v : Value} (hB : typeLookup (.type "object") name = pure none) (hn : name ∈ lexNames) (h : IS B C x dx s0 X env s ρ mA)
    (k : ∀ s', IS B C x dx s0 X env s' ρ (fun y => if y = name then some v else mA y) → (∀ b o, b ≠ dx → s.heap.get? b = some o → s'.heap.get? b = some o) → Q () s') : wpAny (model prog w) A (setAttr (.ref x) name v) Q E s := by
  obtain ⟨nm, q, N, bs, sn, sub, col, dd, k0, k1, k2, k3, k5, mN, h1, h2, h3, h4, h5, h6, h7, h8, h9, h10⟩ := g.cls
  obtain ⟨hp, gg, d, tk, os⟩ := s
  refine st_attr PySem.F.store_object (h.fs.cx.base _ _ h1) (h2.keeps h.fs.cx.base) h5 (h10 _ hn) hB h.ins rfl rfl h.ns (fun h' tk' hns hs => ?_) h.wi (by decide +kernel)
  have kp : ∀ b o, b ≠ dx → hp.get? b = some o → h'.get? b = some o := fun b o n2 e => hs.extBut b o n2 e
  have hz : hp.objs.size ≤ h'.objs.size := Nat.le_of_eq hs.1.symm
  refine k ⟨h', gg, d, tk', os⟩ { fs := ?_, ins := kp _ _ h.ne h.ins, ns := hns, wi := fun y hy => ?_, xx := h.xx, xd := h.xd, ne := h.ne, tbx := h.tbx, tbd := h.tbd, mt := h.mt, lx := h.lx, ld := h.ld, kp := fun b o n1 n2 e => kp b o n1 (h.kp b o n1 n2 e), os := h.os, dr := h.dr, sz := Nat.le_trans h.sz hz } kp
  · exact Fs.wup (W := fun b => b = dx) h.fs (fun b o n e => kp b o n e) rfl (fun b e => by rw [e]; exact h.xd) (fun e => h.tbd e.symm) (fun b e q => by have := h.mt b q; rw [e] at this; exact Nat.lt_irrefl _ (Nat.lt_of_lt_of_le h.ld this)) (fun _ q => q) (fun _ q => .inl q) fun b q => Nat.lt_of_lt_of_le (h.fs.cx.xlt b q) hz
  · by_cases q : y = name
    · rw [q]; exact hn
    · exact h.wi y (by simpa [q] using hy)

theorem is_line (g : LexG B C fI fR fG fP) {A : Around} {E : Value → Shared → Prop} {Q : Flow → Shared → Prop} {name : Str} {p ap pos : Pos} {e : Expr} {d : D} {more : List Stmt} (hB : typeLookup (.type "object") name = pure none) (hn : name ∈ lexNames) (r : Room n A) (o : Eo sc env) (h : IS B C x dx s0 X env s ρ mA)
    (he : PE prog w B n sc ρ e d) (hs : ρ.nm "self" = some (.rf x)) (hw : swapsWith e (some (.Attribute (.Name "self" p) name ap)) pos.line env = pure false)
    (k : ∀ v s', IS B C x dx s0 X env s' ρ (fun y => if y = name then some v else mA y) → Tl s'.heap X v d → wpAny (model prog w) A (execs more env) Q E s') :
    wpAny (model prog w) A (execs (.Assign [.Attribute (.Name "self" p) name ap] e pos :: more) env) Q E s :=
  wpAny_execs_cons (plainObj_wpAny_Assign_Attribute (he A env E s X _ r o h.fs.cx h.fs.vs fun v s1 k1 t1 => pe_name (n := n) (sc := sc) hs A env E s1 X _ r o (h.ks k1).fs.cx (h.ks k1).fs.vs fun u s2 k2 t2 => by
    cases t2 using Tl.rfE
    have h2 := (h.ks k1).ks k2
    exact is_store g hB hn h2 fun s3 h3 kp3 => k v s3 h3 ((k2.tl (h.ks k1).fs.cx t1).move (fun b ob nb e => kp3 b ob (fun z => nb (z ▸ h.xd)) e) fun _ q => .inl q)) hw)

theorem in_callC (g : LexG B C fI fR fG fP) {A : Around} {R : Result → Shared → Prop} {sg sf sd rf sc rc : Nat} {cs : List Nat} (r : Room 6 A) (c : Cx B X s) (hx : s.heap.get? x = some (instObj C dx)) (hd : s.heap.get? dx = some emptyDict) (xx : X x) (xd : X dx) (ne : x ≠ dx) (tx : x ≠ Mine.tb) (td : dx ≠ Mine.tb)
    (k : ∀ s' pb mA, Kw (fun b => b = dx) X s s' → s'.heap.get? x = some (instObj C dx) → s'.heap.Ns1 dx mA → Within mA lexNames → (∃ t, mA "lineno" = some (.int 1 t)) → mA "instream" = some (.ref sf) → (∃ t, mA "whitespace" = some (.str wsT t)) → mA "pushback" = some (.ref pb) → s'.heap.PlainList pb #[] → s.heap.objs.size ≤ pb → pb < s'.heap.objs.size → R (.ok (.ret .none)) s') :
    codeAny (model prog w) A (.call (.ref fI) ⟨[.ref x, .ref sf], []⟩) R s := by
  obtain ⟨o', fd, h1, hc, h2, h3, h4, h5, h6, h7, h8, h9⟩ := g.init.at_
  refine fa_enterC (n := 5) (ps := [("self", .rf x), ("fp", .rf sf)]) h1 h2 g.lim h3 h4 h6 h7 h8 (fun vs hv => h9 vs (by simpa using hv)) (by rw [h5]; exact g.init.ok) (by rw [h5, g.init.nq]; intro q; cases q) r c (.cons (.rf x) (.cons (.rf sf) .nil)) fun A' env E' s₁ X' r' eo fs kp e1 e2 e3 sz x1 x2 hm hnc => ?_
  rw [h5] at eo
  have hns : s₁.heap.Ns1 dx fun _ => none := Heap.Ns1.of_empty ⟨_, #[], 0, kp _ _ hd, rfl, (by intro b hb; simp at hb), (by intro nm; rfl)⟩
  have I1 : IS B C x dx s X' env s₁ (rho [("self", .rf x), ("fp", .rf sf)]) (fun _ => none) := { fs := fs, ins := kp _ _ hx, ns := hns, wi := fun y hy => by simp at hy, xx := x1 _ xx, xd := x1 _ xd, ne := ne, tbx := tx, tbd := td, mt := hm, lx := c.xlt _ xx, ld := c.xlt _ xd, kp := fun b o _ _ e => kp b o e, os := e1, dr := e2, sz := sz }
  have hself : (rho [("self", .rf x), ("fp", .rf sf)]).nm "self" = some (.rf x) := rfl
  have hfp : (rho [("self", .rf x), ("fp", .rf sf)]).nm "fp" = some (.rf sf) := rfl
  rw [show cfb 0 = [.Assign [.Attribute (.Name "self" _) "lineno" _] (.Constant (.int 1) 0 _) _, .Assign [.Attribute (.Name "self" _) "instream" _] (.Name "fp" _) _, .Assign [.Attribute (.Name "self" _) "whitespace" _] (.Constant (.str "\n\t\r ") 0 _) _, .Assign [.Attribute (.Name "self" _) "pushback" _] (.List [] _) _] from rfl]
  refine is_line (n := 5) g ob_lineno (by simp [lexNames]) r' eo I1 (pe_int) hself rfl fun v2 s2 I2 t2 => ?_
  cases t2 using Tl.intE with
  | int t2 =>
  refine is_line (n := 5) g ob_instream (by simp [lexNames]) r' eo I2 (pe_name hfp) hself rfl fun v3 s3 I3 t3 => ?_
  cases t3 using Tl.rfE
  refine is_line (n := 5) g ob_ws (by simp [lexNames]) r' eo I3 (pe_str) hself rfl fun v4 s4 I4 t4 => ?_
  cases t4 using Tl.strE with
  | str t4 =>
  refine wpAny_execs_cons (plainObj_wpAny_Assign_Attribute (List_ ?_) rfl)
  show wpAny _ _ (pure []) _ _ _
  refine wpAny_pure (wpAny_newObj_type ?_ (by show (0 : Nat) ≤ sizeLine; (exact Nat.zero_le _)))
  have k5 : Ks X' s4 { s4 with heap := s4.heap.push { cls := .type "list", data := .seq ([] : List Value).toArray } } := Ks.push s4 _ _
  have I5 := I4.ks k5
  refine pe_name (n := 5) (sc := csc 0) hself A' env _ _ X' _ r' eo I5.fs.cx I5.fs.vs fun u6 s6 k6 t6 => ?_
  cases t6 using Tl.rfE
  have I6 := I5.ks k6
  have hl5 : (s4.heap.push { cls := .type "list", data := .seq ([] : List Value).toArray }).get? s4.heap.objs.size = some _ := Heap.get?_push_size _ rfl
  have npt : s4.heap.objs.size ≠ Mine.tb := fun e => by have := I4.fs.cx.xlt _ I4.fs.cx.tb; rw [← e] at this; exact Nat.lt_irrefl _ this
  have npd : s4.heap.objs.size ≠ dx := fun e => by have := I4.fs.cx.xlt _ I4.xd; rw [← e] at this; exact Nat.lt_irrefl _ this
  have hl6 := k6.kp _ _ npt hl5
  refine is_store g ob_pb (by simp [lexNames]) I6 fun s7 I7 kp7 => ?_
  have hl7 := kp7 _ _ npd hl6
  refine wpAny_execs_nil ?_
  refine k s7 s4.heap.objs.size _ ⟨I7.os, I7.dr, I7.kp, I7.sz, fun _ => I7.fs.cx.ti.move (fun _ _ _ e => e) fun b q => .inl (x1 b q), fun _ => I7.fs.cx.gn⟩ I7.ins I7.ns I7.wi ⟨t2, rfl⟩ rfl ⟨t4, rfl⟩ rfl ⟨_, hl7⟩ I4.sz (Heap.lt_size hl7)
end
end Mine
end

section
open PySem PySem.W PySem.Calls PyProof.Rows
set_option Elab.async false
set_option linter.unusedVariables false
set_option linter.unusedSectionVars false
set_option maxRecDepth 10000
namespace Mine
variable [Star]
theorem mkUp {M : Model} {h h' : Heap} {C : Addr} (Y : Makes M h C) (k : ∀ b o, h.get? b = some o → h'.get? b = some o) : Makes M h' C :=
  ⟨let ⟨oc, od, cd, sl, e, r⟩ := Y.obj; ⟨oc, od, cd, sl, k _ _ e, r⟩, Y.made.keeps k, Y.base.keeps k, Y.self.keeps k, Y.top.keeps k, Y.call.keeps k, Y.typ.keeps k⟩
section
variable {prog : Program} {w : World} {B : Heap} {n : Nat} {C fI fR fG fP : Nat} {s s' : Shared} {X : Nat → Prop}

theorem Fs.kwup {W X' : Nat → Prop} {env : Env} {ρ : Rho} (f : Fs B env X s ρ) (k : Kw W X s s') (wx : ∀ b, W b → X b) (nw : ∀ b, W b → ¬ Mut env ρ b) (x1 : ∀ b, X b → X' b) (x2 : ∀ b, X' b → X b ∨ s.heap.objs.size ≤ b) (lt : ∀ b, X' b → b < s'.heap.objs.size) (ti : TI s'.heap X') : Fs B env X' s' ρ := by
  have nl : ¬ W env.locals := fun q => nw _ q (.inl rfl)
  have nc : ∀ x c, env.cells.lookup x = some c → ¬ W c := fun x c e q => nw _ q (.inr (.inl ⟨x, e⟩))
  have c := f.cx
  have tl : ∀ {v d}, Tl s.heap X v d → Tl s'.heap X' v d := fun t => t.move (fun b o n e => k.kp b o (fun z => n (wx b z)) (fun z => n (z ▸ c.tb)) e) x2
  have tls : ∀ {v d}, Tls s.heap X v d → Tls s'.heap X' v d := fun t => t.move (fun b o n e => k.kp b o (fun z => n (wx b z)) (fun z => n (z ▸ c.tb)) e) x2
  have c0 := k.cx c wx
  have cx' : Cx B X' s' := ⟨c0.base, lt, fun b q => (x2 b q).elim (c.xb b) fun z => by
    cases e : B.get? b with
    | none => rfl
    | some o => exact absurd (Heap.lt_size (c.base b o e)) (Nat.not_lt.mpr z), x1 _ c.tb, ti, c0.gn⟩
  refine ⟨cx', ⟨fun y d e => ?_, fun p hp => ?_⟩, x1 _ f.lx, f.ln, let ⟨m, hm⟩ := f.lm; ⟨m, hm.at' fun o e => k.kp _ o nl f.ln e⟩, fun y c e => ?_, f.inj, f.dis⟩
  · obtain ⟨c1, b1⟩ := f.vs.nm y d e
    refine ⟨?_, b1⟩
    rcases c1 with ⟨a1, a2, m, u, a3, a4, a5⟩ | ⟨c, u, a1, a2, a3, a4, a5⟩
    · exact .inl ⟨a1, a2, m, u, a3.at' fun o e => k.kp _ o nl a2 e, a4, tl a5⟩
    · exact .inr ⟨c, u, a1, a2, a3, let ⟨ob, e1, e2⟩ := a4; ⟨ob, k.kp _ ob (nc y c a2) a3 e1, e2⟩, tl a5⟩
  · obtain ⟨⟨q1, q2, us, q3, q4, q5⟩, q6⟩ := f.vs.own p hp
    exact ⟨⟨x1 _ q1, q2, us, q3.at fun o e => k.kp _ o (fun z => nw _ z (.inr (.inr ⟨p, hp, rfl⟩))) q2 e, q4, tls q5⟩, q6⟩
  · obtain ⟨q1, q2, u, ob, e1, e2⟩ := f.cel y c e
    exact ⟨x1 _ q1, q2, u, ob, k.kp _ ob (nc y c e) q2 e1, e2⟩

theorem mk_callC (g : LexG B C fI fR fG fP) (Y : Makes (model prog w) B C) (hi : Looks (model prog w) B (typeLookup (.ref C) "__init__") (some (.ref fI))) (hb : ∀ self, Looks (model prog w) B (bindSpecial (.ref fI) self) (.ref fI, [self]))
    {A : Around} {R : Result → Shared → Prop} {sg sf sd rf sc rc : Nat} {cs : List Nat} (r : Room 7 A) (c : Cx B X s) (sx : Sx sg sf sd rf sc rc s.heap cs) (hin : ∀ b ∈ [sg, sf, sd, rf, sc, rc], X b ∧ b ≠ Mine.tb)
    (k : ∀ s' (a : LA), Ks X s s' → Lx C a s'.heap (fun b => X b ∨ b = a.x ∨ b = a.dx ∨ b = a.pb) 1 cs [] → (∀ b, b = a.x ∨ b = a.dx ∨ b = a.pb → s.heap.objs.size ≤ b ∧ b < s'.heap.objs.size) → TI s'.heap (fun b => X b ∨ b = a.x ∨ b = a.dx ∨ b = a.pb) → (∀ b ∈ a.all, b ∈ [sg, sf, sd, rf, sc, rc] ∨ s.heap.objs.size ≤ b) → R (.ok (.ret (.ref a.x))) s') :
    codeAny (model prog w) A (.call (.ref C) ⟨[.ref sf], []⟩) R s := by
  have hlt : ∀ b ∈ [sg, sf, sd, rf, sc, rc], b < s.heap.objs.size := fun b hb => c.xlt _ (hin b hb).1
  obtain ⟨hp, gg, d, tk, os⟩ := s
  refine make_core (mkUp Y c.base) (hi.keeps c.base) (fun self => (hb self).keeps c.base) (.inl rfl) ?_
  have hx : ((hp.push emptyDict).push (instObj C hp.objs.size)).get? (hp.objs.size + 1) = some (instObj C hp.objs.size) := by heap_get
  have hd : ((hp.push emptyDict).push (instObj C hp.objs.size)).get? hp.objs.size = some emptyDict := Heap.get?_push_of_some _ (Heap.get?_push_size _ rfl)
  have hkp : ∀ b o, hp.get? b = some o → ((hp.push emptyDict).push (instObj C hp.objs.size)).get? b = some o := fun b o e => Heap.get?_push_of_some _ (Heap.get?_push_of_some _ e)
  have hsz : ((hp.push emptyDict).push (instObj C hp.objs.size)).objs.size = hp.objs.size + 2 := by rw [Heap.size_push, Heap.size_push]
  generalize (hp.push emptyDict).push (instObj C hp.objs.size) = H at *
  have htb : Mine.tb < hp.objs.size := c.xlt _ c.tb
  have c2 : Cx B (fun b => X b ∨ b = hp.objs.size ∨ b = hp.objs.size + 1) ⟨H, gg, d, tk, os⟩ := c.more (fun b q => .inl q) (fun b q => by
    rcases q with q | q | q
    · exact .inl q
    · exact .inr (Nat.le_of_eq q.symm)
    · exact .inr (by rw [q]; exact Nat.le_succ _)) (fun b q => by
    show b < H.objs.size
    rw [hsz]
    rcases q with q | q | q
    · exact Nat.lt_trans (c.xlt b q) (by show hp.objs.size < hp.objs.size + 2; (exact Nat.le_succ _))
    · rw [q]; show hp.objs.size < hp.objs.size + 2; (exact Nat.le_succ _)
    · rw [q]; show hp.objs.size + 1 < hp.objs.size + 2; (exact Nat.le_refl _)) hkp rfl
  refine in_callC (x := hp.objs.size + 1) (dx := hp.objs.size) g (sg := sg) (sf := sf) (sd := sd) (rf := rf) (sc := sc) (rc := rc) (cs := cs) ⟨?_, ?_, r.hand⟩ c2 hx hd (.inr (.inr rfl)) (.inr (.inl rfl)) (by show hp.objs.size + 1 ≠ hp.objs.size; lia) (fun e => by rw [← e] at htb; revert htb; show ¬ (hp.objs.size + 1 < hp.objs.size); lia) (fun e => by rw [← e] at htb; exact Nat.lt_irrefl _ htb) fun s' pb mA kw hx' hA hw h1 h2 h3 h4 hpb g1 g2 => ?_
  · have := r.depth
    show A.depth + 1 + 6 < _
    assumption
  · have := r.units
    show A.units + 1 + 60 < _
    lia
  refine ⟨rfl, ?_⟩
  have g1' : hp.objs.size + 2 ≤ pb := by rw [← hsz]; exact g1
  have kp : ∀ b o, b ≠ Mine.tb → hp.get? b = some o → s'.heap.get? b = some o := fun b o ne e => kw.kp b o (fun z => by
    have z' : b = hp.objs.size := z
    have := Heap.lt_size e
    rw [z'] at this
    exact Nat.lt_irrefl _ this) ne (hkp b o e)
  have sz' : hp.objs.size + 2 ≤ s'.heap.objs.size := by rw [← hsz]; exact kw.sz
  have ks : Ks X ⟨hp, gg, d, tk, os⟩ s' := ⟨kw.os, kw.dr, kp, Nat.le_trans (Nat.le_add_right _ 2) sz', fun ti => by
    refine (kw.ti c2.ti).move (fun _ _ _ e => e) fun b q => .inl (.inl q), fun gn => kw.gn gn⟩
  have ng : ∀ b ∈ [sg, sf, sd, rf, sc, rc], b ≠ hp.objs.size + 1 ∧ b ≠ hp.objs.size ∧ b ≠ pb ∧ b ≠ Mine.tb := fun b hb => by
    have h := hlt b hb
    have h' : b < hp.objs.size := h
    refine ⟨fun e => ?_, fun e => ?_, fun e => ?_, (hin b hb).2⟩
    · rw [e] at h'; exact absurd h' (by show ¬ (hp.objs.size + 1 < hp.objs.size); lia)
    · rw [e] at h'; exact Nat.lt_irrefl _ h'
    · rw [e] at h'; exact absurd (Nat.lt_of_lt_of_le h' (Nat.le_trans (Nat.le_add_right _ 2) g1')) (Nat.lt_irrefl _)
  have kpg : ∀ b ∈ [sg, sf, sd, rf, sc, rc], ∀ o, hp.get? b = some o → s'.heap.get? b = some o := fun b hb o e => kp b o (hin b hb).2 e
  refine k s' ⟨hp.objs.size + 1, hp.objs.size, pb, sg, sf, sd, rf, sc, rc⟩ ks { nod := ?_, inX := ?_, inst := ⟨_, hx', rfl, fun _ q => (by cases q), rfl⟩, dict := ⟨mA, hA, hw, h1, h2, h3, h4⟩, push := ⟨[], hpb, .nil, by simp⟩, sf := ?_, sd := ?_, lam := ?_, sc := ?_, sg := ?_, asc := sx.asc } ?_ ?_ ?_
  · have tl : ([sg, sf, sd, rf, sc, rc] ++ [Mine.tb]).Nodup := List.nodup_append.mpr ⟨sx.nod, by simp, fun b hb y hy => by
      simp at hy; rw [hy]; exact (hin b hb).2⟩
    have tbs : Mine.tb ≠ hp.objs.size := Nat.ne_of_lt htb
    have tbs1 : Mine.tb ≠ hp.objs.size + 1 := Nat.ne_of_lt (Nat.lt_succ_of_lt htb)
    have tbp : Mine.tb ≠ pb := Nat.ne_of_lt (Nat.lt_of_lt_of_le htb (Nat.le_trans (Nat.le_add_right _ 2) g1'))
    have mem : ∀ b ∈ [sg, sf, sd, rf, sc, rc] ++ [Mine.tb], b ≠ hp.objs.size + 1 ∧ b ≠ hp.objs.size ∧ b ≠ pb := fun b hb => by
      rcases List.mem_append.mp hb with hb | hb
      · exact ⟨(ng b hb).1, (ng b hb).2.1, (ng b hb).2.2.1⟩
      · simp at hb; rw [hb]; exact ⟨tbs1, tbs, tbp⟩
    show ((hp.objs.size + 1) :: hp.objs.size :: pb :: ([sg, sf, sd, rf, sc, rc] ++ [Mine.tb])).Nodup
    refine List.nodup_cons.mpr ⟨fun hb => ?_, List.nodup_cons.mpr ⟨fun hb => ?_, List.nodup_cons.mpr ⟨fun hb => (mem _ hb).2.2 rfl, tl⟩⟩⟩
    · rcases List.mem_cons.mp hb with e | hb
      · exact absurd e (by show ¬ (hp.objs.size + 1 = hp.objs.size); lia)
      · rcases List.mem_cons.mp hb with e | hb
        · exact Nat.lt_irrefl _ (Nat.lt_of_lt_of_le (by show hp.objs.size + 1 < hp.objs.size + 2; (exact Nat.le_refl _)) (e ▸ g1'))
        · exact (mem _ hb).1 rfl
    · rcases List.mem_cons.mp hb with e | hb
      · rw [← e] at g1'; exact absurd g1' (by show ¬ (hp.objs.size + 2 ≤ hp.objs.size); lia)
      · exact (mem _ hb).2.1 rfl
  · intro b hb
    simp only [LA.all, List.mem_cons, List.not_mem_nil, or_false] at hb
    rcases hb with rfl | rfl | rfl | hb
    · exact .inr (.inl rfl)
    · exact .inr (.inr (.inl rfl))
    · exact .inr (.inr (.inr rfl))
    · exact .inl (hin b (by simpa using hb)).1
  · obtain ⟨o, e, q⟩ := sx.sf; exact ⟨o, kpg _ (by simp) _ e, q⟩
  · obtain ⟨m, e, q⟩ := sx.sd; exact ⟨m, e.at' fun o z => kpg _ (by simp) o z, q⟩
  · exact sx.lam.keep (fun o z => kpg _ (by simp) o z) fun o z => kpg _ (by simp) o z
  · obtain ⟨o, e, q⟩ := sx.sc; exact ⟨o, kpg _ (by simp) _ e, q⟩
  · obtain ⟨vs, e, q⟩ := sx.sg; exact ⟨vs, e.at fun o z => kpg _ (by simp) o z, q⟩
  · rintro b (rfl | rfl | rfl)
    · exact ⟨Nat.le_succ _, Nat.lt_of_lt_of_le (by show hp.objs.size + 1 < hp.objs.size + 2; (exact Nat.le_refl _)) sz'⟩
    · exact ⟨Nat.le_refl _, Nat.lt_of_lt_of_le (by show hp.objs.size < hp.objs.size + 2; (exact Nat.le_succ _)) sz'⟩
    · exact ⟨Nat.le_trans (Nat.le_add_right _ 2) g1', g2⟩
  · have t0 := kw.ti c2.ti
    obtain ⟨ps, p1, p2, p3⟩ := t0
    refine ⟨ps, p1, p2, fun pos cv e => ?_⟩
    obtain ⟨c', o, vs, q, t, z1, z2, z3, z4, z5, z6⟩ := p3 pos cv e
    refine ⟨c', o, vs, q, t, z1, fun w => ?_, z3, z4, z5, z6⟩
    rcases w with w | w | w | w
    · exact z2 (.inl w)
    · exact z2 (.inr (.inr w))
    · exact z2 (.inr (.inl w))
    · obtain ⟨n0, e0⟩ := hpb
      rw [w] at z4
      have e0' : s'.heap.get? pb = some _ := e0
      have z4' : s'.heap.get? pb = some o := z4
      rw [e0'] at z4'
      cases z4'
      cases z5
  · intro b hb
    simp only [LA.all, List.mem_cons, List.not_mem_nil, or_false] at hb
    rcases hb with rfl | rfl | rfl | hb
    · exact .inr (Nat.le_succ _)
    · exact .inr (Nat.le_refl _)
    · exact .inr (Nat.le_trans (Nat.le_add_right _ 2) g1')
    · exact .inl (by simpa using hb)
end
end Mine
end

section
open PySem PySem.W PySem.Calls PyProof.Rows
set_option Elab.async false
set_option linter.unusedVariables false
set_option linter.unusedSectionVars false
set_option maxRecDepth 10000
namespace Mine

structure ClsG (prog : Program) (w : World) (B : Heap) (C fI : Nat) : Prop where
  made : Makes (model prog w) B C
  init : Looks (model prog w) B (typeLookup (.ref C) "__init__") (some (.ref fI))
  bind : ∀ self, Looks (model prog w) B (bindSpecial (.ref fI) self) (.ref fI, [self])
  keep : ∃ k, (k = Keeper.frame ∨ k = Keeper.machine ∨ k = Keeper.boundFrame) ∧ Looks (model prog w) B (keeperOf (.ref C)) k
  ref : GlobRef B "_netrclex" C

noncomputable def wordsN (N : List Int) : List Str := N.flatMap fun x => [verb x, pth x]
structure LawOk (N : List Int) : Prop where
  asc : ∀ c ∈ (textT N).cps.toList, c < 128
  lx : lexAll (textT N).cps.toList = wordsN N
  le : lexEnd (textT N).cps.toList = []
  cnt : nl (textT N).cps.toList = (Txt.count (textT N) "\n" : Int)
  nm : ∀ x ∈ N, NmOk (piecesL (x.fdiv 4))
  hh : ∀ p ∈ placesL, hitsL (rulesN N) (plN p) = hitsL (dueN N) (plN p)
  pk : pickD ((([("one" : Str), "two"] ++ wordsN N)).map D.str) (some 3) none (some 2) = (N.map fun x => pth x).map .str
  ok : ∀ y ∈ wordsN N, PyData.strOk y = true

variable [Star]
section
variable {prog : Program} {w : World} {B : Heap} {n : Nat} {C fI fR fG fP P : Nat} {s0 s s' : Shared} {X0 X : Nat → Prop} {sc : Scope} {env : Env} {ρ : Rho} {ps : Array Value}

theorem wp_cmp_test {A : Around} {E : Value → Shared → Prop} {Q : Bool → Shared → Prop} {l r : Expr} {op : CmpOp} {pos : Pos} (hm : behindInMarks op r = false)
    (h : wpAny (model prog w) A (eval (.Compare l [op] [r] pos) env) (fun u s' => ∃ b, u = .bool b ∧ Q b s') E s) : wpAny (model prog w) A (isTrue (.Compare l [op] [r] pos) env (eval (.Compare l [op] [r] pos) env)) Q E s := by
  rw [isTrue_Compare1]
  have e1 : eval (.Compare l [op] [r] pos) env = (do let a ← eval l env; let b ← holding [a] (markedBehindIn op r (eval r env)); standAt pos; operate [a, b] (compareOp op a b)) := eval_Compare1 (env := env) l op r pos
  rw [e1] at h
  have e2 : ∀ K : Value → Sem Bool, (do let a ← eval l env; let b ← holding [a] (markedBehindIn op r (eval r env)); standAt pos; let c ← operate [a, b] (compareOp op a b); K c) = ((do let a ← eval l env; let b ← holding [a] (markedBehindIn op r (eval r env)); standAt pos; operate [a, b] (compareOp op a b)) >>= K) := fun K => by
    simp only [bind_assoc]
  rw [e2]
  refine wpAny_bind (wpAny_mono h (fun u s' hu => ?_) fun _ _ x => x)
  obtain ⟨b, rfl, q⟩ := hu
  exact wpAny_holding (wpAny_truthy_bool q)

structure BW (B : Heap) (P : Nat) (ps : Array Value) (s0 : Shared) (X0 : Nat → Prop) (env : Env) (X : Nat → Prop) (s : Shared) (ρ : Rho) : Prop where
  fs : Fs B env X s ρ
  x1 : ∀ b, X0 b → X b
  mt : ∀ b, Mut env ρ b → s0.heap.objs.size ≤ b
  os : s.os = s0.os
  kp : ∀ b o, b ≠ P → b ≠ Mine.tb → s0.heap.get? b = some o → s.heap.get? b = some o
  sz : s0.heap.objs.size ≤ s.heap.objs.size
  pP : P < s0.heap.objs.size
  pt : s.heap.get? P = some (tabObj ps)
  ptb : P ≠ Mine.tb

theorem BW.tn {ρ' : Rho} {X' : Nat → Prop} (h : BW B P ps s0 X0 env X s ρ) (t : Tn (Mut env ρ) s s') (f : Fs B env X' s' ρ') (hx : ∀ b, X b → X' b) (oi : OwnIn ρ ρ' s) : BW B P ps s0 X0 env X' s' ρ' where
  fs := f
  x1 := fun b q => hx b (h.x1 b q)
  mt := fun b q => (Mut.le oi q).elim (h.mt b) fun z => Nat.le_trans h.sz z
  os := t.os.trans h.os
  kp := fun b o n1 n2 e => t.kp b o (fun q => by have := h.mt b q; have := ltz e; lia) n2 (h.kp b o n1 n2 e)
  sz := Nat.le_trans h.sz t.sz
  pP := h.pP
  pt := t.kp _ _ (fun q => by have := h.mt _ q; exact Nat.lt_irrefl _ (Nat.lt_of_lt_of_le h.pP this)) h.ptb h.pt
  ptb := h.ptb
theorem BW.kw {W X' : Nat → Prop} (h : BW B P ps s0 X0 env X s ρ) (k : Kw W X s s') (wx : ∀ b, W b → X b) (nw : ∀ b, W b → b = P ∨ s0.heap.objs.size ≤ b) (nm : ∀ b, W b → ¬ Mut env ρ b) (x1 : ∀ b, X b → X' b) (x2 : ∀ b, X' b → X b ∨ s.heap.objs.size ≤ b) (lt : ∀ b, X' b → b < s'.heap.objs.size) (ti : TI s'.heap X') {ps' : Array Value} (pt : s'.heap.get? P = some (tabObj ps')) : BW B P ps' s0 X0 env X' s' ρ where
  fs := h.fs.kwup k wx nm x1 x2 lt ti
  x1 := fun b q => x1 b (h.x1 b q)
  mt := h.mt
  os := k.os.trans h.os
  kp := fun b o n1 n2 e => k.kp b o (fun q => (nw b q).elim n1 fun z => Nat.lt_irrefl _ (Nat.lt_of_lt_of_le (Heap.lt_size e) z)) n2 (h.kp b o n1 n2 e)
  sz := Nat.le_trans h.sz k.sz
  pP := h.pP
  pt := pt
  ptb := h.ptb
theorem BW.ks (h : BW B P ps s0 X0 env X s ρ) (k : Ks X s s') : BW B P ps s0 X0 env X s' ρ := h.tn k.tn (k.fs h.fs) (fun _ q => q) (OwnIn.refl _ _)

theorem bw_px {A : Around} {E : Value → Shared → Prop} {Q : Flow → Shared → Prop} {ss more : List Stmt} {Pn : Rho → Prop} (r : Room n A) (o : Eo sc env) (h : BW B P ps s0 X0 env X s ρ) (hp : PX prog w B n sc ρ ss { nx := Pn })
    (k : ∀ s' X' ρ', Pn ρ' → BW B P ps s0 X0 env X' s' ρ' → wpAny (model prog w) A (execs more env) Q E s') : wpAny (model prog w) A (execs (ss ++ more) env) Q E s :=
  wp_app (hp A env E s X _ r o h.fs fun fl s1 X1 t x1 x2 ok => by
    cases fl with
    | next =>
      obtain ⟨ρ1, p1, f1, oi⟩ := ok
      exact k s1 X1 ρ1 p1 (h.tn t f1 x1 oi)
    | cont => obtain ⟨_, q, _⟩ := ok; exact q.elim
    | brk => obtain ⟨_, q, _⟩ := ok; exact q.elim
    | ret v => obtain ⟨_, _, q, _⟩ := ok; exact q.elim)

noncomputable def rowG : D → List D
  | .list l => l
  | _ => []
theorem row_words (N : List Int) : (N.map rowD).flatMap rowG = (wordsN N).map D.str := by
  induction N with
  | nil => rfl
  | cons x r ih =>
    show rowG (rowD x) ++ (r.map rowD).flatMap rowG = _
    rw [ih]
    rfl
theorem wordsN_len (N : List Int) : (wordsN N).length = 2 * N.length := by
  induction N with
  | nil => rfl
  | cons x r ih =>
    show ([verb x, pth x] ++ wordsN r).length = _
    rw [List.length_append, ih]
    simp
    lia
theorem okP_words (ws : List Str) (i : Int) : okP (.list [.list (ws.map .str), .int i]) = true := by simp [okP, okPs, okPs_strs]
theorem shaped_words {ws : List Str} (h : ∀ x ∈ ws, PyData.strOk x = true) (i : Int) : SeqAt.shaped (toPy (.list [.list (ws.map .str), .int i])) = true := by
  simp [toPy, toPys, toPys_strs, SeqAt.shaped, PyData.canLay0, PyData.canLayAll0, PyData.depth, PyData.depthAll, canLay_strs ws h, depth_strs]

theorem pe_right {p1 p2 p3 p4 p5 p6 p7 p8 p9 p10 p11 p12 p14 p16 p17 : Pos} {k1 k2 k3 k4 : Nat} {N : List Int} {T : Str} (hN : N.length ≤ 10) (hrow : ρ.nm "rows" = some (.list (N.map rowD))) (htx : ρ.nm "text" = some (.str T)) :
    PE prog w B n (fsc 37) ρ (.List [.BinOp (.List [.Constant (.str "one") k1 p1, .Constant (.str "two") k2 p2] p3) .Add (.ListComp (.Name "word" p4) [⟨.Name "row" p5, .Name "rows" p6, [], 0⟩, ⟨.Name "word" p7, .Name "row" p8, [], 0⟩] ⟨.function, [(".0", .local), ("row", .local), ("word", .local)], false, false, []⟩ p9) p10,
      .BinOp (.Constant (.int 1) k3 p11) .Add (.Call (.Attribute (.Name "text" p12) "count" ⟨305, 94, 305, 104⟩) [.Constant (.str "\n") k4 p14] [] ⟨305, 94, 305, 110⟩) p16] p17) (.list [.list (([("one" : Str), "two"] ++ wordsN N).map .str), .int (1 + (Txt.count T "\n" : Int))]) := by
  have hw := wordsN_len N
  have e1 : ((N.map rowD).flatMap rowG).map id = (wordsN N).map D.str := by rw [List.map_id, row_words]
  with_reducible refine pe_list (pes_cons (pe_to ?_ (pe_binop (a := .list [.str "one", .str "two"]) (b := .list ((wordsN N).map .str)) (pe_list (pes_cons pe_str (pes_cons pe_str pes_nil))) (pe_to (congrArg D.list e1) (pe_comp2 (z := true) rowG id ?_ ?_ ?_ ?_ ?_ ?_ (pi_list (pe_name hrow)) (fun d hd => ?_) (fun d _ e _ => ?_) ?_)) (bo_add_list ?_))) (pes_cons (pe_binop (a := .int 1) (b := .int (Txt.count T "\n")) pe_int (pe_m1 (x := T) (a := .str "\n") (pe_name htx) pe_str sm_count) bo_add_int) pes_nil))
  · rw [List.map_append]; rfl
  · decide +kernel
  · decide +kernel
  · decide +kernel
  · decide +kernel
  · decide +kernel
  · decide +kernel
  · obtain ⟨x, hx, rfl⟩ := List.mem_map.mp hd
    exact pi_list (pe_name rc_self)
  · exact pe_name rc_self
  · rw [row_words, List.length_map]; lia
  · rw [List.length_map]; show 2 + _ ≤ _; lia

theorem law_callC (g : Gnd prog w B) {al aw as cC : Nat} (gl : Gr B 37 "law" al ["script"]) (lex : LexG B C fI fR fG fP) (cl : ClsG prog w B C fI) (hit : GlobBlt B "iter" (.builtin "iter")) (gw : Gr B 34 "_law_words" aw ["lexer"]) (gs : Gr B 31 "_law_stream" as ["text"])
    (hcd : ∀ o fd, B.get? as = some o → o.data = .func fd → fd.code = .ref cC) (CH : CodeHd B cC P) (hba : ∃ mg, B.Ns mainGlobals mg ∧ B.BuiltinsAt mg P) (hPm : mainGlobals ≠ P) (hPt : P ≠ Mine.tb)
    {ns : List Int} (hl : ns.length ≤ 100) (ok : LawOk (nums ns)) {A : Around} {R : Result → Shared → Prop} (r : Room 14 A) (c : Cx B X s) (hX : X P) (hP : s.heap.get? P = some (tabObj #[])) {v : Value} (t : Tl s.heap X v (.list (ns.map .int)))
    (k : ∀ s', (∀ b o, b ≠ P → b ≠ Mine.tb → s.heap.get? b = some o → s'.heap.get? b = some o) → s'.os = s.os → AllBare s'.gens → (∃ ps, s'.heap.get? P = some (tabObj ps)) → (∃ ps, s'.heap.get? Mine.tb = some (tabObj ps)) → R (.ok (.ret (.bool true))) s') :
    codeAny (model prog w) A (.call (.ref al) ⟨[v], []⟩) R s := by
  obtain ⟨o', fd, h1, h2, h3, h4, h5, h6, h7, h8, h10, h9⟩ := gl.at_
  refine fa_enterC (n := 13) (ps := [("script", .list (ns.map .int))]) h1 h2 gl.lim h3 h4 h6 h7 h8 (fun vs hv => h9 vs (by simpa using hv)) (by rw [h5]; exact gl.ok) (by rw [h5]; exact h10) r c (.cons t .nil) fun A' env E' s₁ X' r' eo fs kp e1 e2 e3 sz x1 x2 hm hnc => ?_
  rw [h5] at eo
  have L1 : BW B P #[] s X env X' s₁ (rho [("script", .list (ns.map .int))]) := ⟨fs, x1, hm, e1, fun b o _ _ e => kp b o e, sz, c.xlt _ hX, kp _ _ hP, hPt⟩
  have hN := nums_len ns
  have htl := textT_len ns
  rw [show fb 37 = (fb 37).take 2 ++ (((fb 37).drop 2).take 2 ++ (fb 37).drop 4) from rfl]
  refine bw_px (n := 13) r' eo L1 (px_law1 g (by decide) hl) fun s2 X2 ρ2 P2 L2 => ?_
  refine bw_px (n := 13) r' eo L2 (px_law2 g (by decide) P2) fun s3 X3 ρ3 P3 L3 => ?_
  generalize nums ns = N at *
  have htext : ρ3.nm "text" = some (.str (textT N)) := P3.get rfl
  have hil : interactive env = false := by unfold interactive; rw [eo.iss, eo.kind]; rfl
  obtain ⟨mgc, hc1, hc2⟩ := cl.ref
  obtain ⟨mgs, os_, fds, hs1, hs2, hs3, hs4⟩ := gs.fn.at_
  obtain ⟨mgw, ow_, fdw, hw1, hw2, hw3, hw4⟩ := gw.fn.at_
  rw [show (fb 37).drop 4 = [.Assign [.Name "lexer" ⟨303, 4, 303, 9⟩] (.Call (.Name "_netrclex" ⟨303, 12, 303, 21⟩) [.Call (.Name "_law_stream" ⟨303, 22, 303, 33⟩) [.Name "text" ⟨303, 34, 303, 38⟩] [] ⟨303, 22, 303, 39⟩] [] ⟨303, 12, 303, 40⟩) ⟨303, 4, 303, 40⟩,
    .Assign [.Name "words" ⟨304, 4, 304, 9⟩] (.Call (.Name "_law_words" ⟨304, 12, 304, 22⟩) [.Name "lexer" ⟨304, 23, 304, 28⟩] [] ⟨304, 12, 304, 29⟩) ⟨304, 4, 304, 29⟩] ++ (fb 37).drop 6 from rfl]
  refine wpAny_execs_cons (wpAny_Assign_Name (wpAny_Call_NameR (name_global (sc := fsc 37) eo L3.fs.cx (by decide +kernel) hc1 hc2 ?_ (by decide +kernel))) rfl)
  show wpAny _ _ (callWith _ (.ref C) [] [(false, eval (.Call (.Name "_law_stream" _) [.Name "text" _] [] _) env)] []) _ _ _
  refine callWith_of (P := fun h => ∀ b o, B.get? b = some o → h.get? b = some o) rfl (fun h hb => let ⟨kk, q1, q2⟩ := cl.keep; ⟨kk, q1, q2.keeps hb⟩) (Calls.evalArgs_plain (Calls.spliced_cons ?_))
  refine wpAny_Call_NameR (name_global (sc := fsc 37) eo L3.fs.cx (by decide +kernel) hs1 hs2 ?_ (by decide +kernel))
  show wpAny _ _ (callWith _ (.ref as) [] [(false, eval (.Name "text" _) env)] []) _ _ _
  refine Calls.callWith_function (o := os_) (fd := fds) (Calls.evalArgs_plain (Calls.spliced_cons (pe_name (n := 13) (sc := fsc 37) htext A' env _ s3 X3 _ r' eo L3.fs.cx L3.fs.vs fun u s4 k4 t4 => Calls.spliced_nil ?_)))
  cases t4 using Tl.strE with
  | str tk4 =>
  have L4 := L3.ks k4
  refine ⟨⟨L4.fs.cx.base _ _ hs3, hs4⟩, ?_⟩
  have hXP4 : X3 P := L4.x1 _ hX
  refine wpAny_call (st_callC gs g.b.list hcd CH hba hPm hPt (r'.mono (by decide)) L4.fs.cx hXP4 L4.pt (Nat.le_trans htl (by decide)) ok.asc fun s5 sg sf sd rf scl rc kw5 sx5 bd5 ti5 ⟨ps5, pt5⟩ => ?_)
  have hXA : ∀ b, X3 b → b < s4.heap.objs.size := L4.fs.cx.xlt
  have L5 : BW B P ps5 s X env (fun b => X3 b ∨ b ∈ [sg, sf, sd, rf, scl, rc]) s5 ρ3 := L4.kw kw5 (fun b e => by rw [e]; exact hXP4) (fun b e => .inl e) (fun b e q => by have := L4.mt b q; rw [e] at this; exact Nat.lt_irrefl _ (Nat.lt_of_lt_of_le L4.pP this)) (fun b q => .inl q) (fun b q => q.imp_right fun q => (bd5 b q).1) (fun b q => q.elim (fun q => Nat.lt_of_lt_of_le (hXA b q) kw5.sz) fun q => (bd5 b q).2) ti5 pt5
  refine Calls.spliced_nil ⟨L5.fs.cx.base, ?_⟩
  have tb4 : Mine.tb < s4.heap.objs.size := hXA _ L4.fs.cx.tb
  refine wpAny_call (mk_callC lex cl.made cl.init cl.bind (r'.mono (by decide)) L5.fs.cx sx5 (fun b hb => ⟨.inr hb, fun e => by have := (bd5 b hb).1; rw [e] at this; exact Nat.lt_irrefl _ (Nat.lt_of_lt_of_le tb4 this)⟩) fun s6 a ks6 lx6 bd6 ti6 al6 => ?_)
  obtain ⟨X6, hX6⟩ : ∃ Z : Nat → Prop, Z = fun b => (X3 b ∨ b ∈ [sg, sf, sd, rf, scl, rc]) ∨ b = a.x ∨ b = a.dx ∨ b = a.pb := ⟨_, rfl⟩
  have hX6' : ∀ b, X3 b → X6 b := fun b q => by rw [hX6]; exact .inl (.inl q)
  rw [← hX6] at lx6 ti6
  have L6 : BW B P ps5 s X env X6 s6 ρ3 := L5.kw (W := fun _ => False) ks6.kw (fun _ q => q.elim) (fun _ q => q.elim) (fun _ q => q.elim) (fun b q => by rw [hX6]; exact .inl q) (fun b q => by rw [hX6] at q; exact q.imp_right fun q => (bd6 b q).1) (fun b q => by
    rw [hX6] at q
    exact q.elim (fun q => Nat.lt_of_lt_of_le (L5.fs.cx.xlt b q) ks6.sz) fun q => (bd6 b q).2) ti6 (ks6.kp _ _ hPt pt5)
  have frs : ∀ b ∈ a.all, s4.heap.objs.size ≤ b := fun b hb => (al6 b hb).elim (fun q => (bd5 b q).1) fun q => Nat.le_trans kw5.sz q
  have ltA : ∀ b, Mut env ρ3 b → b < s4.heap.objs.size := fun b q => hXA b (Mut.inX L4.fs q)
  have nMa : ∀ b ∈ a.all, ¬ Mut env ρ3 b := fun b hb q => Nat.lt_irrefl _ (Nat.lt_of_lt_of_le (ltA b q) (frs b hb))
  have s4s : s.heap.objs.size ≤ s4.heap.objs.size := L4.sz
  refine store_name eo L6.fs (.inl (by decide +kernel)) (.rf a.x) (by decide +kernel) (by decide +kernel) fun s7 f7 t7 => ?_
  have L7 := L6.tn t7 f7 (fun _ q => q) (Rho.set_own _)
  have lx7 : Lx C a s7.heap X6 1 (textT N).cps.toList [] := lx6.keep (fun b hb o e => t7.kp b o (nMa b hb) (lx6.tbne hb) e) fun _ q => q
  have P7 := P3.set "lexer" (.rf a.x)
  have own3 : (ρ3.set "lexer" (.rf a.x)).own = [] := P7.own
  have nM7 : ∀ b ∈ a.all, ¬ Mut env (ρ3.set "lexer" (.rf a.x)) b := fun b hb q => nMa b hb (by
    rcases q with q | q | ⟨p, hp, _⟩
    · exact .inl q
    · exact .inr (.inl q)
    · rw [own3] at hp; cases hp)
  generalize ρ3.set "lexer" (.rf a.x) = ρ7 at L7 P7 own3 nM7
  have hlex : ρ7.nm "lexer" = some (.rf a.x) := P7.get rfl
  show wpAny _ _ (execs (_ :: _) env) _ _ _
  refine wpAny_execs_cons (wpAny_Assign_Name (wpAny_Call_NameR (name_global (sc := fsc 37) eo L7.fs.cx (by decide +kernel) hw1 hw2 ?_ (by decide +kernel))) rfl)
  show wpAny _ _ (callWith _ (.ref aw) [] [(false, eval (.Name "lexer" _) env)] []) _ _ _
  refine Calls.callWith_function (o := ow_) (fd := fdw) (Calls.evalArgs_plain (Calls.spliced_cons (pe_name (n := 13) (sc := fsc 37) hlex A' env _ s7 X6 _ r' eo L7.fs.cx L7.fs.vs fun u s8 k8 t8 => Calls.spliced_nil ?_)))
  cases t8 using Tl.rfE
  have L8 := L7.ks k8
  have lx8 := lx7.ks k8
  refine ⟨⟨L8.fs.cx.base _ _ hw3, hw4⟩, ?_⟩
  have htl' : (textT N).cps.toList.length ≤ 50000 := by
    have : (textT N).cps.size ≤ 2000 := htl
    simpa using Nat.le_trans this (by decide)
  refine lw_words lex hit gw (r'.mono (by decide)) L8.fs.cx lx8 htl' fun v9 s9 m9 kw9 lx9 hm9 t9 => ?_
  rw [ok.lx] at t9
  rw [ok.le] at lx9 hm9
  have hm9' : m9 = 1 + (Txt.count (textT N) "\n" : Int) := by
    rw [← ok.cnt]
    have : nl [] = 0 := rfl
    grind
  have L9 : BW B P ps5 s X env X6 s9 ρ7 := L8.kw kw9 (fun b hb => lx8.W_X b hb) (fun b hb => .inr (Nat.le_trans s4s (frs b (LA.W_all hb)))) (fun b hb => nM7 b (LA.W_all hb)) (fun _ q => q) (fun _ q => .inl q) (fun b q => Nat.lt_of_lt_of_le (L8.fs.cx.xlt b q) kw9.sz) (kw9.ti L8.fs.cx.ti) (kw9.kp _ _ (fun q => by
    have h1 := frs P (LA.W_all q)
    exact Nat.lt_irrefl _ (Nat.lt_of_lt_of_le L4.pP (Nat.le_trans s4s h1))) hPt L8.pt)
  refine store_name eo L9.fs (.inl (by decide +kernel)) t9 (by decide +kernel) (by decide +kernel) fun s10 f10 t10 => ?_
  have L10 := L9.tn t10 f10 (fun _ q => q) (Rho.set_own _)
  have lx10 : Lx C a s10.heap X6 m9 [] [] := lx9.keep (fun b hb o e => t10.kp b o (nM7 b hb) (lx9.tbne hb) e) fun _ q => q
  have P10 := P7.set "words" (.list (([("one" : Str), "two"] ++ wordsN N).map .str))
  generalize ρ7.set "words" (.list (([("one" : Str), "two"] ++ wordsN N).map .str)) = ρ10 at L10 P10
  have hlex10 : ρ10.nm "lexer" = some (.rf a.x) := P10.get rfl
  have hwd10 : ρ10.nm "words" = some (.list (([("one" : Str), "two"] ++ wordsN N).map .str)) := P10.get rfl
  have hrow10 : ρ10.nm "rows" = some (.list (N.map rowD)) := P10.get rfl
  have htx10 : ρ10.nm "text" = some (.str (textT N)) := P10.get rfl
  show wpAny _ _ (execs ((fb 37).drop 6) env) _ _ _
  rw [show (fb 37).drop 6 = [.If (.Compare (.List [.Name "words" ⟨305, 8, 305, 13⟩, .Attribute (.Name "lexer" ⟨305, 15, 305, 20⟩) "lineno" ⟨305, 15, 305, 27⟩] ⟨305, 7, 305, 28⟩) [.NotEq] [.List [.BinOp (.List [.Constant (.str "one") 0 ⟨305, 34, 305, 39⟩, .Constant (.str "two") 0 ⟨305, 41, 305, 46⟩] ⟨305, 33, 305, 47⟩) .Add (.ListComp (.Name "word" ⟨305, 51, 305, 55⟩) [⟨.Name "row" ⟨305, 60, 305, 63⟩, .Name "rows" ⟨305, 67, 305, 71⟩, [], 0⟩, ⟨.Name "word" ⟨305, 76, 305, 80⟩, .Name "row" ⟨305, 84, 305, 87⟩, [], 0⟩] ⟨.function, [(".0", .local), ("row", .local), ("word", .local)], false, false, []⟩ ⟨305, 50, 305, 88⟩) ⟨305, 33, 305, 88⟩,
      .BinOp (.Constant (.int 1) 0 ⟨305, 90, 305, 91⟩) .Add (.Call (.Attribute (.Name "text" ⟨305, 94, 305, 98⟩) "count" ⟨305, 94, 305, 104⟩) [.Constant (.str "\n") 0 ⟨305, 105, 305, 109⟩] [] ⟨305, 94, 305, 110⟩) ⟨305, 90, 305, 110⟩] ⟨305, 32, 305, 111⟩] ⟨305, 7, 305, 111⟩) [.Return (some (.Constant (.bool false) 0 ⟨306, 15, 306, 20⟩)) ⟨306, 8, 306, 20⟩] [] ⟨305, 4, 306, 20⟩] ++ (fb 37).drop 7 from rfl]
  refine wpAny_execs_cons (wpAny_If (wp_cmp_test rfl (wpAny_Compare1 (List_ (spliced_more (pe_name (n := 13) (sc := fsc 37) hwd10 A' env _ s10 X6 _ r' eo L10.fs.cx L10.fs.vs fun u11 s11 k11 t11 => spliced_more (Attribute_name (pe_name (n := 13) (sc := fsc 37) hlex10 A' env _ s11 X6 _ r' eo (L10.ks k11).fs.cx (L10.ks k11).fs.vs fun u12 s12 k12 t12 => ?_)) rfl) rfl)) rfl)))
  cases t12 using Tl.rfE
  have L12 := (L10.ks k11).ks k12
  have lx12 := (lx10.ks k11).ks k12
  obtain ⟨mA, q1, q2, ⟨tm, q3⟩, q4, q5, q6⟩ := lx12.dict
  refine la_get (X := X6) (X0 := X6) lex ob_lineno (by simp [lexNames]) L12.fs.cx lx12 ⟨mA, q1, q3⟩ ho_int ?_
  show wpAny _ _ (pure []) _ _ _
  refine wpAny_pure (wpAny_newObj_type ?_ (by show (2 : Nat) ≤ sizeLine; rw [sizeLine_eq]; decide))
  have kA : Ks X6 s12 { s12 with heap := s12.heap.push { cls := .type "list", data := .seq [u11, .int m9 tm].toArray }, toks := s12.toks + 1 } := Ks.push s12 _ _
  have L13 := L12.ks kA
  have t13 : Tl (s12.heap.push { cls := .type "list", data := .seq [u11, .int m9 tm].toArray }) X6 (.ref s12.heap.objs.size) (.list [.list (([("one" : Str), "two"] ++ wordsN N).map .str), .int m9]) :=
    .list ⟨_, Heap.get?_push_size _ rfl⟩ (fun q => Nat.lt_irrefl _ (L12.fs.cx.xlt _ q)) (by simp) (.cons ((k12.trans kA).tl (L10.ks k11).fs.cx t11) (.cons (.int _ _) .nil))
  have h10 := pe_right (prog := prog) (w := w) (B := B) (n := 13) (p1 := ⟨305, 34, 305, 39⟩) (p2 := ⟨305, 41, 305, 46⟩) (p3 := ⟨305, 33, 305, 47⟩) (p4 := ⟨305, 51, 305, 55⟩) (p5 := ⟨305, 60, 305, 63⟩) (p6 := ⟨305, 67, 305, 71⟩) (p7 := ⟨305, 76, 305, 80⟩) (p8 := ⟨305, 84, 305, 87⟩) (p9 := ⟨305, 50, 305, 88⟩) (p10 := ⟨305, 33, 305, 88⟩) (p11 := ⟨305, 90, 305, 91⟩) (p12 := ⟨305, 94, 305, 98⟩) (p14 := ⟨305, 105, 305, 109⟩) (p16 := ⟨305, 90, 305, 110⟩) (p17 := ⟨305, 32, 305, 111⟩) (k1 := 0) (k2 := 0) (k3 := 0) (k4 := 0) hN.1 hrow10 htx10
  refine h10 A' env _ _ X6 _ r' eo L13.fs.cx L13.fs.vs fun u14 s14 k14 t14 => ?_
  have L14 := L13.ks k14
  rw [← hm9'] at t14
  have okw : ∀ y ∈ [("one" : Str), "two"] ++ wordsN N, PyData.strOk y = true := fun y hy => by
    rcases List.mem_append.mp hy with hy | hy
    · simp at hy; rcases hy with rfl | rfl <;> decide +kernel
    · exact ok.ok y hy
  obtain ⟨as1, ra⟩ := reads_of (okP_words _ _) (k14.tl L13.fs.cx t13)
  obtain ⟨as2, rb⟩ := reads_of (okP_words _ _) t14
  refine ne_dataH ra rb (shaped_words okw _) (shaped_words okw _) (by have := r'.units; lia) ⟨_, rfl, ?_⟩
  rw [PySem.SeqAt.eqv_refl _ (SeqAt.canLay_of_shaped (shaped_words okw m9))]
  simp only [Bool.not_true, Bool.false_eq_true, if_false]
  refine wpAny_execs_nil ?_
  show wpAny _ _ (execs ((fb 37).drop 7) env) _ _ _
  have P14 : DI [] [("words", .list (([("one" : Str), "two"] ++ wordsN N).map .str)), ("numbers", .list (N.map .int))] ρ10 := P10.pick rfl rfl
  have hw := wordsN_len N
  refine px_law3 (n := 13) g (by decide) hN.1 (by rw [List.length_append]; lia) (by rw [List.length_append]; simp; lia) ok.pk ok.nm ok.hh P14 A' env _ s14 X6 _ r' eo L14.fs fun fl s15 X15 t15 y1 y2 ok15 => ?_
  cases fl with
  | next => obtain ⟨_, q, _⟩ := ok15; exact q.elim
  | cont => obtain ⟨_, q, _⟩ := ok15; exact q.elim
  | brk => obtain ⟨_, q, _⟩ := ok15; exact q.elim
  | ret v15 =>
    obtain ⟨d, Y, rfl, tl15, ti15, gn15, _⟩ := ok15
    cases tl15 using Tl.boolE
    obtain ⟨psT, hT, _⟩ := ti15
    refine k s15 (fun b o n1 n2 e => t15.kp b o (fun q => by have h := L14.mt b q; exact Nat.lt_irrefl _ (Nat.lt_of_lt_of_le (Heap.lt_size e) h)) n2 (L14.kp b o n1 n2 e)) (t15.os.trans L14.os) gn15 ⟨_, t15.kp _ _ (fun q => by have h := L14.mt _ q; exact Nat.lt_irrefl _ (Nat.lt_of_lt_of_le L14.pP h)) hPt L14.pt⟩ ⟨psT, hT⟩
end
end Mine
end

section
open PySem PySem.W PySem.Calls PyProof.Rows PySem.Builtin PySem.Builtin.Str
set_option Elab.async false
set_option linter.unusedVariables false
set_option linter.unusedSectionVars false
set_option maxRecDepth 10000
namespace Mine

theorem str_ext {a b : Str} (h : a.cps.toList = b.cps.toList) : a = b := by
  cases a; cases b
  simp only [Str.mk.injEq]
  exact Array.toList_inj.mp h
theorem cps_app (a b : Str) : (a ++ b).cps.toList = a.cps.toList ++ b.cps.toList := by
  show (a.cps ++ b.cps).toList = _
  simp
theorem join_cps0 : ∀ l : List Str, (Txt.join "" l).cps.toList = l.flatMap (·.cps.toList) := by
  intro l
  rw [show Txt.join "" l = Str.join "" l from StrLaws.glued_eq_join "" l]
  induction l with
  | nil => rfl
  | cons x r ih =>
    cases r with
    | nil => show x.cps.toList = [x].flatMap _; simp
    | cons y r =>
      show ((x ++ ("" : Str)) ++ Str.join "" (y :: r)).cps.toList = _
      rw [cps_app, cps_app, ih]
      have : ("" : Str).cps.toList = [] := rfl
      rw [this, List.append_nil]
      simp

inductive Enc (P : Nat → Prop) : List Nat → List Nat → Prop
  | nil : Enc P [] []
  | lit {c : Nat} {cs es : List Nat} : P c → Enc P cs es → Enc P (c :: cs) (c :: es)
  | esc {c : Nat} {cs es : List Nat} : Enc P cs es → Enc P (c :: cs) (92 :: c :: es)

theorem str_app_nil (a : Str) : a ++ (⟨#[]⟩ : Str) = a := str_ext (by rw [cps_app]; simp)
theorem app_chS (tok : Str) (c : Nat) (cs : List Nat) : tok ++ (⟨(c :: cs).toArray⟩ : Str) = (tok ++ chS c) ++ (⟨cs.toArray⟩ : Str) := str_ext (by
  rw [cps_app, cps_app, cps_app]
  show _ ++ (c :: cs) = _ ++ [c] ++ cs
  simp)

theorem lexP_enc {cs es : List Nat} (h : Enc (fun c => c ≠ 92 ∧ isWs c = false) cs es) (r : List Nat) : ∀ tok : Str, lexP tok (es ++ r) = lexP (tok ++ ⟨cs.toArray⟩) r := by
  induction h with
  | nil => intro tok; rw [str_app_nil]; rfl
  | @lit c cs es p _ ih =>
    intro tok
    rw [List.cons_append, lexP_c, if_neg (by rw [p.2]; decide)]
    have e1 : escT tok c (es ++ r) = tok ++ chS c := by unfold escT; rw [if_neg p.1]
    have e2 : escR c (es ++ r) = es ++ r := by unfold escR; rw [if_neg p.1]
    rw [e1, e2, ih, app_chS]
  | @esc c cs es _ ih =>
    intro tok
    rw [List.cons_append, lexP_c, if_neg (by decide)]
    have e1 : escT tok 92 (c :: es ++ r) = tok ++ chS c := by unfold escT; rw [if_pos rfl]; rfl
    have e2 : escR 92 (c :: es ++ r) = es ++ r := by unfold escR; rw [if_pos rfl]; rfl
    rw [e1, e2, ih, app_chS]
theorem lexQ_enc {cs es : List Nat} (h : Enc (fun c => c ≠ 92 ∧ c ≠ 34) cs es) (r : List Nat) : ∀ tok : Str, lexQ tok (es ++ r) = lexQ (tok ++ ⟨cs.toArray⟩) r := by
  induction h with
  | nil => intro tok; rw [str_app_nil]; rfl
  | @lit c cs es p _ ih =>
    intro tok
    rw [List.cons_append, lexQ_c, if_neg p.2]
    have e1 : escT tok c (es ++ r) = tok ++ chS c := by unfold escT; rw [if_neg p.1]
    have e2 : escR c (es ++ r) = es ++ r := by unfold escR; rw [if_neg p.1]
    rw [e1, e2, ih, app_chS]
  | @esc c cs es _ ih =>
    intro tok
    rw [List.cons_append, lexQ_c, if_neg (by decide)]
    have e1 : escT tok 92 (c :: es ++ r) = tok ++ chS c := by unfold escT; rw [if_pos rfl]; rfl
    have e2 : escR 92 (c :: es ++ r) = es ++ r := by unfold escR; rw [if_pos rfl]; rfl
    rw [e1, e2, ih, app_chS]

theorem lexO_ws {c : Nat} {r : List Nat} (h : isWs c = true) : lexO (c :: r) = lexO r := by
  rw [lexO, if_pos h]
theorem lexO_wss : ∀ {ws r : List Nat}, (∀ c ∈ ws, isWs c = true) → lexO (ws ++ r) = lexO r
  | [], _, _ => rfl
  | c :: ws, r, h => by
    rw [List.cons_append, lexO_ws (h c (.head _))]
    exact lexO_wss fun x hx => h x (.tail _ hx)
theorem lexAll_of {a b : List Nat} (h : lexO a = lexO b) : lexAll a = lexAll b ∧ lexEnd a = lexEnd b := by
  constructor
  · rw [lexAll_eq a, lexAll_eq b, h]
  · rw [lexEnd_eq a, lexEnd_eq b, h]
noncomputable def Tail (r : List Nat) : Prop := r = [] ∨ ∃ c t, r = c :: t ∧ isWs c = true
theorem lexP_end {r : List Nat} (h : Tail r) (tok : Str) : ∃ r', lexP tok r = (tok, r') ∧ lexO r' = lexO r := by
  rcases h with rfl | ⟨c, t, rfl, hc⟩
  · exact ⟨[], by rw [lexP_n], rfl⟩
  · exact ⟨t, by rw [lexP_c, if_pos hc], (lexO_ws hc).symm⟩
theorem str_nil_app (a : Str) : ("" : Str) ++ a = a := str_ext (by rw [cps_app]; rfl)

theorem lexO_plain {cs es r : List Nat} (h : Enc (fun c => c ≠ 92 ∧ isWs c = false) cs es) (h0 : ∃ e t, es = e :: t ∧ e ≠ 34 ∧ isWs e = false) (hr : Tail r) : ∃ r', lexO (es ++ r) = (⟨cs.toArray⟩, r') ∧ lexO r' = lexO r := by
  obtain ⟨e, t, rfl, q1, q2⟩ := h0
  obtain ⟨r', g1, g2⟩ := lexP_end hr (⟨cs.toArray⟩ : Str)
  refine ⟨r', ?_, g2⟩
  have e1 : lexO ((e :: t) ++ r) = lexP "" ((e :: t) ++ r) := by
    rw [List.cons_append, lexO, if_neg (by rw [q2]; decide), if_neg q1, lexP_c, if_neg (by rw [q2]; decide)]
  rw [e1, lexP_enc h, str_nil_app, g1]
theorem lexO_quot {cs es r : List Nat} (h : Enc (fun c => c ≠ 92 ∧ c ≠ 34) cs es) : lexO (34 :: (es ++ 34 :: r)) = (⟨cs.toArray⟩, r) := by
  rw [lexO, if_neg (by decide), if_pos rfl, lexQ_enc h, str_nil_app, lexQ_c, if_pos rfl]

variable [Star]
theorem lexAll_step {a r r' : List Nat} {t : Str} (h : lexO a = (t, r')) (h2 : lexO r' = lexO r) (ht : ¬ t = "") : lexAll a = t :: lexAll r ∧ lexEnd a = lexEnd r := by
  obtain ⟨q1, q2⟩ := lexAll_cons (cs := a) (by rw [h]; exact ht)
  obtain ⟨q3, q4⟩ := lexAll_of h2
  rw [q1, q2, h]
  exact ⟨by rw [q3], q4⟩

noncomputable def okC (c : Nat) : Bool := decide (c < 128) && (!(isWs c) || c == 32)
theorem pText_ok : (pText.all fun t => t.cps.toList.all okC && decide (0 < t.cps.size)) = true := by decide +kernel
theorem pieceT_ok {p : Int} (h : 0 ≤ p ∧ p < 14) : (pieceT p).cps.toList.all okC = true ∧ 0 < (pieceT p).cps.size := by
  have h1 : p.toNat < pText.length := by show p.toNat < 14; lia
  have := List.all_eq_true.mp pText_ok _ (List.getElem_mem h1)
  unfold pieceT
  rw [List.getElem?_eq_getElem h1]
  simp only [Bool.and_eq_true, decide_eq_true_eq] at this
  exact this
theorem join_ok {sep : Str} (hs : sep.cps.toList.all okC = true) : ∀ l : List Str, (∀ t ∈ l, t.cps.toList.all okC = true) → (Txt.join sep l).cps.toList.all okC = true := by
  intro l
  rw [show Txt.join sep l = Str.join sep l from StrLaws.glued_eq_join sep l]
  induction l with
  | nil => intro _; rfl
  | cons x r ih =>
    intro h
    cases r with
    | nil => exact h x (.head _)
    | cons y r =>
      show ((x ++ sep) ++ Str.join sep (y :: r)).cps.toList.all okC = true
      rw [cps_app, cps_app, List.all_append, List.all_append, h x (.head _), hs, ih fun t ht => h t (.tail _ ht)]
      rfl
theorem pathT_ok {L : List Int} (h : ∀ p ∈ L, 0 ≤ p ∧ p < 14) : (pathT L).cps.toList.all okC = true := join_ok (by decide +kernel) _ fun t ht => by
  obtain ⟨p, hp, rfl⟩ := List.mem_map.mp ht
  exact (pieceT_ok (h p hp)).1
theorem pathT_pos {L : List Int} (h : ∀ p ∈ L, 0 ≤ p ∧ p < 14) (h0 : L ≠ []) : 0 < (pathT L).cps.size := by
  cases L with
  | nil => exact absurd rfl h0
  | cons p r =>
    have hp := (pieceT_ok (h p (.head _))).2
    have e : (pathT (p :: r)).length = ((((p :: r).map pieceT)).map (·.length)).sum + (((p :: r).map pieceT).length - 1) * ("/" : Str).length := by
      unfold pathT
      exact size_glued "/" _
    have e2 : (pathT (p :: r)).cps.size = (pathT (p :: r)).length := rfl
    have e3 : (pieceT p).length = (pieceT p).cps.size := rfl
    rw [e2, e, List.map_cons, List.map_cons, List.sum_cons, e3]
    lia
theorem piecesL_ne (x : Int) : piecesL x ≠ [] := by
  unfold piecesL
  intro h
  have : (List.range (piecesN x)).length = 0 := by rw [← List.length_map (f := fun k => ((x.fdiv 3).fdiv ((14 : Int) ^ k)).fmod 14), h]; rfl
  rw [List.length_range] at this
  have e3 : x.fmod 3 = x % 3 := Int.fmod_eq_emod_of_nonneg x (by decide)
  unfold piecesN at this
  lia
theorem pth_ok (x : Int) : (pth x).cps.toList.all okC = true := pathT_ok (piecesL_lt _)

theorem cont_plain : ∀ c : Nat, c < 128 → Txt.contains (" \\" : Str) ⟨#[c]⟩ = (c == 32 || c == 92) := by decide +kernel
theorem cont_quot : ∀ c : Nat, c < 128 → Txt.contains ("\"\\" : Str) ⟨#[c]⟩ = (c == 34 || c == 92) := by decide +kernel

theorem sg_cps (path : Str) (x : Int) (k : Nat) : (sgT path x k).cps.toList = if shB path x k then [92, (path.cps[k]?).getD 0] else [(path.cps[k]?).getD 0] := by
  unfold sgT
  rw [cps_app]
  split <;> rfl
theorem enc_body {path : Str} {x : Int} {P : Nat → Prop} : ∀ ks : List Nat, (∀ k ∈ ks, shB path x k = false → P ((path.cps[k]?).getD 0)) → Enc P (ks.map fun k => (path.cps[k]?).getD 0) ((ks.map (sgT path x)).flatMap (·.cps.toList))
  | [], _ => .nil
  | k :: ks, h => by
    have ih := enc_body ks fun q hq => h q (.tail _ hq)
    rw [List.map_cons, List.map_cons, List.flatMap_cons, sg_cps]
    split
    · exact .esc ih
    · rename_i hs
      exact .lit (h k (.head _) (by simpa using hs)) ih
theorem path_range (path : Str) : ((List.range path.length).map fun k => (path.cps[k]?).getD 0) = path.cps.toList := by
  apply List.ext_getElem?
  intro i
  show _ = path.cps.toList[i]?
  rw [List.getElem?_map]
  by_cases hi : i < path.length
  · have hi' : i < path.cps.size := hi
    rw [List.getElem?_range hi]
    simp [hi']
  · have hi' : ¬ i < path.cps.size := hi
    rw [List.getElem?_eq_none (by rw [List.length_range]; lia)]
    simp at hi'
    simp [hi']
theorem body_cps (path : Str) (x : Int) : (bodyT path x).cps.toList = ((List.range path.length).map (sgT path x)).flatMap (·.cps.toList) := join_cps0 _
theorem okC_at {path : Str} (h : path.cps.toList.all okC = true) {k : Nat} (hk : k < path.length) : okC ((path.cps[k]?).getD 0) = true := by
  have hk' : k < path.cps.size := hk
  have e : (path.cps[k]?).getD 0 = path.cps.toList[k]'(by simpa using hk') := by simp [hk']
  rw [e]
  exact List.all_eq_true.mp h _ (List.getElem_mem _)
theorem okC_lt {c : Nat} (h : okC c = true) : c < 128 := by simp [okC] at h; exact h.1

theorem word_lex {path : Str} {x : Int} (h : path.cps.toList.all okC = true) (h0 : 0 < path.cps.size) {r : List Nat} (hr : Tail r) : ∃ r', lexO ((wordT path x).cps.toList ++ r) = (path, r') ∧ lexO r' = lexO r := by
  have hp : (⟨path.cps.toList.toArray⟩ : Str) = path := str_ext (by simp)
  by_cases hb : plainB x = true
  · have hq : quoteT x = " \\" := by unfold quoteT; rw [if_pos hb]
    have e1 : wordT path x = bodyT path x := by unfold wordT; rw [if_pos hb]
    rw [e1, body_cps]
    have henc := enc_body (path := path) (x := x) (P := fun c => c ≠ 92 ∧ isWs c = false) (List.range path.length) fun k hk hsh => by
      have hk' := List.mem_range.mp hk
      have hc := okC_at h hk'
      unfold shB at hsh
      simp only [Bool.or_eq_false_iff] at hsh
      rw [hq, cont_plain _ (okC_lt hc)] at hsh
      have h1 := hsh.1
      simp only [Bool.or_eq_false_iff, beq_eq_false_iff_ne] at h1
      refine ⟨h1.2, ?_⟩
      simp only [okC, Bool.and_eq_true, Bool.or_eq_true, Bool.not_eq_true', beq_iff_eq] at hc
      exact hc.2.elim id fun e => absurd e h1.1
    rw [path_range] at henc
    have hl0 : 0 < path.length := h0
    have hh : ∃ e t, ((List.range path.length).map (sgT path x)).flatMap (·.cps.toList) = e :: t ∧ e ≠ 34 ∧ isWs e = false := by
      obtain ⟨m, hm⟩ : ∃ m, path.length = m + 1 := ⟨path.length - 1, by lia⟩
      rw [hm, List.range_succ_eq_map, List.map_cons, List.flatMap_cons, sg_cps]
      by_cases hsh : shB path x 0 = true
      · rw [if_pos hsh]
        exact ⟨92, _, rfl, by decide, by decide⟩
      · rw [if_neg hsh]
        refine ⟨_, _, rfl, ?_, ?_⟩
        · have hsh' : shB path x 0 = false := by simpa using hsh
          unfold shB at hsh'
          simp only [Bool.or_eq_false_iff] at hsh'
          have h2 := hsh'.2.1
          rw [hb] at h2
          intro e
          rw [e] at h2
          exact absurd h2 (by decide +kernel)
        · have hc := okC_at h hl0
          have hsh' : shB path x 0 = false := by simpa using hsh
          unfold shB at hsh'
          simp only [Bool.or_eq_false_iff] at hsh'
          rw [hq, cont_plain _ (okC_lt hc)] at hsh'
          have h1 := hsh'.1
          simp only [Bool.or_eq_false_iff, beq_eq_false_iff_ne] at h1
          simp only [okC, Bool.and_eq_true, Bool.or_eq_true, Bool.not_eq_true', beq_iff_eq] at hc
          exact hc.2.elim id fun e => absurd e h1.1
    obtain ⟨r', g1, g2⟩ := lexO_plain henc hh hr
    rw [hp] at g1
    exact ⟨r', g1, g2⟩
  · have hb' : plainB x = false := by simpa using hb
    have hq : quoteT x = "\"\\" := by unfold quoteT; rw [if_neg hb]
    have e1 : wordT path x = "\"" ++ bodyT path x ++ "\"" := by unfold wordT; rw [if_neg hb]
    have henc := enc_body (path := path) (x := x) (P := fun c => c ≠ 92 ∧ c ≠ 34) (List.range path.length) fun k hk hsh => by
      have hk' := List.mem_range.mp hk
      have hc := okC_at h hk'
      unfold shB at hsh
      simp only [Bool.or_eq_false_iff] at hsh
      rw [hq, cont_quot _ (okC_lt hc)] at hsh
      have h1 := hsh.1
      simp only [Bool.or_eq_false_iff, beq_eq_false_iff_ne] at h1
      exact ⟨h1.2, h1.1⟩
    rw [path_range] at henc
    have e2 : (wordT path x).cps.toList ++ r = 34 :: (((List.range path.length).map (sgT path x)).flatMap (·.cps.toList) ++ 34 :: r) := by
      rw [e1, cps_app, cps_app, body_cps]
      show [34] ++ _ ++ [34] ++ r = _
      simp
    rw [e2, lexO_quot henc, hp]
    exact ⟨r, rfl, rfl⟩
end Mine
end

section
open PySem PySem.W PySem.Calls PyProof.Rows PySem.Builtin PySem.Builtin.Str
set_option Elab.async false
set_option linter.unusedVariables false
set_option linter.unusedSectionVars false
set_option maxRecDepth 10000
namespace Mine

noncomputable def txtC : Nat → List Int → List Nat
  | _, [] => []
  | k, x :: r => (glueT k).cps.toList ++ ((verb x).cps.toList ++ ((sep3 k).cps.toList ++ ((wordT (pth x) x).cps.toList ++ txtC (k + 1) r)))

theorem text_txt (N : List Int) : (textT N).cps.toList = txtC 0 N := by
  have key : ∀ (r pre : List Int), N = pre ++ r → ((List.range' pre.length r.length).map fun k => glueT k ++ lineT N k).flatMap (·.cps.toList) = txtC pre.length r := by
    intro r
    induction r with
    | nil => intro pre _; rfl
    | cons x r ih =>
      intro pre e
      have h1 : (N[pre.length]?).getD 0 = x := by rw [e]; simp
      have h2 := ih (pre ++ [x]) (by rw [e]; simp)
      rw [List.length_append, List.length_singleton] at h2
      rw [List.length_cons, List.range'_succ, List.map_cons, List.flatMap_cons, h2, cps_app]
      unfold lineT
      rw [h1, cps_app, cps_app]
      show _ = _ ++ (_ ++ (_ ++ (_ ++ txtC (pre.length + 1) r)))
      simp only [List.append_assoc]
  have h : List.flatMap (·.cps.toList) (List.map (fun k => glueT k ++ lineT N k) (List.range' 0 N.length)) = txtC 0 N := key N [] rfl
  rw [← h]
  unfold textT
  rw [join_cps0, List.range_eq_range']

theorem glue_ws (k : Nat) : ∀ c ∈ (glueT k).cps.toList, isWs c = true := by
  unfold glueT
  split
  · have : k % 3 < 3 := Nat.mod_lt _ (by decide)
    generalize k % 3 = j at *
    have h2 : ∀ j : Nat, j < 3 → (((([("\n" : Str), " ", "\n\n"])[j]?).getD "").cps.toList.all isWs) = true := by decide +kernel
    exact fun c hc => List.all_eq_true.mp (h2 j this) c hc
  · intro c hc
    have : ("" : Str).cps.toList = [] := rfl
    rw [this] at hc
    cases hc
theorem glue_ne {k : Nat} (h : 0 < k) : ∃ c t, (glueT k).cps.toList = c :: t ∧ isWs c = true := by
  have h1 := glue_ws k
  have h2 : (glueT k).cps.toList ≠ [] := by
    unfold glueT
    rw [if_pos h]
    have : k % 3 < 3 := Nat.mod_lt _ (by decide)
    generalize k % 3 = j at *
    have h2 : ∀ j : Nat, j < 3 → ((([("\n" : Str), " ", "\n\n"])[j]?).getD "").cps.toList ≠ [] := by decide +kernel
    exact h2 j this
  cases e : (glueT k).cps.toList with
  | nil => exact absurd e h2
  | cons c t => exact ⟨c, t, rfl, h1 c (by rw [e]; exact .head _)⟩
theorem sep_ws (k : Nat) : ∃ c, (sep3 k).cps.toList = [c] ∧ isWs c = true ∧ c < 128 := by
  unfold sep3
  have : k % 3 < 3 := Nat.mod_lt _ (by decide)
  generalize k % 3 = j at *
  have h2 : ∀ j : Nat, j < 3 → isWs (((" \t\r" : Str).cps[j]?).getD 0) = true ∧ ((" \t\r" : Str).cps[j]?).getD 0 < 128 := by decide +kernel
  exact ⟨_, rfl, (h2 j this).1, (h2 j this).2⟩
theorem tail_txt {k : Nat} (h : 0 < k) : ∀ r : List Int, Tail (txtC k r)
  | [] => .inl rfl
  | x :: r => by
    obtain ⟨c, t, e, hc⟩ := glue_ne h
    refine .inr ⟨c, t ++ ((verb x).cps.toList ++ ((sep3 k).cps.toList ++ ((wordT (pth x) x).cps.toList ++ txtC (k + 1) r))), ?_, hc⟩
    show (glueT k).cps.toList ++ _ = _
    rw [e]; rfl
theorem enc_lit {P : Nat → Prop} : ∀ {cs : List Nat}, (∀ c ∈ cs, P c) → Enc P cs cs
  | [], _ => .nil
  | c :: cs, h => .lit (h c (.head _)) (enc_lit fun q hq => h q (.tail _ hq))
theorem verb_ok (x : Int) : ((verb x).cps.toList.all fun c => c != 92 && !isWs c && decide (c < 128)) = true ∧ (∃ e t, (verb x).cps.toList = e :: t ∧ e ≠ 34 ∧ isWs e = false) ∧ ¬ verb x = "" := by
  unfold verb
  split
  · exact ⟨by decide +kernel, ⟨108, [101, 97, 118, 101], rfl, by decide, by decide⟩, by decide +kernel⟩
  · exact ⟨by decide +kernel, ⟨116, [97, 107, 101], rfl, by decide, by decide⟩, by decide +kernel⟩

variable [Star]
theorem pth_pos (x : Int) : 0 < (pth x).cps.size := pathT_pos (piecesL_lt _) (piecesL_ne _)
theorem pth_ne (x : Int) : ¬ pth x = "" := fun e => by
  have := pth_pos x
  rw [e] at this
  exact absurd this (by decide)
theorem txt_lex : ∀ (N : List Int) (k : Nat), lexAll (txtC k N) = wordsN N ∧ lexEnd (txtC k N) = []
  | [], k => by
    obtain ⟨a, b⟩ := lexAll_nil (cs := []) rfl
    exact ⟨a, b⟩
  | x :: r, k => by
    obtain ⟨i1, i2⟩ := txt_lex r (k + 1)
    obtain ⟨v1, v2, v3⟩ := verb_ok x
    obtain ⟨sc, s1, s2, _⟩ := sep_ws k
    have hp : (⟨(verb x).cps.toList.toArray⟩ : Str) = verb x := str_ext (by simp)
    have hv := enc_lit (P := fun c => c ≠ 92 ∧ isWs c = false) (cs := (verb x).cps.toList) fun c hc => by
      have := List.all_eq_true.mp v1 c hc
      simp at this
      exact ⟨this.1.1, this.1.2⟩
    obtain ⟨r1, g1, g2⟩ := lexO_plain (r := (sep3 k).cps.toList ++ ((wordT (pth x) x).cps.toList ++ txtC (k + 1) r)) hv v2 (.inr ⟨sc, (wordT (pth x) x).cps.toList ++ txtC (k + 1) r, by rw [s1]; rfl, s2⟩)
    rw [hp] at g1
    have g3 : lexO r1 = lexO ((wordT (pth x) x).cps.toList ++ txtC (k + 1) r) := by rw [g2, s1]; exact lexO_ws s2
    obtain ⟨a1, a2⟩ := lexAll_step g1 g3 v3
    obtain ⟨r2, g4, g5⟩ := word_lex (path := pth x) (x := x) (pth_ok x) (pth_pos x) (r := txtC (k + 1) r) (tail_txt (Nat.succ_pos k) r)
    obtain ⟨a3, a4⟩ := lexAll_step g4 g5 (pth_ne x)
    obtain ⟨a5, a6⟩ := lexAll_of (a := txtC k (x :: r)) (b := (verb x).cps.toList ++ ((sep3 k).cps.toList ++ ((wordT (pth x) x).cps.toList ++ txtC (k + 1) r))) (lexO_wss (glue_ws k))
    rw [a5, a6, a1, a2, a3, a4, i1, i2]
    exact ⟨rfl, rfl⟩

theorem nl_cnt : ∀ l : List Nat, nl l = cnt 10 l
  | [] => rfl
  | c :: r => by
    rw [cnt_cons, ← nl_cnt r]
    unfold nl
    by_cases h : c = 10
    · rw [if_pos h, List.filter_cons, if_pos (by simpa using h), List.length_cons]; push_cast; lia
    · rw [if_neg h, List.filter_cons, if_neg (by simpa using h)]; lia
theorem text_cnt (N : List Int) : nl (textT N).cps.toList = (Txt.count (textT N) "\n" : Int) := by
  rw [nl_cnt]
  exact (count_is (textT N) 10).symm

theorem word_asc (x : Int) : ∀ c ∈ (wordT (pth x) x).cps.toList, c < 128 := by
  have hb : ∀ c ∈ (bodyT (pth x) x).cps.toList, c < 128 := fun c hc => by
    rw [body_cps] at hc
    obtain ⟨t, ht, hct⟩ := List.mem_flatMap.mp hc
    obtain ⟨k, hk, rfl⟩ := List.mem_map.mp ht
    have := okC_lt (okC_at (pth_ok x) (List.mem_range.mp hk))
    rw [sg_cps] at hct
    split at hct <;> simp at hct
    · rcases hct with rfl | rfl
      · decide
      · simpa using this
    · rw [hct]; simpa using this
  unfold wordT
  split
  · exact hb
  · intro c hc
    rw [cps_app, cps_app] at hc
    have e : ("\"" : Str).cps.toList = [34] := rfl
    rw [e] at hc
    simp at hc
    rcases hc with rfl | hc | rfl
    · decide
    · exact hb c (by simpa using hc)
    · decide
theorem isWs_lt {c : Nat} (h : isWs c = true) : c < 128 := by
  simp [isWs] at h
  lia
theorem txt_asc : ∀ (N : List Int) (k : Nat), ∀ c ∈ txtC k N, c < 128
  | [], _, c, hc => by cases hc
  | x :: r, k, c, hc => by
    have hc' : c ∈ (glueT k).cps.toList ++ ((verb x).cps.toList ++ ((sep3 k).cps.toList ++ ((wordT (pth x) x).cps.toList ++ txtC (k + 1) r))) := hc
    rcases List.mem_append.mp hc' with h | h
    · exact isWs_lt (glue_ws k c h)
    rcases List.mem_append.mp h with h | h
    · have := List.all_eq_true.mp (verb_ok x).1 c h
      simp at this
      exact this.2
    rcases List.mem_append.mp h with h | h
    · obtain ⟨sc, s1, _, s3⟩ := sep_ws k
      rw [s1] at h
      simp at h
      rw [h]; exact s3
    rcases List.mem_append.mp h with h | h
    · exact word_asc x c h
    · exact txt_asc r (k + 1) c h
theorem strOk_of {x : Str} (h : ∀ c ∈ x.cps.toList, c < 128) : PyData.strOk x = true := by
  unfold PyData.strOk
  rw [← Array.all_toList, List.all_eq_true]
  intro c hc
  have := h c hc
  exact decide_eq_true (by lia)
theorem words_ok (N : List Int) : ∀ y ∈ wordsN N, PyData.strOk y = true := by
  intro y hy
  obtain ⟨x, _, hx⟩ := List.mem_flatMap.mp hy
  simp at hx
  rcases hx with rfl | rfl
  · exact strOk_of fun c hc => by
      have := List.all_eq_true.mp (verb_ok x).1 c hc
      simp at this
      exact this.2
  · exact strOk_of fun c hc => okC_lt (List.all_eq_true.mp (pth_ok x) c hc)
theorem pick_ix {α : Type} {l : List α} {n : Nat} {ix : List Nat} (hn : l.length = n) (h : sliceRange (sliceBounds (some 3) none (some 2) n).1 (sliceBounds (some 3) none (some 2) n).2.1 (sliceBounds (some 3) none (some 2) n).2.2 = ix) : pickD l (some 3) none (some 2) = ix.filterMap (l[·]?) := by
  subst hn
  unfold pickD
  rw [h]
theorem ix16 : sliceRange (sliceBounds (some 3) none (some 2) 16).1 (sliceBounds (some 3) none (some 2) 16).2.1 (sliceBounds (some 3) none (some 2) 16).2.2 = [3, 5, 7, 9, 11, 13, 15] := by decide +kernel
theorem ix18 : sliceRange (sliceBounds (some 3) none (some 2) 18).1 (sliceBounds (some 3) none (some 2) 18).2.1 (sliceBounds (some 3) none (some 2) 18).2.2 = [3, 5, 7, 9, 11, 13, 15, 17] := by decide +kernel
theorem ix20 : sliceRange (sliceBounds (some 3) none (some 2) 20).1 (sliceBounds (some 3) none (some 2) 20).2.1 (sliceBounds (some 3) none (some 2) 20).2.2 = [3, 5, 7, 9, 11, 13, 15, 17, 19] := by decide +kernel
theorem ix22 : sliceRange (sliceBounds (some 3) none (some 2) 22).1 (sliceBounds (some 3) none (some 2) 22).2.1 (sliceBounds (some 3) none (some 2) 22).2.2 = [3, 5, 7, 9, 11, 13, 15, 17, 19, 21] := by decide +kernel
theorem text_pk (ns : List Int) : pickD ((([("one" : Str), "two"] ++ wordsN (nums ns))).map D.str) (some 3) none (some 2) = ((nums ns).map fun x => pth x).map .str := by
  unfold nums
  generalize hT : ns.take 3 = T
  have hl : T.length ≤ 3 := by rw [← hT, List.length_take]; lia
  clear hT
  match T, hl with
  | [], _ => rw [pick_ix (n := 16) rfl ix16]; rfl
  | [a], _ => rw [pick_ix (n := 18) rfl ix18]; rfl
  | [a, b], _ => rw [pick_ix (n := 20) rfl ix20]; rfl
  | [a, b, c], _ => rw [pick_ix (n := 22) rfl ix22]; rfl
  | a :: b :: c :: d :: r, h => simp at h
end Mine
end

section
open PySem PySem.W PySem.Calls PyProof.Rows PySem.Builtin PySem.Builtin.Str
set_option Elab.async false
set_option linter.unusedVariables false
set_option linter.unusedSectionVars false
set_option maxRecDepth 10000
namespace Mine

noncomputable def jn : List (List Nat) → List Nat
  | [] => []
  | [a] => a
  | a :: b :: r => a ++ 47 :: jn (b :: r)
theorem jn_join : ∀ l : List Str, (Txt.join "/" l).cps.toList = jn (l.map (·.cps.toList)) := by
  intro l
  rw [show Txt.join "/" l = Str.join "/" l from StrLaws.glued_eq_join "/" l]
  induction l with
  | nil => rfl
  | cons x r ih =>
    cases r with
    | nil => rfl
    | cons y r =>
      show ((x ++ ("/" : Str)) ++ Str.join "/" (y :: r)).cps.toList = _
      rw [cps_app, cps_app, ih]
      show x.cps.toList ++ [47] ++ _ = x.cps.toList ++ 47 :: _
      simp
theorem cut_eq : ∀ {a b u v : List Nat}, 47 ∉ a → 47 ∉ b → a ++ 47 :: u = b ++ 47 :: v → a = b ∧ u = v
  | [], [], _, _, _, _, h => ⟨rfl, by simpa using h⟩
  | [], y :: b, _, _, _, hb, h => by
    simp at h
    exact absurd (.head _) (h.1 ▸ hb)
  | x :: a, [], _, _, ha, _, h => by
    simp at h
    exact absurd (.head _) (h.1 ▸ ha)
  | x :: a, y :: b, u, v, ha, hb, h => by
    simp only [List.cons_append, List.cons.injEq] at h
    obtain ⟨h1, h2⟩ := cut_eq (fun q => ha (.tail _ q)) (fun q => hb (.tail _ q)) h.2
    exact ⟨by rw [h.1, h1], h2⟩
theorem jn_inj : ∀ (A B : List (List Nat)), A ≠ [] → B ≠ [] → (∀ a ∈ A, 47 ∉ a) → (∀ b ∈ B, 47 ∉ b) → jn A = jn B → A = B
  | [], _, h, _, _, _, _ => absurd rfl h
  | _ :: _, [], _, h, _, _, _ => absurd rfl h
  | [a], [b], _, _, _, _, h => by
    have h' : a = b := h
    rw [h']
  | [a], b :: b' :: r, _, _, ha, hb, h => by
    have h' : a = b ++ 47 :: jn (b' :: r) := h
    exact absurd (by rw [h']; simp) (ha a (.head _))
  | a :: a' :: r, [b], _, _, ha, hb, h => by
    have h' : a ++ 47 :: jn (a' :: r) = b := h
    exact absurd (by rw [← h']; simp) (hb b (.head _))
  | a :: a' :: r, b :: b' :: r', _, _, ha, hb, h => by
    obtain ⟨h1, h2⟩ := cut_eq (ha a (.head _)) (hb b (.head _)) (show a ++ 47 :: jn (a' :: r) = b ++ 47 :: jn (b' :: r') from h)
    have := jn_inj (a' :: r) (b' :: r') (by simp) (by simp) (fun q hq => ha q (.tail _ hq)) (fun q hq => hb q (.tail _ hq)) h2
    rw [h1, this]
noncomputable def free47 (t : Str) : Bool := !(t.cps.toList.contains 47)
theorem free47_iff {t : Str} : free47 t = true ↔ 47 ∉ t.cps.toList := by simp [free47]
theorem map_cps_inj : ∀ {a b : List Str}, a.map (·.cps.toList) = b.map (·.cps.toList) → a = b
  | [], [], _ => rfl
  | [], _ :: _, h => by simp at h
  | _ :: _, [], h => by simp at h
  | x :: a, y :: b, h => by
    simp only [List.map_cons, List.cons.injEq] at h
    rw [str_ext h.1, map_cps_inj h.2]
theorem split_join {parts : List Str} (h0 : parts ≠ []) (hf : ∀ t ∈ parts, free47 t = true) {y : Str} (hy : y.cps.toList = jn (parts.map (·.cps.toList))) : Txt.split y "/" = parts := by
  have h1 := StrLaws.split_free y 47
  have h2 : Str.join "/" (Txt.split y "/") = y := StrLaws.join_split y "/"
  have h3 := split_pos y "/"
  have h4 : jn ((Txt.split y "/").map (·.cps.toList)) = jn (parts.map (·.cps.toList)) := by
    rw [← jn_join, show Txt.join "/" (Txt.split y "/") = Str.join "/" (Txt.split y "/") from StrLaws.glued_eq_join "/" _, h2, hy]
  have h5 := jn_inj _ _ (by intro e; have := congrArg List.length e; rw [List.length_map] at this; simp at this; rw [this] at h3; simp at h3) (by simpa using h0) (fun a ha => by
    obtain ⟨t, ht, rfl⟩ := List.mem_map.mp ha
    exact h1 t ht) (fun b hb => by
    obtain ⟨t, ht, rfl⟩ := List.mem_map.mp hb
    exact free47_iff.mp (hf t ht)) h4
  exact map_cps_inj h5

theorem pText_free : (pText.all fun t => free47 t && decide (t.length ≤ 7)) = true := by decide +kernel
theorem names_free : (allNames.all fun t => free47 t && decide (t.length ≤ 7)) = true := by decide +kernel
theorem pieceT_mem {p : Int} (h : 0 ≤ p ∧ p < 14) : pieceT p ∈ pText := by
  have h1 : p.toNat < pText.length := by show p.toNat < 14; lia
  unfold pieceT
  rw [List.getElem?_eq_getElem h1]
  exact List.getElem_mem h1
theorem path_parts {L : List Int} (h : ∀ p ∈ L, 0 ≤ p ∧ p < 14) (h0 : L ≠ []) : Txt.split ("r/" ++ pathT L) "/" = ("r" : Str) :: L.map pieceT := by
  refine split_join (by simp) (fun t ht => ?_) ?_
  · cases ht with
    | head => decide +kernel
    | tail _ ht =>
      obtain ⟨p, hp, rfl⟩ := List.mem_map.mp ht
      have := List.all_eq_true.mp pText_free _ (pieceT_mem (h p hp))
      simp only [Bool.and_eq_true] at this
      exact this.1
  · rw [cps_app]
    unfold pathT
    rw [jn_join]
    cases L with
    | nil => exact absurd rfl h0
    | cons p r =>
      rw [List.map_cons, List.map_cons, List.map_cons, List.map_cons]
      rfl

theorem nstep_piece {p : Int} (h : 0 ≤ p ∧ p < 14) {acc : List Str} (ha : ∀ t ∈ acc, t ∈ allNames) : nstep acc (pieceT p) = nstepP acc p ∧ ∀ t ∈ nstepP acc p, t ∈ allNames := by
  have hlast : (acc.getLastD "" == "..") = false := by
    cases e : acc.getLast? with
    | none => rw [List.getLastD_eq_getLast?, e]; decide +kernel
    | some t =>
      rw [List.getLastD_eq_getLast?, e]
      have ht := ha t (List.mem_of_getLast? e)
      have h2 : (allNames.all fun t => !(t == "..")) = true := by decide +kernel
      have := List.all_eq_true.mp h2 t ht
      simpa using this
  by_cases h12 : p < 12
  · have h1 : ((List.range 12).all fun k => !(n1 ((pText[k]?).getD "")) && (((pText[k]?).getD "") != "..") && allNames.contains ((pText[k]?).getD "")) = true := by decide +kernel
    have h2 := List.all_eq_true.mp h1 p.toNat (List.mem_range.mpr (by lia))
    simp only [Bool.and_eq_true, Bool.not_eq_true'] at h2
    have e : (pText[p.toNat]?).getD "" = pieceT p := rfl
    rw [e] at h2
    have e2 : nstepP acc p = acc ++ [pieceT p] := by unfold nstepP; rw [if_pos h12]
    rw [e2]
    refine ⟨?_, fun t ht => ?_⟩
    · unfold nstep
      rw [if_neg (by rw [h2.1.1]; decide)]
      have h3 : n2 acc (pieceT p) = true := by unfold n2; rw [h2.1.2]; rfl
      rw [if_pos h3]
    · rcases List.mem_append.mp ht with q | q
      · exact ha t q
      · simp at q; rw [q]; simpa using h2.2
  · by_cases h12' : p = 12
    · subst h12'
      have e2 : nstepP acc 12 = acc := rfl
      rw [e2]
      refine ⟨?_, ha⟩
      unfold nstep
      rw [if_pos (by decide +kernel)]
    · have h13 : p = 13 := by lia
      subst h13
      have e2 : nstepP acc 13 = acc.dropLast := rfl
      rw [e2]
      refine ⟨?_, fun t ht => ha t (List.dropLast_subset _ ht)⟩
      have e3 : pieceT 13 = ".." := rfl
      rw [e3]
      unfold nstep
      rw [if_neg (by decide +kernel)]
      have h4 : n2 acc ".." = false := by
        have a1 : (("..":Str) != "..") = false := by decide +kernel
        have a2 : (!((("/" : Str).length : Int) != 0)) = false := by decide +kernel
        unfold n2
        rw [hlast, a1, a2]
        simp
      rw [if_neg (by rw [h4]; decide)]
      cases acc <;> rfl
theorem nfold : ∀ {L : List Int} {acc : List Str}, (∀ p ∈ L, 0 ≤ p ∧ p < 14) → (∀ t ∈ acc, t ∈ allNames) → (L.map pieceT).foldl nstep acc = L.foldl nstepP acc ∧ ∀ t ∈ L.foldl nstepP acc, t ∈ allNames
  | [], _, _, ha => ⟨rfl, ha⟩
  | p :: r, acc, h, ha => by
    obtain ⟨h1, h2⟩ := nstep_piece (h p (.head _)) ha
    rw [List.map_cons, List.foldl_cons, List.foldl_cons, h1]
    exact nfold (fun q hq => h q (.tail _ hq)) h2
end Mine
end

section
open PySem PySem.W PySem.Calls PyProof.Rows PySem.Builtin PySem.Builtin.Str
set_option Elab.async false
set_option linter.unusedVariables false
set_option linter.unusedSectionVars false
set_option maxRecDepth 10000
namespace Mine

theorem comL_eq {L : List Int} (h : ∀ p ∈ L, 0 ≤ p ∧ p < 14) (h0 : L ≠ []) : comL (pathT L) = nmsL L ∧ ∀ t ∈ nmsL L, t ∈ allNames := by
  unfold comL nmsL
  rw [path_parts h h0, List.foldl_cons]
  have e : nstep [] "r" = [("r" : Str)] := by decide +kernel
  rw [e]
  exact nfold h fun t ht => by simp at ht; rw [ht]; decide +kernel
theorem nmL_eq {L : List Int} (h : ∀ p ∈ L, 0 ≤ p ∧ p < 14) (h0 : L ≠ []) : nmL L = if nmsL L = [] then [("" : Str)] else nmsL L := by
  obtain ⟨h1, h2⟩ := comL_eq h h0
  unfold nmL nmT
  rw [h1]
  by_cases he : nmsL L = []
  · rw [if_pos he, he]
    decide +kernel
  · have hs : Txt.split ("/" ++ Txt.join "/" (nmsL L)) "/" = ("" : Str) :: nmsL L := by
      refine split_join (by simp) (fun t ht => ?_) ?_
      cases ht with
      | head => decide +kernel
      | tail _ ht =>
        have := List.all_eq_true.mp names_free _ (h2 t ht)
        simp only [Bool.and_eq_true] at this
        exact this.1
      rw [cps_app, jn_join]
      cases e : nmsL L with
      | nil => exact absurd e he
      | cons p r => rfl
    rw [if_neg he, hs]
    rfl
theorem nmsL_len (L : List Int) : (nmsL L).length ≤ L.length + 1 := by
  have key : ∀ (L : List Int) (acc : List Str), (L.foldl nstepP acc).length ≤ acc.length + L.length := by
    intro L
    induction L with
    | nil => intro acc; simp
    | cons p r ih =>
      intro acc
      rw [List.foldl_cons, List.length_cons]
      have h1 := ih (nstepP acc p)
      have h2 : (nstepP acc p).length ≤ acc.length + 1 := by
        unfold nstepP
        split
        · simp
        · split
          · (exact Nat.le_succ _)
          · rw [List.length_dropLast]; lia
      lia
  have := key L ["r"]
  unfold nmsL
  simp at this
  lia

theorem cps_len (x : Str) : x.cps.toList.length = x.length := by show _ = x.cps.size; simp
variable [Star]
theorem nm_ok {L : List Int} (h : ∀ p ∈ L, 0 ≤ p ∧ p < 14) (h0 : L ≠ []) (hl : L.length ≤ 3) : NmOk L := by
  have hp := path_parts h h0
  obtain ⟨c1, c2⟩ := comL_eq h h0
  have hn := nmL_eq h h0
  have hnl := nmsL_len L
  have hall : ∀ t ∈ nmL L, t ∈ allNames := by
    rw [hn]
    split
    · intro t ht; simp at ht; rw [ht]; decide +kernel
    · exact c2
  have hpl := pathT_len h hl
  have hps := pathT_pos h h0
  -- the first sign
  have hy0 : ∃ c t, (pathT L).cps.toList = c :: t ∧ c ≠ 47 := by
    cases L with
    | nil => exact absurd rfl h0
    | cons p r =>
      have hm := List.all_eq_true.mp pText_free _ (pieceT_mem (h p (.head _)))
      simp only [Bool.and_eq_true] at hm
      have h47 := free47_iff.mp hm.1
      have hpos := (pieceT_ok (h p (.head _))).2
      obtain ⟨c, t, e⟩ : ∃ c t, (pieceT p).cps.toList = c :: t := by
        cases e : (pieceT p).cps.toList with
        | nil => have := cps_len (pieceT p); rw [e] at this; simp at this; have h' : 0 < (pieceT p).length := hpos; lia
        | cons c t => exact ⟨c, t, rfl⟩
      have hc : c ≠ 47 := fun q => h47 (by rw [e, q]; exact .head _)
      unfold pathT
      rw [jn_join]
      cases r with
      | nil => exact ⟨c, t, e, hc⟩
      | cons q r =>
        refine ⟨c, t ++ 47 :: jn ((q :: r).map pieceT |>.map (·.cps.toList)), ?_, hc⟩
        show (pieceT p).cps.toList ++ 47 :: _ = _
        rw [e]
        rfl
  obtain ⟨c, t, e, hc⟩ := hy0
  have hx : ("/r" ++ ("/" ++ pathT L) : Str).cps.toList = 47 :: 114 :: 47 :: (pathT L).cps.toList := by rw [cps_app, cps_app]; rfl
  have hxl : ("/r" ++ ("/" ++ pathT L) : Str).length = (pathT L).length + 3 := by rw [← cps_len, hx, List.length_cons, List.length_cons, List.length_cons, cps_len]
  refine { len := ?_, each := ?_, st := ?_, all := hall, nl := ?_, s1 := ?_, s2 := ?_, s3 := ?_, n10 := ?_ }
  · rw [hp, List.length_cons, List.length_map]; lia
  · rw [hp]
    intro t ht
    cases ht with
    | head => decide +kernel
    | tail _ ht =>
      obtain ⟨p, hpm, rfl⟩ := List.mem_map.mp ht
      have := pieceT_len (h p hpm)
      lia
  · unfold Txt.startswith
    rw [Bool.and_eq_false_iff]
    right
    unfold subAt
    rw [beq_eq_false_iff_ne]
    intro q
    have q' := congrArg Array.toList q
    rw [Array.toList_extract] at q'
    have : ("/" : Str).length = 1 := rfl
    rw [this] at q'
    have e2 : ("/" : Str).cps.toList = [47] := rfl
    rw [e2, e] at q'
    simp at q'
    exact hc q'
  · unfold nmT
    rw [c1, Str.length_append]
    have h1 : ("/" : Str).length = 1 := rfl
    have h2 : (Txt.join "/" (nmsL L)).length = ((nmsL L).map (·.length)).sum + ((nmsL L).length - 1) * ("/" : Str).length := size_glued "/" _
    have h3 : ∀ l : List Str, (∀ t ∈ l, t ∈ allNames) → (l.map (·.length)).sum ≤ 7 * l.length := by
      intro l
      induction l with
      | nil => simp
      | cons a r ih =>
        intro hq
        have := List.all_eq_true.mp names_free _ (hq a (.head _))
        simp only [Bool.and_eq_true, decide_eq_true_eq] at this
        have h4 := ih fun t ht => hq t (.tail _ ht)
        simp only [List.map_cons, List.sum_cons, List.length_cons]
        lia
    have h4 := h3 _ c2
    rw [h2, h1]
    lia
  · have := slice_closes_fromL (x := "/r" ++ ("/" ++ pathT L)) (i := 1) (b := (("/r" ++ ("/" ++ pathT L) : Str).length : Int)) (by decide) (by rw [hxl]; lia) rfl
    rw [eq_of_beq this]
    refine str_ext ?_
    rw [hx, hxl, cps_app]
    show List.take _ (List.drop 1 _) = 114 :: 47 :: _
    rw [List.drop_succ_cons, List.drop_zero]
    rw [List.take_of_length_le (by rw [List.length_cons, List.length_cons, cps_len]; lia)]
    rfl
  · have := slice_closes_toL (x := "/r" ++ ("/" ++ pathT L)) (j := 1) (by decide) (by rw [hxl]; lia)
    rw [eq_of_beq this, hx]
    rfl
  · have := slice_closesL (x := "/r" ++ ("/" ++ pathT L)) (i := 1) (j := 2) (by decide) (by decide) (by rw [hxl]; lia)
    rw [eq_of_beq this, hx]
    have e2 : (List.take (2 - 1 : Int).toNat (List.drop (Int.toNat 1) (47 :: 114 :: 47 :: (pathT L).cps.toList))) = [114] := rfl
    rw [e2]
    decide +kernel
  · rw [hn]
    split
    · simp
    · lia
end Mine
end

section
open PySem PySem.W PySem.Calls PyProof.Rows PySem.Builtin PySem.Builtin.Str
set_option Elab.async false
set_option linter.unusedVariables false
set_option linter.unusedSectionVars false
set_option maxRecDepth 10000
namespace Mine

noncomputable def pairP (p : Int) : Str × List It := (pieceT p, (itemsI[p.toNat]?).getD [])
noncomputable def pstep (acc : List (Str × List It)) (p : Int) : List (Str × List It) := if p < 12 then acc ++ [pairP p] else if p == 12 then acc else acc.dropLast
noncomputable def pfold (L : List Int) : List (Str × List It) := L.foldl pstep [(("r" : Str), [oneI "r"])]
noncomputable def allPairs : List (Str × List It) := (("r" : Str), [oneI "r"]) :: (List.range 12).map fun (k : Nat) => pairP (k : Int)
theorem pfold_fst (L : List Int) : (pfold L).map (·.1) = nmsL L := by
  have key : ∀ (L : List Int) (acc : List (Str × List It)), (L.foldl pstep acc).map (·.1) = L.foldl nstepP (acc.map (·.1)) := by
    intro L
    induction L with
    | nil => intro acc; rfl
    | cons p r ih =>
      intro acc
      rw [List.foldl_cons, List.foldl_cons, ih]
      congr 1
      unfold pstep nstepP
      split
      · rw [List.map_append]; rfl
      · split
        · rfl
        · rw [List.map_dropLast]
  exact key L _
theorem pfold_snd (L : List Int) : (pfold L).map (·.2) = ownL L := by
  have key : ∀ (L : List Int) (acc : List (Str × List It)), (L.foldl pstep acc).map (·.2) = L.foldl ownStep (acc.map (·.2)) := by
    intro L
    induction L with
    | nil => intro acc; rfl
    | cons p r ih =>
      intro acc
      rw [List.foldl_cons, List.foldl_cons, ih]
      congr 1
      unfold pstep ownStep
      split
      · rw [List.map_append]; rfl
      · split
        · rfl
        · rw [List.map_dropLast]
  exact key L _
theorem pfold_mem {L : List Int} (h : ∀ p ∈ L, 0 ≤ p ∧ p < 14) : ∀ q ∈ pfold L, q ∈ allPairs := by
  have key : ∀ (L : List Int) (acc : List (Str × List It)), (∀ p ∈ L, 0 ≤ p ∧ p < 14) → (∀ q ∈ acc, q ∈ allPairs) → ∀ q ∈ L.foldl pstep acc, q ∈ allPairs := by
    intro L
    induction L with
    | nil => intro acc _ ha; exact ha
    | cons p r ih =>
      intro acc hp ha
      rw [List.foldl_cons]
      refine ih _ (fun q hq => hp q (.tail _ hq)) fun q hq => ?_
      unfold pstep at hq
      split at hq
      · rename_i h12
        rcases List.mem_append.mp hq with hq | hq
        · exact ha q hq
        · simp at hq
          have h0 := (hp p (.head _)).1
          have e : p = ((p.toNat : Nat) : Int) := by lia
          rw [hq]
          refine .tail _ (List.mem_map.mpr ⟨p.toNat, List.mem_range.mpr (by lia), ?_⟩)
          rw [← e]
      · split at hq
        · exact ha q hq
        · exact ha q (List.dropLast_subset _ hq)
  exact key L _ h fun q hq => by simp at hq; rw [hq]; exact .head _

noncomputable def plNames : List Str := placesL.flatMap plN
theorem meant_all : (allPairs.all fun q => plNames.all fun t => meant (thI q.1) t == meant q.2 t) = true := by decide +kernel
theorem hit_nil : (placesL.all fun p => hit [thI ""] (plN p) == hit [] (plN p)) = true := by decide +kernel

theorem hit_eq {Q : List (Str × List It)} (hQ : ∀ q ∈ Q, q ∈ allPairs) {names : List Str} (hn : ∀ t ∈ names, t ∈ plNames) : hit ((Q.map (·.1)).map thI) names = hit (Q.map (·.2)) names := by
  have e : hitIx ((Q.map (·.1)).map thI) names = hitIx (Q.map (·.2)) names := by
    unfold hitIx
    refine List.filter_congr fun k hk => ?_
    have hk' := List.mem_range.mp hk
    congr 1
    rw [List.getElem?_map, List.getElem?_map, List.getElem?_map]
    cases eq : Q[k]? with
    | none => rfl
    | some q =>
      have hq := List.mem_of_getElem? eq
      have ht : (names[k]?).getD "" ∈ plNames := by
        rw [List.getElem?_eq_getElem hk']
        exact hn _ (List.getElem_mem hk')
      have := List.all_eq_true.mp (List.all_eq_true.mp meant_all q (hQ q hq)) _ ht
      exact eq_of_beq this
  unfold hit
  rw [e, List.length_map, List.length_map, List.length_map]

variable [Star]
theorem hit_L {L : List Int} (h : ∀ p ∈ L, 0 ≤ p ∧ p < 14) (h0 : L ≠ []) {p : Str} (hp : p ∈ placesL) : hit (ruleL L) (plN p) = hit (ownL L) (plN p) := by
  have hn := nmL_eq h h0
  unfold ruleL
  rw [hn, ← pfold_snd, ← pfold_fst]
  by_cases he : (pfold L).map (·.1) = []
  · rw [if_pos he]
    have e2 : pfold L = [] := List.map_eq_nil_iff.mp he
    rw [e2]
    have := List.all_eq_true.mp hit_nil p hp
    exact eq_of_beq this
  · rw [if_neg he]
    exact hit_eq (pfold_mem h) fun t ht => List.mem_flatMap.mpr ⟨p, hp, ht⟩
theorem opt_hit {f g : Int → List (List It)} {names : List Str} (h : ∀ x, hit (f x) names = hit (g x) names) (o : Option Int) : hit ((o.map f).getD []) names = hit ((o.map g).getD []) names := by
  cases o with
  | none => simp only [Option.map_none]
  | some x => simp only [Option.map_some, Option.getD_some]; exact h x
theorem hits_gen {f g : Int → List (List It)} {names : List Str} (h : ∀ x, hit (f x) names = hit (g x) names) (N : List Int) : hitsL (N.map f) names = hitsL (N.map g) names := by
  have e : hitStep (N.map f) names = hitStep (N.map g) names := by
    funext acc k
    unfold hitStep
    rw [List.getElem?_map, List.getElem?_map, opt_hit h]
  unfold hitsL
  rw [e, List.length_map, List.length_map]
theorem hit_x {p : Str} (hp : p ∈ placesL) (x : Int) : hit (ruleL (piecesL (x.fdiv 4))) (plN p) = hit (ownL (piecesL (x.fdiv 4))) (plN p) := by
  have h1 := piecesL_lt (x.fdiv 4)
  have h2 := piecesL_ne (x.fdiv 4)
  generalize piecesL (x.fdiv 4) = L at h1 h2 ⊢
  exact hit_L h1 h2 hp
theorem hits_eq (N : List Int) {p : Str} (hp : p ∈ placesL) : hitsL (rulesN N) (plN p) = hitsL (dueN N) (plN p) := by
  unfold rulesN dueN
  exact hits_gen (fun x => hit_x hp x) N

theorem law_ok (ns : List Int) : LawOk (nums ns) where
  asc := by rw [text_txt]; exact txt_asc _ 0
  lx := by rw [text_txt]; exact (txt_lex _ 0).1
  le := by rw [text_txt]; exact (txt_lex _ 0).2
  cnt := text_cnt _
  nm := fun x _ => nm_ok (piecesL_lt _) (piecesL_ne _) (piecesL_len _)
  hh := fun p hp => hits_eq _ hp
  pk := text_pk ns
  ok := words_ok _
end Mine
end

section
open PySem PySem.W PySem.Calls PyProof.Rows
set_option Elab.async false
set_option linter.unusedVariables false
set_option maxRecDepth 100000
namespace Mine

inductive FnAt (K : Frag) (fbody : List Stmt) (fscope : Scope) (a : Nat) (names : List Str) : Prop
  | mk (o : Obj) (fd : FuncData) (c : Nat) (oc : Obj) (vs : Array Value) (t : Tok) (h1_ : K.lookup a = some o) (h2_ : o.cls = .type "function") (h3_ : o.data = .func fd) (h4_ : fd.code = .ref c) (h5_ : K.lookup c = some oc) (h6_ : oc.data = .fields vs) (h7_ : vs[1]? = some (.str fd.qualname t)) (h8_ : fd.body = .stmts fbody) (h9_ : fd.scope = fscope) (h10_ : fd.closure = []) (h11_ : fd.globals = mainGlobals) (h12_ : fd.builtins = builtinsNs) (h13_ : ∀ vs : List Value, vs.length = names.length → bindArgs fd ⟨vs, []⟩ = pure (names.zip vs))
structure FnIn (K : Frag) (fbody : List Stmt) (fscope : Scope) (a : Nat) (names : List Str) : Prop where
  at_ : FnAt K fbody fscope a names

section
variable {B : Heap} {K : Frag} {mg mb : Str → Option Value}
theorem gfn_of (X : K.In B) (hmg : B.Ns mainGlobals mg) {f : Str} {a : Nat} (hn : nsIn K mainGlobals f = some (some (.ref a))) {fbody fscope names} (F : FnIn K fbody fscope a names) : GlobFn B f a := by
  obtain ⟨o, fd, c, oc, vs, t, h1, h2, h3, _⟩ := F.at_
  exact ⟨mg, o, fd, hmg, mg_of X hmg hn, X _ _ h1, h3⟩
theorem gr_of (X : K.In B) (hmg : B.Ns mainGlobals mg) (hlim : B.NoLimit) {i : Nat} {f : Str} {a : Nat} {names : List Str} (hn : nsIn K mainGlobals f = some (some (.ref a))) (F : FnIn K (fb i) (fsc i) a names) (ok : defOk (fsc i) names = true) (hq : (fsc i).names.lookup ("QUESTION_MARK" : Str) ≠ some .local) : Gr B i f a names := by
  refine ⟨gfn_of X hmg hn F, ?_, hlim, ok⟩
  obtain ⟨o, fd, c, oc, vs, t, h1, h2, h3, h4, h5, h6, h7, h8, h9, h10, h11, h12, h13⟩ := F.at_
  exact ⟨o, fd, X _ _ h1, h3, ⟨c, oc, vs, t, h4, X _ _ h5, h6, h7⟩, h8, h9, h10, h11, h12, fun q => absurd q hq, h13⟩
theorem mgr_of (X : K.In B) {k f : Nat} {names : List Str} (F : FnIn K (cfb k) (csc k) f names) (ok : defOk (csc k) names = true) (hq : (csc k).names.lookup ("QUESTION_MARK" : Str) = none) : MGr B k f names := by
  refine ⟨?_, ok, hq⟩
  obtain ⟨o, fd, c, oc, vs, t, h1, h2, h3, h4, h5, h6, h7, h8, h9, h10, h11, h12, h13⟩ := F.at_
  exact ⟨o, fd, X _ _ h1, h2, h3, ⟨c, oc, vs, t, h4, X _ _ h5, h6, h7⟩, h8, h9, h10, h11, h12, h13⟩
theorem ns_of_K (X : K.In B) {N : Nat} {o : Obj} {es ep} (h1 : K.lookup N = some o) (h2 : o.data = .dict es ep) (h3 : (es.toList.all fun e => match e.key with | .str _ _ => true | _ => false) = true) : B.Ns N (nsFind es) := by
  refine ⟨o, es, ep, X _ _ h1, h2, fun e he => ?_, fun _ => rfl⟩
  have := List.all_eq_true.mp h3 e (by simpa using he)
  revert this
  split
  · rename_i n t q; exact fun _ => ⟨n, t, q⟩
  · intro h; cases h
theorem blt_of (X : K.In B) (hmg : B.Ns mainGlobals mg) (hmb : B.Ns builtinsNs mb) (hb : ∀ x : Str, x ≠ "__name__" → mb x = bootBuiltins x) {f : Str} {v : Value} (hn : nsIn K mainGlobals f = some none) (h1 : f ≠ "__name__") (h2 : bootBuiltins f = some v) : GlobBlt B f v :=
  ⟨mg, mb, hmg, mg_none_of X hmg hn, hmb, (hb f h1).trans h2⟩
end
theorem len1 {vs : List Value} (e : vs.length = 1) : ∃ u, vs = [u] := List.length_eq_one_iff.mp e
theorem len2 : ∀ {vs : List Value}, vs.length = 2 → ∃ u v, vs = [u, v]
  | a :: r, e => let ⟨b, h⟩ := len1 (Nat.succ.inj e); ⟨a, b, congrArg (a :: ·) h⟩
theorem len3 : ∀ {vs : List Value}, vs.length = 3 → ∃ u v w, vs = [u, v, w]
  | a :: r, e => let ⟨b, c, h⟩ := len2 (Nat.succ.inj e); ⟨a, b, c, congrArg (a :: ·) h⟩
theorem b1 {k : Str} {fd : FuncData} (h : ∀ v, bindArgs fd ⟨[v], []⟩ = pure [(k, v)]) (vs : List Value) (e : vs.length = [k].length) : bindArgs fd ⟨vs, []⟩ = pure ([k].zip vs) := by
  obtain ⟨v, rfl⟩ := List.length_eq_one_iff.mp e
  exact h v
theorem b2 {k l : Str} {fd : FuncData} (h : ∀ u v, bindArgs fd ⟨[u, v], []⟩ = pure [(k, u), (l, v)]) (vs : List Value) (e : vs.length = [k, l].length) : bindArgs fd ⟨vs, []⟩ = pure ([k, l].zip vs) := by
  obtain ⟨u, v, rfl⟩ := len2 e
  exact h u v
theorem b3 {k l m : Str} {fd : FuncData} (h : ∀ u v w, bindArgs fd ⟨[u, v, w], []⟩ = pure [(k, u), (l, v), (m, w)]) (vs : List Value) (e : vs.length = [k, l, m].length) : bindArgs fd ⟨vs, []⟩ = pure ([k, l, m].zip vs) := by
  obtain ⟨u, v, w, rfl⟩ := len3 e
  exact h u v w
noncomputable def bltNames : List Str := ["range", "len", "type", "str", "bytes", "isinstance", "issubclass", "list", "chr", "ord", "iter"]
noncomputable def noNames : List Str := ["__getattribute__", "__getattr__", "__setattr__", "lineno", "instream", "whitespace", "pushback"]
structure KOk (K : Frag) : Prop where
  f27 : FnIn K (fb 27) (fsc 27) 217 ["k"]
  f28 : FnIn K (fb 28) (fsc 28) 222 ["x"]
  f29 : FnIn K (fb 29) (fsc 29) 227 ["pieces"]
  f30 : FnIn K (fb 30) (fsc 30) 232 ["path", "x"]
  f18 : FnIn K (fb 18) (fsc 18) 177 ["path"]
  f22 : FnIn K (fb 22) (fsc 22) 191 ["path"]
  f24 : FnIn K (fb 24) (fsc 24) 205 ["p"]
  f25 : FnIn K (fb 25) (fsc 25) 212 ["path"]
  f32 : FnIn K (fb 32) (fsc 32) 244 ["items", "name"]
  f35 : FnIn K (fb 35) (fsc 35) 263 ["pieces"]
  f36 : FnIn K (fb 36) (fsc 36) 268 ["rules", "names"]
  f7 : FnIn K (fb 7) (fsc 7) 97 ["pattern"]
  f9 : FnIn K (fb 9) (fsc 9) 104 ["pat", "STAR", "QUESTION_MARK"]
  f33 : FnIn K (fb 33) (fsc 33) 249 ["pattern"]
  f34 : FnIn K (fb 34) (fsc 34) 256 ["lexer"]
  f31 : FnIn K (fb 31) (fsc 31) 239 ["text"]
  f37 : FnIn K (fb 37) (fsc 37) 273 ["script"]
  m0 : FnIn K (cfb 0) (csc 0) 52 ["self", "fp"]
  m1 : FnIn K (cfb 1) (csc 1) 59 ["self"]
  m2 : FnIn K (cfb 2) (csc 2) 66 ["self"]
  m3 : FnIn K (cfb 3) (csc 3) 73 ["self", "token"]
  nf27 : nsIn K mainGlobals "_law_items" = some (some (.ref 217))
  nf28 : nsIn K mainGlobals "_law_pieces" = some (some (.ref 222))
  nf29 : nsIn K mainGlobals "_law_path" = some (some (.ref 227))
  nf30 : nsIn K mainGlobals "_law_word" = some (some (.ref 232))
  nf18 : nsIn K mainGlobals "fspath" = some (some (.ref 177))
  nf22 : nsIn K mainGlobals "_get_sep" = some (some (.ref 191))
  nf24 : nsIn K mainGlobals "splitroot" = some (some (.ref 205))
  nf25 : nsIn K mainGlobals "normpath" = some (some (.ref 212))
  nf32 : nsIn K mainGlobals "_law_meant" = some (some (.ref 244))
  nf35 : nsIn K mainGlobals "_law_own" = some (some (.ref 263))
  nf36 : nsIn K mainGlobals "_law_hits" = some (some (.ref 268))
  nf7 : nsIn K mainGlobals "escape" = some (some (.ref 97))
  nf9 : nsIn K mainGlobals "_translate" = some (some (.ref 104))
  nf33 : nsIn K mainGlobals "_law_things" = some (some (.ref 249))
  nf34 : nsIn K mainGlobals "_law_words" = some (some (.ref 256))
  nf31 : nsIn K mainGlobals "_law_stream" = some (some (.ref 239))
  nf37 : nsIn K mainGlobals "law" = some (some (.ref 273))
  njoin : nsIn K mainGlobals "join" = some (some (.ref 198))
  nmap : nsIn K mainGlobals "_special_chars_map" = some (some (.ref 87))
  ntwin : nsIn K mainGlobals "_twin_re_1" = some (some (.ref 85))
  ncls : nsIn K mainGlobals "_netrclex" = some (some (.ref 76))
  blt : ∀ f : Str, f ∈ bltNames → nsIn K mainGlobals f = some none
  cls : ∃ nm q bs sn sub col dd k0 k1 k2 k3 k5, K.lookup 76 = some (excClassObj nm q 76 75 bs [.type "object"] true sn sub false col dd k0 k1 k2 k3 k5 "object.__new__")
  ns : ∃ o es ep, K.lookup 75 = some o ∧ o.data = .dict es ep ∧ (es.toList.all fun e => match e.key with | .str _ _ => true | _ => false) = true ∧ nsFind es "__init__" = some (.ref 52) ∧ nsFind es "_read_char" = some (.ref 59) ∧ nsFind es "get_token" = some (.ref 66) ∧ nsFind es "push_token" = some (.ref 73)
  nsno : ∀ f : Str, f ∈ noNames → nsIn K 75 f = some none
  makes : makesIn K 76 = true
  init : findIn K (.ref 76) "__init__" = some (some (.ref 52))
  bind : typeIn K (.ref 52) = some (.type "function")
  keep : keepIn K (.ref 76) = true
  esc : ∃ o es ep, K.lookup 87 = some o ∧ o.ExactDict ∧ o.data = .dict es ep ∧ ((es.toList.all fun e => match e.key with | .int k _ => e.hash == hashInt k | _ => false) = true ∧ (∃ t, findBy Value.isInt es 32 = some (.str "\\ " t)) ∧ (∃ t, findBy Value.isInt es 92 = some (.str "\\\\" t)) ∧ ∀ c : Nat, c ∈ [97, 98, 101, 103, 114, 34] → findBy Value.isInt es (c : Int) = none)
  pat : ∃ t1 t2, K.lookup 85 = some { cls := .type "re.Pattern", dict := none, data := .fields #[.str "([&~|])" t1, .int 32 t2, .int 1 0, .none, .none, .ref 84, .int 0 0], slots := #[] }
  code : K.lookup 84 = some { cls := .type "tuple", dict := none, data := .seq subTup 0, slots := #[] }
  join : ∃ o fd c oc vs t, K.lookup 198 = some o ∧ o.data = .func fd ∧ fd.code = .ref c ∧ K.lookup c = some oc ∧ oc.data = .fields vs ∧ vs[1]? = some (.str fd.qualname t) ∧ fd.body = .stmts (fb 23) ∧ fd.scope = fsc 23 ∧ fd.closure = [] ∧ fd.globals = mainGlobals ∧ fd.builtins = builtinsNs ∧ ∀ u v : Value, bindArgs fd ⟨[u, v], []⟩ = (do let t ← newTuple [v]; pure [(("a" : Str), u), (("p" : Str), t)])
  c99 : codeHdIn K 103 99 = true
  c234 : codeHdIn K 238 234 = true
  notabs : noTabs K = true
  c104 : ∃ o fd, K.lookup 104 = some o ∧ o.data = .func fd ∧ fd.code = .ref 103
  c239 : ∃ o fd, K.lookup 239 = some o ∧ o.data = .func fd ∧ fd.code = .ref 238
end Mine
end

section
open PySem PySem.W PySem.Calls PyProof.Rows
set_option Elab.async false
set_option linter.unusedVariables false
set_option linter.unusedSectionVars false
set_option maxRecDepth 100000
namespace Mine

theorem ints_items : ∀ xs : List WData, WShape.hasItems [] xs .int = true → ∃ ns : List Int, xs = ns.map .int
  | [], _ => ⟨[], rfl⟩
  | x :: xs, h => by
    have h' : (WShape.has [] x .int && WShape.hasItems [] xs .int) = true := h
    obtain ⟨h1, h2⟩ := Bool.and_eq_true_iff.mp h'
    obtain ⟨ns, e⟩ := ints_items xs h2
    cases x with
    | int i => exact ⟨i :: ns, congrArg (WData.int i :: ·) e⟩
    | _ => exact nomatch (show false = true from h1)
theorem args_of {args : List WData} (h : PySem.Challenge.rw_in0071_01.row.toRowW.claim.pre args = true) : ∃ ns : List Int, args = [.list (ns.map .int)] ∧ ns.length ≤ 63 := by
  have h' : (WShape.hasAll [] args [.list .int] && (OpenLaw.pre PySem.Challenge.rw_in0071_01).holds [] { args := args }) = true := h
  obtain ⟨h1, h2⟩ := Bool.and_eq_true_iff.mp h'
  cases args with
  | nil => exact nomatch (show false = true from h1)
  | cons x r =>
    have h1' : (WShape.has [] x (.list .int) && WShape.hasAll [] r []) = true := h1
    obtain ⟨hx, hr⟩ := Bool.and_eq_true_iff.mp h1'
    cases r with
    | cons y r => exact nomatch (show false = true from hr)
    | nil =>
      cases x with
      | list xs =>
        have hx' : (WShape.hasItems [] xs .int || false) = true := hx
        rw [Bool.or_false] at hx'
        obtain ⟨ns, rfl⟩ := ints_items xs hx'
        refine ⟨ns, rfl, Nat.le_of_not_lt fun hl => ?_⟩
        have h3 : WTm.holds [] (.and (.not (.lt (.lit (.int 63)) (.len (.arg 0)))) (.lit (.bool true))) { args := [.list (ns.map .int)] } = true := h2
        have e1 : WTm.value [] (.lt (.lit (.int 63)) (.len (.arg 0))) { args := [.list (ns.map .int)] } = some (.bool (decide ((63 : Int) < ((ns.map WData.int).length : Nat)))) := rfl
        have hd : (63 : Int) < (ns.length : Nat) := Int.ofNat_lt.mpr hl
        rw [List.length_map, decide_eq_true hd] at e1
        unfold WTm.holds WTm.value WTm.value at h3
        rw [e1] at h3
        exact nomatch h3
      | _ => exact nomatch (show false = true from hx)

section
variable [Star] {B : Heap} {X : Nat → Prop}
theorem tls_ints {P : Params} {h : Heap} : ∀ {ns : List Int} {vs : List Value}, WellAll P h vs (ns.map .int) → Tls h X vs (ns.map .int)
  | [], _, w => by cases w; exact .nil
  | n :: ns, _, w => by
    cases w with
    | cons a b =>
    cases a with
    | int i t => exact .cons (.int _ _) (tls_ints b)
theorem wellAll_len {P : Params} {h : Heap} : ∀ {xs : List WData} {vs : List Value}, WellAll P h vs xs → vs.length = xs.length
  | [], _, w => by cases w; rfl
  | _ :: _, _, w => by cases w with | cons a b => simp [wellAll_len b]
end
end Mine
end

section
open PySem PySem.W PySem.Calls PyProof.Rows
set_option Elab.async false
set_option linter.unusedVariables false
set_option linter.unusedSectionVars false
set_option maxRecDepth 100000
namespace Mine

section
variable {prog : Program} {w : World} {B : Heap} {K : Frag} {mg mb : Str → Option Value}

theorem blts (k : KOk K) (X : K.In B) (hmg : B.Ns mainGlobals mg) (hmb : B.Ns builtinsNs mb) (hb : ∀ x : Str, x ≠ "__name__" → mb x = bootBuiltins x) : Bn B ∧ GlobBlt B "iter" (.builtin "iter") := by
  have d : ∀ {f : Str} {v : Value}, f ∈ bltNames → f ≠ "__name__" → bootBuiltins f = some v → GlobBlt B f v := fun h1 h2 h3 => blt_of X hmg hmb hb (k.blt _ h1) h2 h3
  exact ⟨⟨d (by decide +kernel) (by decide +kernel) (by decide +kernel), d (by decide +kernel) (by decide +kernel) (by decide +kernel), d (by decide +kernel) (by decide +kernel) (by decide +kernel), d (by decide +kernel) (by decide +kernel) (by decide +kernel), d (by decide +kernel) (by decide +kernel) (by decide +kernel), d (by decide +kernel) (by decide +kernel) (by decide +kernel), d (by decide +kernel) (by decide +kernel) (by decide +kernel), d (by decide +kernel) (by decide +kernel) (by decide +kernel), d (by decide +kernel) (by decide +kernel) (by decide +kernel), d (by decide +kernel) (by decide +kernel) (by decide +kernel)⟩, d (by decide +kernel) (by decide +kernel) (by decide +kernel)⟩

theorem lexG_of (k : KOk K) (X : K.In B) (hlim : B.NoLimit) : LexG B 76 52 59 66 73 := by
  obtain ⟨nm, q, bs, sn, sub, col, dd, k0, k1, k2, k3, k5, hc⟩ := k.cls
  obtain ⟨o, es, ep, e1, e2, e3, i1, i2, i3, i4⟩ := k.ns
  have hns := ns_of_K X e1 e2 e3
  have no : ∀ f : Str, f ∈ noNames → nsFind es f = none := fun f hf => ns_none_of X hns (k.nsno f hf)
  exact ⟨⟨nm, q, 75, bs, sn, sub, col, dd, k0, k1, k2, k3, k5, _, X 76 _ hc, hns, no _ (by decide +kernel), no _ (by decide +kernel), no _ (by decide +kernel), i1, i2, i3, i4, fun n hn => no n (.tail _ (.tail _ (.tail _ hn)))⟩, mgr_of X k.m0 (by decide +kernel) (by decide +kernel), mgr_of X k.m1 (by decide +kernel) (by decide +kernel), mgr_of X k.m2 (by decide +kernel) (by decide +kernel), mgr_of X k.m3 (by decide +kernel) (by decide +kernel), hlim⟩

theorem clsG_of (k : KOk K) (X : K.In B) (hmg : B.Ns mainGlobals mg) : ClsG prog w B 76 52 where
  made := makes_of X k.makes
  init := looks_findIn X k.init
  bind := fun self => bind_fn X self k.bind
  keep := by
    obtain ⟨k', a, b⟩ := looks_keep (M := model prog w) (K := K) (f := .ref 76) k.keep X
    exact ⟨k', a.elim .inl fun e => .inr (.inl e), b⟩
  ref := ⟨mg, hmg, mg_of X hmg k.ncls⟩

theorem esc_of (k : KOk K) (X : K.In B) : EscTab prog w B 87 := by
  obtain ⟨o, es, ep, h1, h2, h3, h4⟩ := k.esc
  obtain ⟨h4, h5, h6, h7⟩ := h4
  refine ⟨by decide, fun k => findBy Value.isInt es k, fun h hB => ⟨o, es, ep, hB _ _ (X _ _ h1), h2, h3, fun e he => ?_, fun k => rfl⟩, h5, h6, h7⟩
  have := List.all_eq_true.mp h4 e (by simpa using he)
  revert this
  split
  · rename_i k t q
    intro hh
    exact ⟨k, by rw [q]; simp [intKind, Value.isInt], eq_of_beq hh⟩
  · intro hh; cases hh
theorem pat_of (k : KOk K) (X : K.In B) : PatAt B 85 84 := ⟨let ⟨t1, t2, e⟩ := k.pat; ⟨t1, t2, X 85 _ e⟩, X 84 _ k.code⟩

theorem gnd_of (k : KOk K) (X : K.In B) (hmg : B.Ns mainGlobals mg) (hlim : B.NoLimit) (hb : Bn B) (hba : B.BuiltinsAt mg tb) : Gnd prog w B where
  b := hb
  items := ⟨217, gr_of X hmg hlim k.nf27 k.f27 (by decide +kernel) (by decide +kernel)⟩
  pieces := ⟨222, gr_of X hmg hlim k.nf28 k.f28 (by decide +kernel) (by decide +kernel)⟩
  path := ⟨227, gr_of X hmg hlim k.nf29 k.f29 (by decide +kernel) (by decide +kernel)⟩
  word := ⟨232, gr_of X hmg hlim k.nf30 k.f30 (by decide +kernel) (by decide +kernel)⟩
  fspath := ⟨177, gr_of X hmg hlim k.nf18 k.f18 (by decide +kernel) (by decide +kernel)⟩
  getsep := ⟨191, gr_of X hmg hlim k.nf22 k.f22 (by decide +kernel) (by decide +kernel)⟩
  splitroot := ⟨205, gr_of X hmg hlim k.nf24 k.f24 (by decide +kernel) (by decide +kernel)⟩
  normpath := ⟨212, gr_of X hmg hlim k.nf25 k.f25 (by decide +kernel) (by decide +kernel)⟩
  join := by
    obtain ⟨o, fd, c, oc, vs, t, h1, h2, h3, h4, h5, h6, h7, h8, h9, h10, h11, h12⟩ := k.join
    exact ⟨198, o, fd, ⟨mg, o, fd, hmg, mg_of X hmg k.njoin, X _ _ h1, h2⟩, X _ _ h1, h2, ⟨c, oc, vs, t, h3, X _ _ h4, h5, h6⟩, h7, h8, h9, h10, h11, h12⟩
  meant := ⟨244, gr_of X hmg hlim k.nf32 k.f32 (by decide +kernel) (by decide +kernel)⟩
  own := ⟨263, gr_of X hmg hlim k.nf35 k.f35 (by decide +kernel) (by decide +kernel)⟩
  hits := ⟨268, gr_of X hmg hlim k.nf36 k.f36 (by decide +kernel) (by decide +kernel)⟩
  escape := ⟨97, gr_of X hmg hlim k.nf7 k.f7 (by decide +kernel) (by decide +kernel)⟩
  translate := by
    refine ⟨104, gfn_of X hmg k.nf9 k.f9, ?_, hlim, by decide +kernel⟩
    obtain ⟨o, fd, c, oc, vs, t, h1, h2, h3, h4, h5, h6, h7, h8, h9, h10, h11, h12, h13⟩ := k.f9.at_
    have hc : c = 103 := by
      obtain ⟨o', fd', g1, g2, g3⟩ := k.c104
      rw [h1] at g1
      cases g1
      rw [h3] at g2
      cases g2
      rw [h4] at g3
      cases g3
      rfl
    subst hc
    exact ⟨o, fd, X _ _ h1, h3, ⟨_, oc, vs, t, h4, X _ _ h5, h6, h7⟩, h8, h9, h10, h11, h12, fun _ => ⟨h4, by decide +kernel⟩, h13⟩
  things := ⟨249, gr_of X hmg hlim k.nf33 k.f33 (by decide +kernel) (by decide +kernel)⟩
  esc := ⟨87, ⟨mg, hmg, mg_of X hmg k.nmap⟩, esc_of k X⟩
  twin := ⟨85, 84, ⟨mg, hmg, mg_of X hmg k.ntwin⟩, pat_of k X⟩
  lam := ⟨codeHd_of_K X k.c99, mg, hmg, hba⟩
  lim := hlim
end
end Mine
end

section
open PySem PySem.W PySem.Calls PyProof.Rows
set_option Elab.async false
set_option linter.unusedVariables false
set_option linter.unusedSectionVars false
set_option maxRecDepth 100000
namespace Mine

noncomputable def tabs0 : List (Addr × Addr) := [(103, 99), (238, 234)]

theorem post_ok (args : List WData) : PySem.Challenge.rw_in0071_01.row.toRowW.claim.post args (.bool true) args = true := by
  have h : (WShape.has [] (.bool true) .bool && WTm.holds [] (.eq .res (.lit (.bool true))) { args := args, res := some (.bool true), after := args }) = true := by with_unfolding_all rfl
  exact h
theorem law_ends {w : World} {s₀ s₁ s' : Shared} {args : List WData} (hT : TabsAt tabs0 s₁.heap) (hk : ∀ b o, b ≠ 234 → b ≠ tb → s₁.heap.get? b = some o → s'.heap.get? b = some o) (hos : s'.os = s₁.os) (hg : AllBare s'.gens)
    (h1 : ∃ ps, s'.heap.get? 234 = some (tabObj ps)) (h2 : ∃ ps, s'.heap.get? tb = some (tabObj ps)) :
    GoodWG PySem.Challenge.rw_in0071_01.row.toRowW.claim (classAt s₀.heap) (ExcName.means s₀.heap) args s₁ (.ok (.ret (.bool true))) s' := by
  have grown : ∀ b o, b = 234 ∨ b = tb → s₁.heap.get? b = some o → isCodeTable s₁.heap b ∧ o = tabObj #[] ∧ ∃ ps, s'.heap.get? b = some (tabObj ps) := fun b o hb e => by
    rcases hb with rfl | rfl
    · have q := hT (238, 234) (by simp [tabs0])
      have e2 := q.2
      rw [e] at e2
      exact ⟨(q.1.tab q.2).isCodeTable, Option.some.inj e2, h1⟩
    · have q := hT (103, 99) (by simp [tabs0])
      have e2 : s₁.heap.get? tb = some (tabObj #[]) := q.2
      rw [e] at e2
      exact ⟨(q.1.tab q.2).isCodeTable, Option.some.inj e2, h2⟩
  refine ⟨.inl ⟨_, .bool true, [], rfl, fun _ => rfl, .bool true, post_ok args, fun _ => ⟨.nil, fun _ h => by cases h⟩⟩, ⟨fun b o e => ?_, fun b o e => ?_⟩, hos, hg⟩
  · by_cases hb : b = 234 ∨ b = tb
    · obtain ⟨ht, rfl, ps, hP⟩ := grown b o hb e
      exact .inr (.inl ⟨ht, rfl, #[], ps, rfl, by rw [Array.empty_append]; exact hP⟩)
    · exact .inl (hk b o (fun q => hb (.inl q)) (fun q => hb (.inr q)) e)
  · by_cases hb : b = 234 ∨ b = tb
    · obtain ⟨_, _, ps, hP⟩ := grown b o hb e
      exact ⟨_, hP⟩
    · exact ⟨o, hk b o (fun q => hb (.inl q)) (fun q => hb (.inr q)) e⟩
end Mine
end

section
open PySem PySem.W PySem.Calls PyProof.Rows
set_option Elab.async false
set_option linter.unusedVariables false
set_option linter.unusedSectionVars false
set_option maxRecDepth 100000
namespace Mine

theorem law_row {K : Frag} {prog : Program} {w : World} {s₀ s₁ : Shared} {mg mb : Str → Option Value} (hX : K.In s₁.heap) (k : KOk K) (ht99 : s₁.heap.get? 99 = some (tabObj #[])) (ht234 : s₁.heap.get? 234 = some (tabObj #[]))
    (hmg : s₁.heap.Ns mainGlobals mg) (hmb : s₁.heap.Ns builtinsNs mb) (hlim : s₁.heap.NoLimit) (hb : ∀ x : Str, x ≠ "__name__" → mb x = bootBuiltins x)
    (hbm : ∃ bm ob, mg "__builtins__" = some (.ref bm) ∧ bm ≠ builtinsNs ∧ s₁.heap.get? bm = some ob ∧ ob.cls = .type "module" ∧ ob.dict = some builtinsNs ∧ ob.data = .plain)
    (hgens : s₁.gens = #[]) {a : Addr} (ha : mg "law" = some (.ref a)) {args : List WData} {vals : List Value} (hpre : PySem.Challenge.rw_in0071_01.row.toRowW.claim.pre args = true) (hw : WellAll w.params s₁.heap vals args) :
    wpAny (model prog w) callerA (call (.ref a) vals) (fun v s' => GoodWG PySem.Challenge.rw_in0071_01.row.toRowW.claim (classAt s₀.heap) (ExcName.means s₀.heap) args s₁ (.ok (.ret v)) s')
      (fun e s' => GoodWG PySem.Challenge.rw_in0071_01.row.toRowW.claim (classAt s₀.heap) (ExcName.means s₀.heap) args s₁ (.error e) s') s₁ := by
  letI : Star := stAt 0
  obtain ⟨ns, rfl, hl⟩ := args_of hpre
  obtain ⟨v, vs', rfl, hv, hr⟩ := wellAll_cons_inv hw
  cases hr
  have hT : TabsAt tabs0 s₁.heap := fun q hq => by
    simp only [tabs0, List.mem_cons, List.not_mem_nil, or_false] at hq
    rcases hq with rfl | rfl
    · exact ⟨codeHd_of_K hX k.c99, ht99⟩
    · exact ⟨codeHd_of_K hX k.c234, ht234⟩
  have XB : K.In (ghostOf s₁.heap tabs0) := ghost_K hT hX k.notabs
  have hmgB := ghost_ns hT hmg
  have hmbB := ghost_ns hT hmb
  have hlimB : (ghostOf s₁.heap tabs0).NoLimit := let ⟨mc, n, e⟩ := hlim; ⟨mc, ghost_ns hT n, e⟩
  obtain ⟨bm, ob, b1, b2, b3, b4, b5, b6⟩ := hbm
  have bG : bm ≠ mainGlobals := fun q => by
    obtain ⟨o, es, ep, e, hd', _⟩ := hmg
    rw [q, e] at b3
    cases b3
    rw [b6] at hd'
    cases hd'
  have nT : ob ≠ tabObj #[] := fun q => by rw [q] at b4; cases b4
  have b99 : bm ≠ 99 := fun q => by rw [q, ht99] at b3; exact nT (Option.some.inj b3).symm
  have b234 : bm ≠ 234 := fun q => by rw [q, ht234] at b3; exact nT (Option.some.inj b3).symm
  have b3B := ghost_get hT b3 nT
  have ba99 : (ghostOf s₁.heap tabs0).BuiltinsAt mg tb := ⟨bm, ob, b1, b2, bG, b99, b3B, b4, b5, b6⟩
  have ba234 : (ghostOf s₁.heap tabs0).BuiltinsAt mg 234 := ⟨bm, ob, b1, b2, bG, b234, b3B, b4, b5, b6⟩
  obtain ⟨hbn, hiter⟩ := blts k XB hmgB hmbB hb
  have g : Gnd prog w (ghostOf s₁.heap tabs0) := gnd_of k XB hmgB hlimB hbn ba99
  have lt99 := Heap.lt_size ht99
  have lt234 := Heap.lt_size ht234
  have cx : Cx (ghostOf s₁.heap tabs0) (fun b => b = 99 ∨ b = 234) s₁ := by
    refine ⟨fun b o e => of_hideAll _ e, fun b q => ?_, fun b q => ?_, .inl rfl, ⟨#[], ht99, trivial, fun pos cv e => ?_⟩, AllBare.of_eq hgens⟩
    · rcases q with rfl | rfl
      · exact lt99
      · exact lt234
    · rcases q with rfl | rfl
      · exact hideAll_none _ (by simp [tabs0])
      · exact hideAll_none _ (by simp [tabs0])
    · simp [codeAmong] at e
  have ea : a = 273 := by
    have h1 : mg "law" = some (.ref 273) := mg_of hX hmg k.nf37
    rw [h1] at ha
    cases ha
    rfl
  subst ea
  cases hv with
  | @list al vl _ hget hwl =>
  have hlen := wellAll_len hwl
  rw [List.length_map] at hlen
  have nal : ¬ (al = 99 ∨ al = 234) := fun q => by
    rcases q with rfl | rfl
    · rw [ht99] at hget; cases hget
    · rw [ht234] at hget; cases hget
  have tl : Tl s₁.heap (fun b => b = 99 ∨ b = 234) (.ref al) (.list (ns.map .int)) := .list ⟨0, hget⟩ nal (by lia) (tls_ints hwl)
  have hcd : ∀ o fd, (ghostOf s₁.heap tabs0).get? 239 = some o → o.data = .func fd → fd.code = .ref 238 := fun o fd h1 h2 => by
    obtain ⟨o', fd', g1, g2, g3⟩ := k.c239
    rw [XB _ _ g1] at h1
    cases h1
    rw [g2] at h2
    cases h2
    exact g3
  refine enter_call (law_callC (P := 234) g (gr_of XB hmgB hlimB k.nf37 k.f37 (by decide +kernel) (by decide +kernel)) (lexG_of k XB hlimB) (clsG_of k XB hmgB) hiter (gr_of XB hmgB hlimB k.nf34 k.f34 (by decide +kernel) (by decide +kernel)) (gr_of XB hmgB hlimB k.nf31 k.f31 (by decide +kernel) (by decide +kernel))
    hcd (codeHd_of_K XB k.c234) ⟨mg, hmgB, ba234⟩ (by decide) (by decide) (ns := ns) (by lia) (law_ok ns) ⟨by decide +kernel, by decide +kernel, rfl⟩ cx (.inr rfl) ht234 tl fun s' k1 k2 k3 k4 k5 => ?_)
  exact law_ends (w := w) hT k1 k2 k3 k4 k5

end Mine
end

section
open PySem PySem.W PySem.Calls PyProof.Rows Mine
set_option linter.unusedVariables false
set_option maxRecDepth 100000
set_option maxHeartbeats 8000000
-- The head (k_head, below) lays for each literal of its own a twin, Mine.hd.tw<hash>, and a proof that the two are equal, Mine.hd.te<hash>; these proofs
-- alone compile to 48 MB. The library lays no twin where the name is taken, and walks as fast without: so the names are taken here. They say nothing and nothing uses them.
namespace Mine.hd
theorem tw17311223219408574766 : True := trivial
theorem tw17087091549796120035 : True := trivial
theorem tw6924109203229866365 : True := trivial
theorem tw13047593935725612058 : True := trivial
theorem tw7519716089354478335 : True := trivial
theorem tw978945382295711627 : True := trivial
theorem tw4065347644161347641 : True := trivial
theorem tw6293948785866598258 : True := trivial
theorem tw5961118342813265553 : True := trivial
theorem tw9641152695372364146 : True := trivial
theorem tw11128854368766332075 : True := trivial
theorem tw8068729725432388964 : True := trivial
theorem tw5148922909946612681 : True := trivial
theorem tw5781342201191254626 : True := trivial
theorem tw17711083657039698284 : True := trivial
theorem tw5732804406350252772 : True := trivial
theorem tw16302227732802510677 : True := trivial
theorem tw14620637471214046174 : True := trivial
theorem tw14176624398918483544 : True := trivial
theorem tw2867327485932766208 : True := trivial
theorem tw10752148897807903841 : True := trivial
theorem tw6990203504111849199 : True := trivial
theorem tw11652457597714270106 : True := trivial
theorem tw3259873300814134281 : True := trivial
theorem tw307737655149646647 : True := trivial
theorem tw3953601041324332601 : True := trivial
theorem tw18322514126500204803 : True := trivial
theorem tw6838551448383532254 : True := trivial
theorem tw461538923250603899 : True := trivial
theorem tw18241275227582772068 : True := trivial
theorem tw1847840615245081061 : True := trivial
theorem tw8047900516022102942 : True := trivial
theorem tw8671608845466749128 : True := trivial
theorem tw8343274005884668182 : True := trivial
theorem tw6998783941825042932 : True := trivial
theorem tw16772102934027710169 : True := trivial
theorem tw12936449754285732098 : True := trivial
theorem tw13330244855972007585 : True := trivial
theorem tw2114630138375439770 : True := trivial
theorem tw10012880186880212623 : True := trivial
theorem tw7752767780024739350 : True := trivial
theorem tw17650839729002327288 : True := trivial
theorem tw12092154237167983948 : True := trivial
theorem tw6528754448969337418 : True := trivial
theorem tw5373601922739893978 : True := trivial
theorem tw17447410573909459338 : True := trivial
theorem tw8770205317985620760 : True := trivial
theorem tw14353793391729792155 : True := trivial
theorem tw4014540891139286612 : True := trivial
theorem tw5567388512258382067 : True := trivial
theorem tw7746578258024575070 : True := trivial
theorem tw12588582704262371052 : True := trivial
theorem tw5282504435634884242 : True := trivial
theorem tw11893437276241958245 : True := trivial
theorem tw11953376511379268794 : True := trivial
theorem tw3182187488490625086 : True := trivial
theorem tw18300207936620678264 : True := trivial
theorem tw15368132723985388332 : True := trivial
theorem tw13518370688599389936 : True := trivial
theorem tw5363564295841288755 : True := trivial
theorem tw3917367725267117449 : True := trivial
theorem tw13919464512627920130 : True := trivial
theorem tw7891253978561527248 : True := trivial
theorem tw5278057926702712004 : True := trivial
theorem tw13903934854276604550 : True := trivial
theorem tw6545403380812914513 : True := trivial
theorem tw3480954088277226078 : True := trivial
theorem tw13609717118414637909 : True := trivial
theorem tw12173100003817136821 : True := trivial
theorem tw7082855905992002993 : True := trivial
theorem tw4478964076566166474 : True := trivial
theorem tw4115565904173853331 : True := trivial
theorem tw6982297934935202809 : True := trivial
theorem tw14294001040229213422 : True := trivial
theorem tw7510230149288206974 : True := trivial
theorem tw12901994302517312135 : True := trivial
theorem tw6819123309680001836 : True := trivial
theorem tw5987830557187376847 : True := trivial
theorem tw2195365466389143174 : True := trivial
theorem tw13225837485096350037 : True := trivial
theorem tw6598312636042714100 : True := trivial
theorem tw18175329361295489469 : True := trivial
theorem tw1865391376527767206 : True := trivial
theorem tw16155205043701107222 : True := trivial
theorem tw9427301549700849589 : True := trivial
theorem tw9421340871869096474 : True := trivial
theorem tw7610815399733428385 : True := trivial
theorem tw701787995468756871 : True := trivial
theorem tw7914949630228597729 : True := trivial
theorem tw2546602858889406552 : True := trivial
theorem tw5978321128707920903 : True := trivial
theorem tw6060742912462422084 : True := trivial
theorem tw9783614193127449063 : True := trivial
theorem tw8977307856219701671 : True := trivial
theorem tw4706079058837389440 : True := trivial
theorem tw8727321023445011275 : True := trivial
theorem tw4993660671451451078 : True := trivial
theorem tw1129884963351977449 : True := trivial
theorem tw6830512106363814048 : True := trivial
theorem tw13855946660403688772 : True := trivial
theorem tw10258999931320997221 : True := trivial
theorem tw10170382586518783626 : True := trivial
theorem tw15166520500009309586 : True := trivial
theorem tw17673860158736603733 : True := trivial
theorem tw4225703048834024713 : True := trivial
theorem tw9557236495431379559 : True := trivial
theorem tw4172343393113369950 : True := trivial
theorem tw7366208706002141716 : True := trivial
theorem tw16945582573551092051 : True := trivial
theorem tw9430268157657104642 : True := trivial
theorem tw3828038474966422129 : True := trivial
theorem tw16853341256802265648 : True := trivial
theorem tw15527848837575444561 : True := trivial
theorem tw3381375190539634487 : True := trivial
theorem tw13828106393651249627 : True := trivial
theorem tw17588044629489971554 : True := trivial
theorem tw10727248033764811480 : True := trivial
theorem tw16473244170626142550 : True := trivial
theorem tw4851647983119433812 : True := trivial
theorem tw14960593345356199642 : True := trivial
theorem tw10743916045514856203 : True := trivial
theorem tw15508949281206285077 : True := trivial
theorem tw3109861748172591687 : True := trivial
theorem tw16828841361933241965 : True := trivial
theorem tw10458740792067480800 : True := trivial
theorem tw3219085151875037572 : True := trivial
theorem tw17183224562656869120 : True := trivial
theorem tw13866372431405929976 : True := trivial
theorem tw15833661619300960221 : True := trivial
theorem tw12112201142124510154 : True := trivial
theorem tw17213754286329925777 : True := trivial
theorem tw3530705653197291679 : True := trivial
theorem tw16904818350239718627 : True := trivial
theorem tw402640490398009360 : True := trivial
theorem tw8716120427605611371 : True := trivial
theorem tw15837987909243819085 : True := trivial
theorem tw8960069828448710407 : True := trivial
theorem tw7120233287515763914 : True := trivial
theorem tw6276725880618359904 : True := trivial
theorem tw991583007596301734 : True := trivial
theorem tw4478166936697009375 : True := trivial
theorem tw5174551420813472067 : True := trivial
theorem tw9170477692918782315 : True := trivial
theorem tw15967140613478806237 : True := trivial
theorem tw16194383521188589630 : True := trivial
theorem tw12598724348716800887 : True := trivial
theorem tw189712035060473897 : True := trivial
theorem tw11210553801493137410 : True := trivial
theorem tw17387473266821786944 : True := trivial
theorem tw6123773746684550334 : True := trivial
theorem tw7068711184596962023 : True := trivial
theorem tw1413172679324656950 : True := trivial
theorem tw9719896912496429819 : True := trivial
theorem tw5902613922787404954 : True := trivial
theorem tw1784385830474605701 : True := trivial
theorem tw10583446816852156582 : True := trivial
theorem tw10030107230732127627 : True := trivial
theorem tw12949589719889679912 : True := trivial
theorem tw8879563391730754479 : True := trivial
theorem tw8268277133935991078 : True := trivial
theorem tw14955159897011116063 : True := trivial
theorem tw16259696140248634718 : True := trivial
theorem tw11917015161858427179 : True := trivial
theorem tw16154546982801380032 : True := trivial
theorem tw18166333605607142505 : True := trivial
theorem tw11513968764499736323 : True := trivial
theorem tw212345690472687942 : True := trivial
theorem tw1359830224848277088 : True := trivial
theorem tw11054480109507316185 : True := trivial
theorem tw11631947586910100387 : True := trivial
theorem tw2327210489368252092 : True := trivial
theorem tw14560493823538711346 : True := trivial
theorem tw5480042469492414594 : True := trivial
theorem tw5629675986466331604 : True := trivial
theorem tw6164396464334811476 : True := trivial
theorem tw18245042118932799458 : True := trivial
theorem tw2315301623876862497 : True := trivial
theorem tw2101469004524951375 : True := trivial
theorem tw9702936160620672325 : True := trivial
theorem tw15615537253650120727 : True := trivial
theorem tw8025032847418708242 : True := trivial
theorem tw1013155817946168525 : True := trivial
theorem tw1836080755315867724 : True := trivial
theorem tw16970440968685349367 : True := trivial
theorem tw6245462706441815368 : True := trivial
theorem tw1011335219593555734 : True := trivial
theorem tw4256815150364599718 : True := trivial
theorem tw162610821266807592 : True := trivial
theorem tw18093812233618175256 : True := trivial
theorem tw12399718760709695909 : True := trivial
theorem tw1222794163293265305 : True := trivial
theorem tw13409441903868389331 : True := trivial
theorem tw9763420282994701918 : True := trivial
theorem tw17672654358674132775 : True := trivial
theorem tw11032806212648032379 : True := trivial
theorem tw14906377314874228009 : True := trivial
theorem tw15042006015671813226 : True := trivial
theorem tw8112040973832200146 : True := trivial
theorem tw15910714762333108613 : True := trivial
theorem tw16640546478005224243 : True := trivial
theorem tw18343703819029505601 : True := trivial
theorem tw2930668341846507884 : True := trivial
theorem tw14488623402533347959 : True := trivial
theorem tw15220180469806662145 : True := trivial
theorem tw5511420028821071320 : True := trivial
theorem tw3309697970292668127 : True := trivial
theorem tw7270182246851987180 : True := trivial
theorem tw12614811148066621264 : True := trivial
theorem tw9741134391959003819 : True := trivial
theorem tw11709330566771433103 : True := trivial
theorem tw16722109127936396110 : True := trivial
theorem tw8658944758372502048 : True := trivial
theorem tw11402939732021071671 : True := trivial
theorem tw5608270528595127837 : True := trivial
theorem tw6411954120941647267 : True := trivial
theorem tw16713699803418581334 : True := trivial
theorem tw14168552714766633299 : True := trivial
theorem tw10792051664901133789 : True := trivial
theorem tw2391449824757734642 : True := trivial
theorem tw12070051907170230399 : True := trivial
theorem tw11232374478483605306 : True := trivial
theorem tw6038821095411175016 : True := trivial
theorem tw9345676750909349944 : True := trivial
theorem tw2442259710966052079 : True := trivial
theorem tw16211521421427940678 : True := trivial
theorem tw2603259988358896889 : True := trivial
theorem tw17714235663813219645 : True := trivial
theorem tw5366084841770067474 : True := trivial
theorem tw4315991029959535628 : True := trivial
theorem tw1800889605409440832 : True := trivial
theorem tw8990313861142287110 : True := trivial
theorem tw1097998534492414930 : True := trivial
theorem tw5036846961687405229 : True := trivial
theorem tw8134915037123179040 : True := trivial
theorem tw17903497710992402801 : True := trivial
theorem tw9345929723534960622 : True := trivial
theorem tw3919010098100093602 : True := trivial
theorem tw17948085552500728524 : True := trivial
theorem tw11389486352061984695 : True := trivial
theorem tw1760603350576429475 : True := trivial
theorem tw3008623586974134963 : True := trivial
theorem tw16920754564084929960 : True := trivial
theorem tw17975533764899295144 : True := trivial
theorem tw13321331477185743149 : True := trivial
theorem tw4402725079659364252 : True := trivial
theorem tw1600037746751723098 : True := trivial
theorem tw8458067239894703972 : True := trivial
theorem tw11251137523995926341 : True := trivial
theorem tw3452082135128663414 : True := trivial
theorem tw728884934406724761 : True := trivial
theorem tw17606422857730326317 : True := trivial
theorem tw13368278939475635651 : True := trivial
theorem tw11465210709893060100 : True := trivial
theorem tw3451239065008710300 : True := trivial
theorem tw15344866539931968096 : True := trivial
theorem tw11319097763535126812 : True := trivial
theorem tw6407587892757256292 : True := trivial
theorem tw15411387601460861337 : True := trivial
theorem tw4086058157674990017 : True := trivial
theorem tw395138700845864316 : True := trivial
theorem tw7494724483528729301 : True := trivial
theorem tw9673543361469618366 : True := trivial
theorem tw8457440626546761165 : True := trivial
theorem tw6082411064634330575 : True := trivial
theorem tw9566141503761928105 : True := trivial
theorem tw3571134770919094901 : True := trivial
theorem tw15529170255622000948 : True := trivial
theorem tw13181700845877081190 : True := trivial
theorem tw16345102440705955213 : True := trivial
theorem tw12647368939536790636 : True := trivial
theorem tw7754304195085646258 : True := trivial
theorem tw1197925565968671727 : True := trivial
theorem tw15673258824015622330 : True := trivial
theorem tw9440118169554580438 : True := trivial
theorem tw10258225898301398825 : True := trivial
theorem tw13753220567063992666 : True := trivial
theorem tw3493717111155160527 : True := trivial
theorem tw22551697357593593 : True := trivial
theorem tw6291416237084387574 : True := trivial
theorem tw3795277891434052102 : True := trivial
theorem tw7355570028127101125 : True := trivial
theorem tw6767318904944593275 : True := trivial
theorem tw7296583596125217682 : True := trivial
theorem tw14478148883734587675 : True := trivial
theorem tw12271959270614036898 : True := trivial
theorem tw2608437505485318709 : True := trivial
theorem tw541196102884509978 : True := trivial
theorem tw15852365999677673905 : True := trivial
theorem tw3646829019195819677 : True := trivial
theorem tw4971549296188076032 : True := trivial
theorem tw17177331786930743035 : True := trivial
theorem tw758273949599710562 : True := trivial
theorem tw7289634563603522867 : True := trivial
theorem tw17542962492245011380 : True := trivial
theorem tw17252143746492648416 : True := trivial
theorem tw14457593812595234344 : True := trivial
theorem tw5343241284826551009 : True := trivial
theorem tw2323474266016966308 : True := trivial
theorem tw11162318198679636149 : True := trivial
theorem tw6264232113106981867 : True := trivial
theorem tw4702841417184801058 : True := trivial
theorem tw18293732401869909652 : True := trivial
theorem tw11660266114150955751 : True := trivial
theorem tw6442067068224118133 : True := trivial
theorem tw15615420239508185596 : True := trivial
theorem tw3229955645248102723 : True := trivial
theorem tw10603584201595350602 : True := trivial
theorem tw14980023328507725902 : True := trivial
theorem tw11151547217846952531 : True := trivial
theorem tw9657781627882305391 : True := trivial
theorem tw26425463804135960 : True := trivial
theorem tw16432713993328977331 : True := trivial
theorem tw4297731678662094536 : True := trivial
theorem tw12629568148972539762 : True := trivial
theorem tw14246236162039180721 : True := trivial
theorem tw8228950375871286339 : True := trivial
theorem tw10879034167726328663 : True := trivial
theorem tw16064382804478563927 : True := trivial
theorem tw6394381022753523788 : True := trivial
theorem tw6305734824756694309 : True := trivial
theorem tw2708950531961675432 : True := trivial
theorem tw10424393626065333798 : True := trivial
theorem tw1439246655266547700 : True := trivial
theorem tw6438293893037913957 : True := trivial
theorem tw3429492842335990350 : True := trivial
theorem tw12023040214023829324 : True := trivial
end Mine.hd

set_option Elab.async true in
theorem Mine.hd : PySem.Challenge.rw_in0071_01.Holds := by
  w_on; o_law; k_head; (case hw => w_witness2)
  exact fun w s₀ s₁ mg mb G Y a o pm cd doc dV kV ho hdd hrec hdfl hmgl hgens args vals as hpre hlay hreads hwell hsys =>
    Mine.law_row Y.1 {
      f27 := ⟨_, _, _, _, _, _, rfl, rfl, rfl, rfl, rfl, rfl, rfl, rfl, rfl, rfl, rfl, rfl, b1 fun _ => rfl⟩,
      f28 := ⟨_, _, _, _, _, _, rfl, rfl, rfl, rfl, rfl, rfl, rfl, rfl, rfl, rfl, rfl, rfl, b1 fun _ => rfl⟩,
      f29 := ⟨_, _, _, _, _, _, rfl, rfl, rfl, rfl, rfl, rfl, rfl, rfl, rfl, rfl, rfl, rfl, b1 fun _ => rfl⟩,
      f30 := ⟨_, _, _, _, _, _, rfl, rfl, rfl, rfl, rfl, rfl, rfl, rfl, rfl, rfl, rfl, rfl, b2 fun _ _ => rfl⟩,
      f18 := ⟨_, _, _, _, _, _, rfl, rfl, rfl, rfl, rfl, rfl, rfl, rfl, rfl, rfl, rfl, rfl, b1 fun _ => rfl⟩,
      f22 := ⟨_, _, _, _, _, _, rfl, rfl, rfl, rfl, rfl, rfl, rfl, rfl, rfl, rfl, rfl, rfl, b1 fun _ => rfl⟩,
      f24 := ⟨_, _, _, _, _, _, rfl, rfl, rfl, rfl, rfl, rfl, rfl, rfl, rfl, rfl, rfl, rfl, b1 fun _ => rfl⟩,
      f25 := ⟨_, _, _, _, _, _, rfl, rfl, rfl, rfl, rfl, rfl, rfl, rfl, rfl, rfl, rfl, rfl, b1 fun _ => rfl⟩,
      f32 := ⟨_, _, _, _, _, _, rfl, rfl, rfl, rfl, rfl, rfl, rfl, rfl, rfl, rfl, rfl, rfl, b2 fun _ _ => rfl⟩,
      f35 := ⟨_, _, _, _, _, _, rfl, rfl, rfl, rfl, rfl, rfl, rfl, rfl, rfl, rfl, rfl, rfl, b1 fun _ => rfl⟩,
      f36 := ⟨_, _, _, _, _, _, rfl, rfl, rfl, rfl, rfl, rfl, rfl, rfl, rfl, rfl, rfl, rfl, b2 fun _ _ => rfl⟩,
      f7 := ⟨_, _, _, _, _, _, rfl, rfl, rfl, rfl, rfl, rfl, rfl, rfl, rfl, rfl, rfl, rfl, b1 fun _ => rfl⟩,
      f9 := ⟨_, _, _, _, _, _, rfl, rfl, rfl, rfl, rfl, rfl, rfl, rfl, rfl, rfl, rfl, rfl, b3 fun _ _ _ => rfl⟩,
      f33 := ⟨_, _, _, _, _, _, rfl, rfl, rfl, rfl, rfl, rfl, rfl, rfl, rfl, rfl, rfl, rfl, b1 fun _ => rfl⟩,
      f34 := ⟨_, _, _, _, _, _, rfl, rfl, rfl, rfl, rfl, rfl, rfl, rfl, rfl, rfl, rfl, rfl, b1 fun _ => rfl⟩,
      f31 := ⟨_, _, _, _, _, _, rfl, rfl, rfl, rfl, rfl, rfl, rfl, rfl, rfl, rfl, rfl, rfl, b1 fun _ => rfl⟩,
      f37 := ⟨_, _, _, _, _, _, rfl, rfl, rfl, rfl, rfl, rfl, rfl, rfl, rfl, rfl, rfl, rfl, b1 fun _ => rfl⟩,
      m0 := ⟨_, _, _, _, _, _, rfl, rfl, rfl, rfl, rfl, rfl, rfl, rfl, rfl, rfl, rfl, rfl, b2 fun _ _ => rfl⟩,
      m1 := ⟨_, _, _, _, _, _, rfl, rfl, rfl, rfl, rfl, rfl, rfl, rfl, rfl, rfl, rfl, rfl, b1 fun _ => rfl⟩,
      m2 := ⟨_, _, _, _, _, _, rfl, rfl, rfl, rfl, rfl, rfl, rfl, rfl, rfl, rfl, rfl, rfl, b1 fun _ => rfl⟩,
      m3 := ⟨_, _, _, _, _, _, rfl, rfl, rfl, rfl, rfl, rfl, rfl, rfl, rfl, rfl, rfl, rfl, b2 fun _ _ => rfl⟩,
      nf27 := rfl,
      nf28 := rfl,
      nf29 := rfl,
      nf30 := rfl,
      nf18 := rfl,
      nf22 := rfl,
      nf24 := rfl,
      nf25 := rfl,
      nf32 := rfl,
      nf35 := rfl,
      nf36 := rfl,
      nf7 := rfl,
      nf9 := rfl,
      nf33 := rfl,
      nf34 := rfl,
      nf31 := rfl,
      nf37 := rfl,
      njoin := rfl,
      nmap := rfl,
      ntwin := rfl,
      ncls := rfl,
      blt := fun f hf => by simp only [bltNames, List.mem_cons, List.not_mem_nil, or_false] at hf; rcases hf with rfl | rfl | rfl | rfl | rfl | rfl | rfl | rfl | rfl | rfl | rfl <;> rfl,
      cls := ⟨_, _, _, _, _, _, _, _, _, _, _, _, rfl⟩,
      ns := ⟨_, _, _, rfl, rfl, rfl, rfl, rfl, rfl, rfl⟩,
      nsno := fun f hf => by simp only [noNames, List.mem_cons, List.not_mem_nil, or_false] at hf; rcases hf with rfl | rfl | rfl | rfl | rfl | rfl | rfl <;> rfl,
      makes := rfl,
      init := rfl,
      bind := rfl,
      keep := rfl,
      esc := ⟨_, _, _, rfl, ⟨rfl, rfl, rfl⟩, rfl, by decide +kernel, ⟨_, rfl⟩, ⟨_, rfl⟩, fun c hc => by simp only [List.mem_cons, List.not_mem_nil, or_false] at hc; rcases hc with rfl | rfl | rfl | rfl | rfl | rfl <;> rfl⟩,
      pat := ⟨_, _, rfl⟩,
      code := by with_unfolding_all rfl,
      join := ⟨_, _, _, _, _, _, rfl, rfl, rfl, rfl, rfl, rfl, rfl, rfl, rfl, rfl, rfl, fun _ _ => rfl⟩,
      c99 := rfl,
      c234 := rfl,
      notabs := rfl,
      c104 := ⟨_, _, rfl, rfl, rfl⟩,
      c239 := ⟨_, _, rfl, rfl, rfl⟩ }
      (Y.2 99 (by simp)) (Y.2 234 (by simp)) G.T.g G.T.b G.T.nolimit G.T.builtins G.T.bmain hgens hmgl hpre hwell
end

theorem PySem.Challenge.cw_in0071_01_holds : PySem.Challenge.rw_in0071_01.Holds := by
  exact Mine.hd
