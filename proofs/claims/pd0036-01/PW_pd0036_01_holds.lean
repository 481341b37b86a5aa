import PyProof.Rows.All
import Wide.All
import OpenK.AllK
import Wide.FinOn
import Wide.BytesRules
import PySem.Challenge.RW_pd0036_01
set_option Elab.async false
section
open PySem PyProof.Rows
namespace Mine

/-- plain data -/
inductive D where
  | none
  | bool (b : Bool)
  | int (i : Int)
  | txt (o : Bool) (cs : List Nat)
  | ty (n : String)
  | list (ds : List D)
  | tup (ds : List D)
  | range (a b c : Int)

/-- a plain tuple at a -/
def PlainTup (h : Heap) (a : Addr) (vs : Array Value) : Prop := ∃ n, h.get? a = some { cls := .type "tuple", data := .seq vs n }
theorem PlainTup.isTuple {h : Heap} {a : Addr} {vs : Array Value} (x : PlainTup h a vs) : h.IsTuple a vs := let ⟨n, e⟩ := x; ⟨_, e, rfl, n, rfl⟩
mutual
/-- the value v in the heap h bears the datum d, and no address of Z is met on the way -/
def Rep (Z : List Addr) (h : Heap) : D → Value → Prop
  | .none, v => v = .none
  | .bool b, v => v = .bool b
  | .int i, v => ∃ t, v = .int i t
  | .txt false cs, v => ∃ t, v = .str ⟨cs.toArray⟩ t
  | .txt true cs, v => ∃ b t, v = .bytes b t ∧ cs = b.toList.map UInt8.toNat
  | .ty n, v => v = .type n
  | .list ds, v => ∃ a vs, v = .ref a ∧ a ∉ Z ∧ h.PlainList a (List.toArray vs) ∧ Reps Z h ds vs
  | .tup ds, v => ∃ a vs, v = .ref a ∧ a ∉ Z ∧ PlainTup h a (List.toArray vs) ∧ Reps Z h ds vs
  | .range a b c, v => ∃ r, v = .ref r ∧ r ∉ Z ∧ ∃ t u w, IsRange h r a b c t u w
def Reps (Z : List Addr) (h : Heap) : List D → List Value → Prop
  | [], vs => vs = []
  | d :: ds, vs => ∃ v rest, vs = v :: rest ∧ Rep Z h d v ∧ Reps Z h ds rest
end

mutual
theorem Rep.gen {Z Z' : List Addr} {h h' : Heap} (hk : ∀ a o, a ∉ Z → h.get? a = some o → h'.get? a = some o) (hz : ∀ a o, a ∈ Z' → a ∉ Z → h.get? a = some o → False) :
    ∀ {d : D} {v : Value}, Rep Z h d v → Rep Z' h' d v
  | .none, _, x => x
  | .bool _, _, x => x
  | .int _, _, x => x
  | .txt false _, _, x => x
  | .txt true _, _, x => x
  | .ty _, _, x => x
  | .list _, _, ⟨a, vs, e, hn, ⟨n, ho⟩, hr⟩ => ⟨a, vs, e, fun q => hz a _ q hn ho, ⟨n, hk a _ hn ho⟩, Reps.gen hk hz hr⟩
  | .tup _, _, ⟨a, vs, e, hn, ⟨n, ho⟩, hr⟩ => ⟨a, vs, e, fun q => hz a _ q hn ho, ⟨n, hk a _ hn ho⟩, Reps.gen hk hz hr⟩
  | .range _ _ _, _, ⟨r, e, hn, t, u, w, q⟩ => ⟨r, e, fun z => hz r _ z hn q, t, u, w, hk r _ hn q⟩
theorem Reps.gen {Z Z' : List Addr} {h h' : Heap} (hk : ∀ a o, a ∉ Z → h.get? a = some o → h'.get? a = some o) (hz : ∀ a o, a ∈ Z' → a ∉ Z → h.get? a = some o → False) :
    ∀ {ds : List D} {vs : List Value}, Reps Z h ds vs → Reps Z' h' ds vs
  | [], _, x => x
  | _ :: _, _, ⟨v, rest, e, a, b⟩ => ⟨v, rest, e, Rep.gen hk hz a, Reps.gen hk hz b⟩
end

section
variable {Z : List Addr} {h h' : Heap} {d : D} {v : Value} {ds es : List D} {vs ws : List Value}
theorem Rep.kp (x : Rep Z h d v) (hk : ∀ a o, a ∉ Z → h.get? a = some o → h'.get? a = some o) : Rep Z h' d v := Rep.gen hk (fun _ _ p q _ => q p) x
theorem Reps.kp (x : Reps Z h ds vs) (hk : ∀ a o, a ∉ Z → h.get? a = some o → h'.get? a = some o) : Reps Z h' ds vs := Reps.gen hk (fun _ _ p q _ => q p) x
theorem Rep.weak {Z' : List Addr} (x : Rep Z h d v) (hs : ∀ a ∈ Z', a ∈ Z) : Rep Z' h d v := Rep.gen (fun _ _ _ e => e) (fun a _ p q _ => q (hs a p)) x
theorem Reps.weak {Z' : List Addr} (x : Reps Z h ds vs) (hs : ∀ a ∈ Z', a ∈ Z) : Reps Z' h ds vs := Reps.gen (fun _ _ _ e => e) (fun a _ p q _ => q (hs a p)) x
/-- further addresses that did not stand in h are not met -/
theorem Rep.more {W : List Addr} (x : Rep Z h d v) (hk : ∀ a o, h.get? a = some o → h'.get? a = some o) (hW : ∀ a ∈ W, h.get? a = none) : Rep (W ++ Z) h' d v :=
  Rep.gen (fun a o _ e => hk a o e) (fun a o p q e => by
    rcases List.mem_append.mp p with p | p
    · rw [hW a p] at e; cases e
    · exact q p) x
theorem Reps.more {W : List Addr} (x : Reps Z h ds vs) (hk : ∀ a o, h.get? a = some o → h'.get? a = some o) (hW : ∀ a ∈ W, h.get? a = none) : Reps (W ++ Z) h' ds vs :=
  Reps.gen (fun a o _ e => hk a o e) (fun a o p q e => by
    rcases List.mem_append.mp p with p | p
    · rw [hW a p] at e; cases e
    · exact q p) x

theorem Reps.length : ∀ {ds : List D} {vs : List Value}, Reps Z h ds vs → vs.length = ds.length
  | [], _, x => by cases x; rfl
  | _ :: _, _, ⟨_, _, e, _, b⟩ => by rw [e, List.length_cons, List.length_cons, Reps.length b]
theorem Reps.nil : Reps Z h [] [] := rfl
theorem Reps.cons (a : Rep Z h d v) (b : Reps Z h ds vs) : Reps Z h (d :: ds) (v :: vs) := ⟨v, vs, rfl, a, b⟩
theorem Reps.append : ∀ {ds : List D} {vs : List Value}, Reps Z h ds vs → Reps Z h es ws → Reps Z h (ds ++ es) (vs ++ ws)
  | [], _, x, y => by cases x; exact y
  | _ :: _, _, ⟨_, _, e, a, b⟩, y => by rw [e]; exact Reps.cons a (Reps.append b y)
theorem Reps.get : ∀ {ds : List D} {vs : List Value} {i : Nat} {d : D}, Reps Z h ds vs → ds[i]? = some d → ∃ v, vs[i]? = some v ∧ Rep Z h d v
  | [], _, _, _, _, e => by simp at e
  | _ :: _, _, 0, _, ⟨v, _, e, a, _⟩, q => by subst e; simp at q; subst q; exact ⟨v, rfl, a⟩
  | _ :: _, _, i + 1, _, ⟨_, _, e, _, b⟩, q => by subst e; simp at q; obtain ⟨v, h1, h2⟩ := Reps.get b q; exact ⟨v, by simpa using h1, h2⟩
theorem Reps.get' : ∀ {ds : List D} {vs : List Value} {i : Nat} {v : Value}, Reps Z h ds vs → vs[i]? = some v → ∃ d, ds[i]? = some d ∧ Rep Z h d v
  | [], _, _, _, x, e => by cases x; simp at e
  | d :: _, _, 0, _, ⟨v, _, e, a, _⟩, q => by subst e; simp at q; subst q; exact ⟨d, rfl, a⟩
  | _ :: _, _, i + 1, _, ⟨_, _, e, _, b⟩, q => by subst e; simp at q; obtain ⟨v, h1, h2⟩ := Reps.get' b q; exact ⟨v, by simpa using h1, h2⟩
theorem Reps.take : ∀ {ds : List D} {vs : List Value} (n : Nat), Reps Z h ds vs → Reps Z h (ds.take n) (vs.take n)
  | _, _, 0, _ => by simp [Reps]
  | [], _, _ + 1, x => by cases x; simp [Reps]
  | _ :: _, _, n + 1, ⟨_, _, e, a, b⟩ => by subst e; exact Reps.cons a (Reps.take n b)
theorem Reps.drop : ∀ {ds : List D} {vs : List Value} (n : Nat), Reps Z h ds vs → Reps Z h (ds.drop n) (vs.drop n)
  | _, _, 0, x => x
  | [], _, _ + 1, x => by cases x; simp [Reps]
  | _ :: _, _, n + 1, ⟨_, _, e, a, b⟩ => by subst e; exact Reps.drop n b
theorem Reps.reverse : ∀ {ds : List D} {vs : List Value}, Reps Z h ds vs → Reps Z h ds.reverse vs.reverse
  | [], _, x => by cases x; simp [Reps]
  | _ :: _, _, ⟨_, _, e, a, b⟩ => by subst e; rw [List.reverse_cons, List.reverse_cons]; exact Reps.append (Reps.reverse b) (Reps.cons a Reps.nil)
end

/-- what a call or an expression leaves: all that stood stands, but X -/
structure Ext (X : List Addr) (s s' : Shared) : Prop where
  kp : ∀ a o, a ∉ X → s.heap.get? a = some o → s'.heap.get? a = some o
  os : s'.os = s.os
  gens : s'.gens = s.gens
theorem Ext.refl {X : List Addr} {s : Shared} : Ext X s s := ⟨fun _ _ _ e => e, rfl, rfl⟩
theorem Ext.trans {X : List Addr} {s s' s'' : Shared} (x : Ext X s s') (y : Ext X s' s'') : Ext X s s'' :=
  ⟨fun a o n e => y.kp a o n (x.kp a o n e), y.os.trans x.os, y.gens.trans x.gens⟩
theorem Ext.toks {X : List Addr} {s : Shared} {t : Nat} : Ext X s { s with toks := t } := ⟨fun _ _ _ e => e, rfl, rfl⟩
theorem Ext.heap {X : List Addr} {s : Shared} {h' : Heap} {t : Nat} (hk : ∀ a o, a ∉ X → s.heap.get? a = some o → h'.get? a = some o) : Ext X s { s with heap := h', toks := t } := ⟨hk, rfl, rfl⟩
theorem Ext.heap' {X : List Addr} {s : Shared} {h' : Heap} (hk : ∀ a o, a ∉ X → s.heap.get? a = some o → h'.get? a = some o) : Ext X s { s with heap := h' } := ⟨hk, rfl, rfl⟩
theorem Ext.push {X : List Addr} {s : Shared} {o : Obj} : Ext X s { s with heap := s.heap.push o } := ⟨fun _ _ _ e => Heap.get?_push_of_some _ e, rfl, rfl⟩
theorem Ext.keep {s s' : Shared} (x : Ext [] s s') : ∀ a o, s.heap.get? a = some o → s'.heap.get? a = some o := fun a o e => x.kp a o (List.not_mem_nil) e
theorem Ext.wk {X : List Addr} {s s' : Shared} (x : Ext [] s s') : Ext X s s' := ⟨fun a o _ e => x.keep a o e, x.os, x.gens⟩
theorem Rep.ext {Z : List Addr} {s s' : Shared} {d : D} {v : Value} (x : Rep Z s.heap d v) (e : Ext [] s s') : Rep Z s'.heap d v := x.kp fun a o _ q => e.keep a o q
theorem Reps.ext {Z : List Addr} {s s' : Shared} {ds : List D} {vs : List Value} (x : Reps Z s.heap ds vs) (e : Ext [] s s') : Reps Z s'.heap ds vs := x.kp fun a o _ q => e.keep a o q


/-- room on the stack -/
structure Rm (k : Nat) (A : Around) : Prop where
  handled : A.handled = none
  depth : A.depth + k ≤ 900
  units : A.units + 10 * k ≤ 9000
theorem Rm.le {k k' : Nat} {A : Around} (x : Rm k A) (h : k' ≤ k) : Rm k' A := ⟨x.handled, by have := x.depth; omega, by have := x.units; omega⟩
theorem Rm.in1 {k : Nat} {A : Around} (x : Rm (k + 1) A) : Rm k A.in1 := ⟨x.handled, by have := x.depth; simp; omega, by have := x.units; simp; omega⟩
theorem Rm.deeper {k : Nat} {A : Around} {env : Env} (x : Rm (k + 1) A) : Rm k (A.deeper env) := ⟨x.handled, by have := x.depth; simp [Around.deeper]; omega, by have := x.units; simp; omega⟩
theorem Rm.line {k : Nat} {A : Around} (x : Rm k A) : A.units < cLine := by have := x.units; unfold cLine; omega
theorem Rm.line64 {k : Nat} {A : Around} (x : Rm k A) : A.units + 64 < cLine := by have := x.units; unfold cLine; omega
theorem Rm.limit {k : Nat} {A : Around} (x : Rm k A) : A.depth < recursionLimit := by have := x.depth; unfold recursionLimit; omega

/-- a global name's value -/
def Glb (h : Heap) (x : Str) (v : Value) : Prop := ∃ mg mb, h.Ns mainGlobals mg ∧ h.Ns builtinsNs mb ∧ ((mg x = some v) ∨ (mg x = none ∧ mb x = some v))
theorem Glb.keeps {h h' : Heap} {x : Str} {v : Value} (g : Glb h x v) (hk : ∀ b o, h.get? b = some o → h'.get? b = some o) : Glb h' x v :=
  let ⟨mg, mb, a, b, c⟩ := g; ⟨mg, mb, a.keeps hk, b.keeps hk, c⟩

/-- a name's value in the frame -/
def Bd (env : Env) (h : Heap) (x : Str) (v : Value) : Prop :=
  (env.kindOf x = some .local ∧ ∃ m, h.Ns env.locals m ∧ m x = some v) ∨
  ((env.kindOf x = some .cell ∨ env.kindOf x = some .free) ∧ ∃ c, env.cells.lookup x = some c ∧ h.IsCell c (some v))
theorem Bd.keeps {env : Env} {h h' : Heap} {x : Str} {v : Value} (g : Bd env h x v) (hk : ∀ b o, h.get? b = some o → h'.get? b = some o) : Bd env h' x v := by
  rcases g with ⟨k, m, a, b⟩ | ⟨k, c, a, b⟩
  · exact .inl ⟨k, m, a.keeps hk, b⟩
  · exact .inr ⟨k, c, a, b.keeps hk⟩

/-- what a name of the frame is known to bear: a datum, or a list of the frame's own at a -/
inductive B where
  | dat (d : D)
  | own (a : Addr) (ds : List D)
def Holds (env : Env) (Z : List Addr) (h : Heap) (x : Str) : B → Prop
  | .dat d => ∃ v, Bd env h x v ∧ Rep Z h d v
  | .own a ds => Bd env h x (.ref a) ∧ ∃ vs, h.PlainList a (List.toArray vs) ∧ Reps Z h ds vs
theorem Holds.keeps {env : Env} {Z : List Addr} {h h' : Heap} {x : Str} {b : B} (g : Holds env Z h x b) (hk : ∀ b o, h.get? b = some o → h'.get? b = some o) : Holds env Z h' x b := by
  cases b with
  | dat d => obtain ⟨v, a, b⟩ := g; exact ⟨v, a.keeps hk, b.kp fun a o _ e => hk a o e⟩
  | own a ds => obtain ⟨p, vs, r, t⟩ := g; exact ⟨p.keeps hk, vs, r.at fun o e => hk a o e, t.kp fun a o _ e => hk a o e⟩

end Mine
end
section
open PySem PyProof.Rows
namespace Mine

/-- the i-th statement of the text as a def -/
def dfn (i : Nat) : DefRec := match (PySem.Challenge.pw_pd0036_01.main.body.drop i).head? with
  | some (.FunctionDef name a b _ _ _ sc _ _ pos) => ⟨name, a, b, sc, pos⟩
  | _ => ⟨Str.empty, ⟨[], [], none, [], [], none, []⟩, [], { kind := .function, names := [], isGenerator := false, isCoroutine := false }, default⟩

/-- the built-in names that the text reads -/
def theBuiltins : List (String × Value) := [("type", .type "type"), ("issubclass", .builtin "issubclass"), ("isinstance", .builtin "isinstance"), ("str", .type "str"), ("bytes", .type "bytes"),
  ("tuple", .type "tuple"), ("map", .type "map"), ("min", .builtin "min"), ("max", .builtin "max"), ("enumerate", .type "enumerate"), ("len", .builtin "len"), ("chr", .builtin "chr"), ("ord", .builtin "ord"),
  ("range", .type "range"), ("abs", .builtin "abs"), ("sum", .builtin "sum"), ("sorted", .builtin "sorted")]

def theDefs : List Nat := [9, 13, 14, 15, 16, 17, 19, 20, 21, 22, 23, 24, 25, 26]

structure FnAt (h : Heap) (d : DefRec) (a : Addr) : Prop where
  glb : Glb h d.name (.ref a)
  fn : ∃ o pm code doc, h.get? a = some o ∧ o.data = .func (Calls.docDef d.name d.params d.body d.scope pm code doc) ∧ h.CodeRec code d.name
theorem FnAt.keeps {h h' : Heap} {d : DefRec} {a : Addr} (x : FnAt h d a) (hk : ∀ b o, h.get? b = some o → h'.get? b = some o) : FnAt h' d a :=
  ⟨x.glb.keeps hk, let ⟨o, pm, code, doc, p, q, r⟩ := x.fn; ⟨o, pm, code, doc, hk _ _ p, q, r.keeps hk⟩⟩

structure TopF (h : Heap) : Prop where
  nolimit : h.NoLimit
  glb : ∀ p ∈ theBuiltins, Glb h (Str.ofString p.1) p.2
  fn : ∀ i ∈ theDefs, ∃ a, FnAt h (dfn i) a
theorem TopF.keeps {h h' : Heap} (x : TopF h) (hk : ∀ b o, h.get? b = some o → h'.get? b = some o) : TopF h' :=
  ⟨x.nolimit.keeps hk, fun p hp => (x.glb p hp).keeps hk, fun i hi => let ⟨a, q⟩ := x.fn i hi; ⟨a, q.keeps hk⟩⟩

theorem Glb.uniq {h : Heap} {x : Str} {v v' : Value} (p : Glb h x v) (q : Glb h x v') : v = v' := by
  obtain ⟨mg, mb, a, b, c⟩ := p
  obtain ⟨mg', mb', a', b', c'⟩ := q
  rw [PySem.Heap.Ns.agree a' a x, PySem.Heap.Ns.agree b' b x] at c'
  rcases c with c | ⟨c, c2⟩ <;> rcases c' with d | ⟨d, d2⟩
  · rw [c] at d; cases d; rfl
  · rw [c] at d; cases d
  · rw [c] at d; cases d
  · rw [c2] at d2; cases d2; rfl

/-- a frame to read from -/
structure RG (env : Env) (Z : List Addr) (ρ : List (Str × B)) (h : Heap) : Prop where
  top : TopF h
  fn : env.scope.kind = .function
  gl : env.globals = mainGlobals
  bi : env.builtins = builtinsNs
  alive : ∀ a ∈ Z, ∃ o, h.get? a = some o
  cels : ∀ y c, env.cells.lookup y = some c → ∃ o, h.get? c = some o
  vars : ∀ x b, ρ.lookup x = some b → Holds env Z h x b
theorem RG.keeps {env : Env} {Z : List Addr} {ρ : List (Str × B)} {h h' : Heap} (g : RG env Z ρ h) (hk : ∀ b o, h.get? b = some o → h'.get? b = some o) : RG env Z ρ h' :=
  ⟨g.top.keeps hk, g.fn, g.gl, g.bi, fun a ha => let ⟨o, e⟩ := g.alive a ha; ⟨o, hk _ _ e⟩, fun y c q => let ⟨o, e⟩ := g.cels y c q; ⟨o, hk _ _ e⟩, fun x b e => (g.vars x b e).keeps hk⟩
theorem RG.ext {env : Env} {Z : List Addr} {ρ : List (Str × B)} {s s' : Shared} (g : RG env Z ρ s.heap) (e : Ext [] s s') : RG env Z ρ s'.heap := g.keeps e.keep
theorem RG.new {env : Env} {Z : List Addr} {ρ : List (Str × B)} {h : Heap} (g : RG env Z ρ h) {a : Addr} (ha : h.get? a = none) : a ∉ Z := fun q => by
  obtain ⟨o, e⟩ := g.alive a q; rw [ha] at e; cases e

def No : Value → Shared → Prop := fun _ _ => False
section
variable (prog : Program) (w : World)
/-- the tree gives a value that bears d, and nothing that stood is changed -/
def Tr (A : Around) (Z : List Addr) (t : Sem Value) (d : D) (s : Shared) : Prop := wpAny (model prog w) A t (fun v s' => Ext [] s s' ∧ Rep Z s'.heap d v) No s
def TrB (A : Around) (t : Sem Bool) (b : Bool) (s : Shared) : Prop := wpAny (model prog w) A t (fun r s' => Ext [] s s' ∧ r = b) No s
def Ev (k : Nat) (env : Env) (ρ : List (Str × B)) (e : Expr) (d : D) : Prop :=
  ∀ (A : Around) (Z : List Addr) (s : Shared), Rm k A → RG env Z ρ s.heap → Tr prog w A Z (eval e env) d s
def Tb (k : Nat) (env : Env) (ρ : List (Str × B)) (e : Expr) (b : Bool) : Prop :=
  ∀ (A : Around) (Z : List Addr) (s : Shared), Rm k A → RG env Z ρ s.heap → TrB prog w A (isTrue e env (eval e env)) b s
def Evs (k : Nat) (env : Env) (ρ : List (Str × B)) : List Expr → List D → Prop
  | [], ds => ds = []
  | e :: es, ds => ∃ d rest, ds = d :: rest ∧ Ev prog w k env ρ e d ∧ Evs k env ρ es rest
end

section
variable {prog : Program} {w : World} {k : Nat} {env : Env} {ρ : List (Str × B)} {A : Around} {Z : List Addr} {s : Shared}

theorem wp_no {α : Type} {M : Model} {t : Sem α} {Q Q' : α → Shared → Prop} {E : Value → Shared → Prop} (h : wpAny M A t Q No s) (hq : ∀ a s', Q a s' → Q' a s') : wpAny M A t Q' E s :=
  wpAny_mono h hq fun _ _ x => x.elim

theorem Bd.load {M : Model} {E : Value → Shared → Prop} {x : Str} {v : Value} {Q : Value → Shared → Prop} (b : Bd env s.heap x v) (hk : env.scope.kind = .function) (h : Q v s)
    (hn : (x == ("__classdict__" : Str)) = false) : wpAny M A (loadName env x) Q E s := by
  rcases b with ⟨k, m, a, b⟩ | ⟨k | k, c, a, b⟩
  · exact wpAny_loadName_local hk k a b h
  · exact wpAny_loadName_cell hk k a b h
  · exact wpAny_loadName_free hk k a b h hn
theorem Glb.load {M : Model} {E : Value → Shared → Prop} {x : Str} {v : Value} {Q : Value → Shared → Prop} {pos : Pos} (g : Glb s.heap x v) (hk : env.scope.kind = .function) (hx : env.kindOf x = some .globalImplicit)
    (gl : env.globals = mainGlobals) (bi : env.builtins = builtinsNs) (h : Q v s) (hd : (x == ("__debug__" : Str)) = false) : wpAny M A (eval (.Name x pos) env) Q E s := by
  obtain ⟨mg, mb, a, b, c⟩ := g
  refine Calls.Name_function_global hk hx ?_ hd
  rcases c with c | ⟨c, c2⟩
  · exact Calls.loadGlobal_global (gl ▸ a) c h
  · exact Calls.loadGlobal_builtin (gl ▸ a) c (bi ▸ b) c2 h

/-- a name that is neither of the two -/
def plainName (x : Str) : Bool := !(x == ("__debug__" : Str)) && !(x == ("__classdict__" : Str))

theorem Ev.name {x : Str} {pos : Pos} {d : D} (hx : ρ.lookup x = some (.dat d)) (hn : plainName x = true) : Ev prog w k env ρ (.Name x pos) d := fun A Z s R g => by
  obtain ⟨v, b, r⟩ := g.vars x _ hx
  simp only [plainName, Bool.and_eq_true, Bool.not_eq_true'] at hn
  exact wpAny_Name (b.load g.fn ⟨.refl, r⟩ hn.2) hn.1
theorem Ev.gname {x : Str} {pos : Pos} {v : Value} {d : D} (hx : env.kindOf x = some .globalImplicit) (hn : plainName x = true) (hg : ∀ h, TopF h → Glb h x v) (hr : ∀ Z h, Rep Z h d v) : Ev prog w k env ρ (.Name x pos) d := fun A Z s R g => by
  simp only [plainName, Bool.and_eq_true, Bool.not_eq_true'] at hn
  exact (hg _ g.top).load g.fn hx g.gl g.bi ⟨.refl, hr _ _⟩ hn.1
theorem Ev.int {i : Int} {c : Nat} {pos : Pos} : Ev prog w k env ρ (.Constant (.int i) c pos) (.int i) := fun _ _ _ _ _ => wpAny_Constant_int ⟨.toks, _, rfl⟩
theorem Ev.bool {b : Bool} {c : Nat} {pos : Pos} : Ev prog w k env ρ (.Constant (.bool b) c pos) (.bool b) := fun _ _ _ _ _ => wpAny_Constant_bool ⟨.refl, rfl⟩
theorem Ev.str {x : Str} {cs : List Nat} {c : Nat} {pos : Pos} (h : x.cps.toList = cs) : Ev prog w k env ρ (.Constant (.str x) c pos) (.txt false cs) := fun A Z s R g => Calls.Constant_str ⟨.toks, s.toks, by subst h; rfl⟩
theorem Ev.bytes {x : List UInt8} {cs : List Nat} {c : Nat} {pos : Pos} (h : x.map UInt8.toNat = cs) : Ev prog w k env ρ (.Constant (.bytes x) c pos) (.txt true cs) := fun A Z s R g => by
  show wpAny _ A (mkTextBytes x.toArray) _ _ s
  exact wpAny_mkTextBytes ⟨.toks, _, _, rfl, by subst h; simp⟩
theorem Evs.nil : Evs prog w k env ρ [] [] := rfl
theorem Evs.cons {e : Expr} {es : List Expr} {d : D} {ds : List D} (a : Ev prog w k env ρ e d) (b : Evs prog w k env ρ es ds) : Evs prog w k env ρ (e :: es) (d :: ds) := ⟨d, ds, rfl, a, b⟩
end
end Mine
end
section
open PySem PyProof.Rows
namespace Mine
/-- all of Z stands -/
def Al (Z : List Addr) (h : Heap) : Prop := ∀ a ∈ Z, ∃ o, h.get? a = some o
theorem Al.ext {Z : List Addr} {s s' : Shared} (x : Al Z s.heap) (e : Ext [] s s') : Al Z s'.heap := fun a ha => let ⟨o, q⟩ := x a ha; ⟨o, e.keep _ _ q⟩
theorem Al.new {Z : List Addr} {h : Heap} (x : Al Z h) {a : Addr} (ha : h.get? a = none) : a ∉ Z := fun q => by obtain ⟨o, e⟩ := x a q; rw [ha] at e; cases e
theorem Al.size {Z : List Addr} {h : Heap} (x : Al Z h) : h.objs.size ∉ Z := x.new (PySem.Heap.get?_none_of_le (Nat.le_refl _))
theorem Rep.new_list {Z : List Addr} {s : Shared} {ds : List D} {vs : List Value} (x : Reps Z s.heap ds vs) (al : Al Z s.heap) :
    Rep Z ({ s with heap := s.heap.push { cls := .type "list", data := .seq vs.toArray } } : Shared).heap (.list ds) (.ref s.heap.objs.size) :=
  ⟨_, vs, rfl, al.size, ⟨_, Heap.get?_push_size _ rfl⟩, x.kp fun _ _ _ e => Heap.get?_push_of_some _ e⟩
theorem Rep.new_tup {Z : List Addr} {s : Shared} {ds : List D} {vs : List Value} (x : Reps Z s.heap ds vs) (al : Al Z s.heap) :
    Rep Z ({ s with heap := s.heap.push { cls := .type "tuple", data := .seq vs.toArray } } : Shared).heap (.tup ds) (.ref s.heap.objs.size) :=
  ⟨_, vs, rfl, al.size, ⟨_, Heap.get?_push_size _ rfl⟩, x.kp fun _ _ _ e => Heap.get?_push_of_some _ e⟩

section
variable (prog : Program) (w : World) (k : Nat)
def Op2 (op : Operator) (d₁ d₂ d : D) : Prop := ∀ A Z s v₁ v₂, Rm k A → Al Z s.heap → Rep Z s.heap d₁ v₁ → Rep Z s.heap d₂ v₂ → Tr prog w A Z (binaryOp op v₁ v₂) d s
def OpI (op : Operator) (d₁ d₂ d : D) : Prop := ∀ A Z s v₁ v₂, Rm k A → Al Z s.heap → Rep Z s.heap d₁ v₁ → Rep Z s.heap d₂ v₂ → Tr prog w A Z (inplaceOp op v₁ v₂) d s
def Cmp (op : CmpOp) (d₁ d₂ : D) (b : Bool) : Prop := ∀ A Z s v₁ v₂, Rm k A → Al Z s.heap → Rep Z s.heap d₁ v₁ → Rep Z s.heap d₂ v₂ → Tr prog w A Z (compareOp op v₁ v₂) (.bool b) s
def Op1 (op : UnaryOp) (d₁ d : D) : Prop := ∀ A Z s v₁, Rm k A → Al Z s.heap → Rep Z s.heap d₁ v₁ → Tr prog w A Z (unaryOp op v₁) d s
def Tru (d : D) (b : Bool) : Prop := ∀ A Z s v, Rm k A → Al Z s.heap → Rep Z s.heap d v → TrB prog w A (truthy v) b s
/-- an item, or a cut, of a datum -/
def Itm (d i r : D) : Prop := ∀ A Z s v u, Rm k A → Al Z s.heap → Rep Z s.heap d v → Rep Z s.heap i u →
  ∃ T id, typeLookup (.type T) "__getitem__" = pure (some (.builtin id)) ∧ s.TypeIs v T ∧ Tr prog w A Z (getItem v u) r s
def Part (d : D) : Option Int → Prop
  | none => d = .none
  | some i => d = .int i
def Cut (d : D) (lo hi st : Option Int) (r : D) : Prop := ∀ A Z s v u, Rm k A → Al Z s.heap → Rep Z s.heap d v →
  (∃ a b c x y z, u = .ref a ∧ s.heap.get? a = some { cls := .type "slice", data := .fields #[x, y, z] } ∧ Part b lo ∧ Part c hi ∧ Rep Z s.heap b x ∧ Rep Z s.heap c y ∧ (∃ e, Part e st ∧ Rep Z s.heap e z)) →
  ∃ T id, typeLookup (.type T) "__getitem__" = pure (some (.builtin id)) ∧ s.TypeIs v T ∧ Tr prog w A Z (getItem v u) r s
/-- the callee under a global name -/
def Cl (x : Str) (ds : List D) (d : D) : Prop := ∀ A Z s f vs, Rm k A → TopF s.heap → Al Z s.heap → Glb s.heap x f → Reps Z s.heap ds vs → Tr prog w A Z (call f vs) d s
/-- a built-in type's method -/
def Mth (name : Str) (d : D) (ds : List D) (r : D) : Prop := ∃ T id, PlainAttrs T ∧ Slot T name id ∧ typeOf (.builtin id) = pure (.type "method_descriptor") ∧
  (∀ (Z : List Addr) (s : Shared) v, Rep Z s.heap d v → s.TypeIs v T ∧ ∀ a, v ≠ .ref a) ∧
  ∀ A Z s v vs, Rm k A → Al Z s.heap → Rep Z s.heap d v → Reps Z s.heap ds vs → Tr prog w A Z (call (.builtin id) (v :: vs)) r s
end

section
variable {prog : Program} {w : World} {k : Nat} {env : Env} {ρ : List (Str × B)}

theorem Ev.binop {l r : Expr} {op : Operator} {pos : Pos} {d₁ d₂ d : D} (a : Ev prog w k env ρ l d₁) (b : Ev prog w k env ρ r d₂) (o : Op2 prog w k op d₁ d₂ d) : Ev prog w k env ρ (.BinOp l op r pos) d := fun A Z s R g =>
  wpAny_BinOp (wp_no (a A Z s R g) fun v₁ s₁ ⟨x₁, r₁⟩ => wp_no (b A Z s₁ R (g.ext x₁)) fun v₂ s₂ ⟨x₂, r₂⟩ =>
    wp_no (o A Z s₂ v₁ v₂ R ((g.ext x₁).ext x₂).alive (r₁.ext x₂) r₂) fun _ _ ⟨x₃, r₃⟩ => ⟨x₁.trans (x₂.trans x₃), r₃⟩)
theorem Ev.unop {e : Expr} {op : UnaryOp} {pos : Pos} {d₁ d : D} (a : Ev prog w k env ρ e d₁) (o : Op1 prog w k op d₁ d) : Ev prog w k env ρ (.UnaryOp op e pos) d := fun A Z s R g =>
  wpAny_UnaryOp (wp_no (a A Z s R g) fun v₁ s₁ ⟨x₁, r₁⟩ => wp_no (o A Z s₁ v₁ R (g.ext x₁).alive r₁) fun _ _ ⟨x₃, r₃⟩ => ⟨x₁.trans x₃, r₃⟩)
theorem Ev.compare {l r : Expr} {op : CmpOp} {pos : Pos} {d₁ d₂ : D} {b : Bool} (a : Ev prog w k env ρ l d₁) (c : Ev prog w k env ρ r d₂) (o : Cmp prog w k op d₁ d₂ b) (hm : behindInMarks op r = false := by rfl) :
    Ev prog w k env ρ (.Compare l [op] [r] pos) (.bool b) := fun A Z s R g =>
  wpAny_Compare1 (wp_no (a A Z s R g) fun v₁ s₁ ⟨x₁, r₁⟩ => wp_no (c A Z s₁ R (g.ext x₁)) fun v₂ s₂ ⟨x₂, r₂⟩ =>
    wp_no (o A Z s₂ v₁ v₂ R ((g.ext x₁).ext x₂).alive (r₁.ext x₂) r₂) fun _ _ ⟨x₃, r₃⟩ => ⟨x₁.trans (x₂.trans x₃), r₃⟩) hm
theorem Tb.compare {l r : Expr} {op : CmpOp} {pos : Pos} {d₁ d₂ : D} {b : Bool} (a : Ev prog w k env ρ l d₁) (c : Ev prog w k env ρ r d₂) (o : Cmp prog w k op d₁ d₂ b) (hm : behindInMarks op r = false := by rfl) :
    Tb prog w k env ρ (.Compare l [op] [r] pos) b := fun A Z s R g =>
  wpAny_isTrue_Compare1 (wp_no (a A Z s R g) fun v₁ s₁ ⟨x₁, r₁⟩ => wp_no (c A Z s₁ R (g.ext x₁)) fun v₂ s₂ ⟨x₂, r₂⟩ =>
    wp_no (o A Z s₂ v₁ v₂ R ((g.ext x₁).ext x₂).alive (r₁.ext x₂) r₂) fun v s₃ ⟨x₃, r₃⟩ => by cases r₃; exact wpAny_truthy_bool ⟨x₁.trans (x₂.trans x₃), rfl⟩) hm
theorem Tb.value {e : Expr} {d : D} {b : Bool} (a : Ev prog w k env ρ e d) (t : Tru prog w k d b)
    (he : ∀ whole, isTrue e env whole = (do let v ← whole; standAt e.pos; holding [v] (truthy v)) := by intro _; rfl) : Tb prog w k env ρ e b := fun A Z s R g =>
  wpAny_isTrue_value (wp_no (a A Z s R g) fun v₁ s₁ ⟨x₁, r₁⟩ => wp_no (t A Z s₁ v₁ R (g.ext x₁).alive r₁) fun _ _ ⟨x₂, r₂⟩ => ⟨x₁.trans x₂, r₂⟩) (he _)
theorem Tb.not {e : Expr} {pos : Pos} {b : Bool} (a : Tb prog w k env ρ e b) : Tb prog w k env ρ (.UnaryOp .Not e pos) (!b) := fun A Z s R g =>
  wpAny_isTrue_Not (wp_no (a A Z s R g) fun _ _ ⟨x₁, r₁⟩ => ⟨x₁, by rw [r₁]⟩)
/-- all, or any, of a list of tests: those behind are asked only where the first leave it open -/
def Tbs (prog : Program) (w : World) (k : Nat) (env : Env) (ρ : List (Str × B)) (op : BoolOp) : List Expr → Bool → Prop
  | [], b => b = (op == .And)
  | e :: es, b => ∃ c, Tb prog w k env ρ e c ∧ if c = (op == .And) then Tbs prog w k env ρ op es b else b = c
theorem Tbs.wp {op : BoolOp} : ∀ {es : List Expr} {b : Bool}, Tbs prog w k env ρ op es b → ∀ (A : Around) (Z : List Addr) (s : Shared), Rm k A → RG env Z ρ s.heap → TrB prog w A (allTrue op es env) b s
  | [], b, h, A, Z, s, R, g => by
    cases h
    cases op
    · exact wpAny_allTrue_And_nil ⟨.refl, rfl⟩
    · exact wpAny_allTrue_Or_nil ⟨.refl, rfl⟩
  | e :: es, b, ⟨c, hc, h⟩, A, Z, s, R, g => by
    cases op
    · refine wpAny_allTrue_And_cons (wp_no (hc A Z s R g) fun r s₁ ⟨x₁, r₁⟩ => ?_)
      subst r₁
      cases r
      · rw [if_neg (by decide)] at h; subst h; exact ⟨x₁, rfl⟩
      · rw [if_pos (by decide)] at h; exact wp_no (Tbs.wp h A Z s₁ R (g.ext x₁)) fun _ _ ⟨x₂, r₂⟩ => ⟨x₁.trans x₂, r₂⟩
    · refine wpAny_allTrue_Or_cons (wp_no (hc A Z s R g) fun r s₁ ⟨x₁, r₁⟩ => ?_)
      subst r₁
      cases r
      · rw [if_pos (by decide)] at h; exact wp_no (Tbs.wp h A Z s₁ R (g.ext x₁)) fun _ _ ⟨x₂, r₂⟩ => ⟨x₁.trans x₂, r₂⟩
      · rw [if_neg (by decide)] at h; subst h; exact ⟨x₁, rfl⟩
theorem Tb.boolop {op : BoolOp} {es : List Expr} {pos : Pos} {b : Bool} (h : Tbs prog w k env ρ op es b) : Tb prog w k env ρ (.BoolOp op es pos) b := fun A Z s R g => wpAny_isTrue_BoolOp (h.wp A Z s R g)
theorem Tb.and2 {x y : Expr} {pos : Pos} {a b : Bool} (h : Tb prog w k env ρ x a) (h2 : a = true → Tb prog w k env ρ y b) : Tb prog w k env ρ (.BoolOp .And [x, y] pos) (a && b) :=
  Tb.boolop ⟨a, h, by
    cases a
    · simp
    · simp only [Bool.true_and]; exact ⟨b, h2 rfl, by cases b <;> simp [Tbs]⟩⟩
theorem Tb.or2 {x y : Expr} {pos : Pos} {a b : Bool} (h : Tb prog w k env ρ x a) (h2 : a = false → Tb prog w k env ρ y b) : Tb prog w k env ρ (.BoolOp .Or [x, y] pos) (a || b) :=
  Tb.boolop ⟨a, h, by
    cases a
    · simp only [Bool.false_or]; exact ⟨b, h2 rfl, by cases b <;> simp [Tbs]⟩
    · simp⟩
theorem Tb.and3 {x y z : Expr} {pos : Pos} {a b c : Bool} (h : Tb prog w k env ρ x a) (h2 : a = true → Tb prog w k env ρ y b) (h3 : a = true → b = true → Tb prog w k env ρ z c) : Tb prog w k env ρ (.BoolOp .And [x, y, z] pos) (a && b && c) :=
  Tb.boolop ⟨a, h, by
    cases a
    · simp
    · refine ⟨b, h2 rfl, ?_⟩
      cases b
      · simp
      · exact ⟨c, h3 rfl rfl, by cases c <;> simp [Tbs]⟩⟩
theorem Tb.or3 {x y z : Expr} {pos : Pos} {a b c : Bool} (h : Tb prog w k env ρ x a) (h2 : a = false → Tb prog w k env ρ y b) (h3 : a = false → b = false → Tb prog w k env ρ z c) : Tb prog w k env ρ (.BoolOp .Or [x, y, z] pos) (a || b || c) :=
  Tb.boolop ⟨a, h, by
    cases a
    · refine ⟨b, h2 rfl, ?_⟩
      cases b
      · exact ⟨c, h3 rfl rfl, by cases c <;> simp [Tbs]⟩
      · simp
    · simp⟩
theorem Ev.ifexp {t x y : Expr} {pos : Pos} {b : Bool} {d : D} (h : Tb prog w k env ρ t b) (h1 : b = true → Ev prog w k env ρ x d) (h2 : b = false → Ev prog w k env ρ y d) : Ev prog w k env ρ (.IfExp t x y pos) d := fun A Z s R g =>
  wpAny_IfExp (wp_no (h A Z s R g) fun r s₁ ⟨x₁, r₁⟩ => by
    subst r₁
    cases r
    · exact wp_no (h2 rfl A Z s₁ R (g.ext x₁)) fun _ _ ⟨x₂, r₂⟩ => ⟨x₁.trans x₂, r₂⟩
    · exact wp_no (h1 rfl A Z s₁ R (g.ext x₁)) fun _ _ ⟨x₂, r₂⟩ => ⟨x₁.trans x₂, r₂⟩)
theorem Ev.or2 {x y : Expr} {pos : Pos} {d₁ d : D} {b : Bool} (h : Ev prog w k env ρ x d₁) (t : Tru prog w k d₁ b) (h1 : b = true → d = d₁) (h2 : b = false → Ev prog w k env ρ y d) : Ev prog w k env ρ (.BoolOp .Or [x, y] pos) d := fun A Z s R g =>
  wpAny_Or2 (wp_no (h A Z s R g) fun v₁ s₁ ⟨x₁, r₁⟩ => wp_no (t A Z s₁ v₁ R (g.ext x₁).alive r₁) fun c s₂ ⟨x₂, r₂⟩ => by
    subst r₂
    cases c
    · exact wp_no (h2 rfl A Z s₂ R ((g.ext x₁).ext x₂)) fun _ _ ⟨x₃, r₃⟩ => ⟨x₁.trans (x₂.trans x₃), r₃⟩
    · rw [h1 rfl]; exact ⟨x₁.trans x₂, r₁.ext x₂⟩)

/-- none of the list is a star -/
def noStars : List Expr → Bool
  | [] => true
  | .Starred _ _ :: _ => false
  | _ :: r => noStars r
theorem Evs.spliced {M : Model} {E : Value → Shared → Prop} {pos : Pos} {A : Around} {Z : List Addr} (R : Rm k A) : ∀ {es : List Expr} {ds : List D} {s : Shared} {Q : List Value → Shared → Prop}, Evs prog w k env ρ es ds → noStars es = true → RG env Z ρ s.heap →
    (∀ vs s', Ext [] s s' → Reps Z s'.heap ds vs → Q vs s') → wpAny (model prog w) A (spliced (backTo pos (starEach es env))) Q E s
  | [], ds, s, Q, h, _, _, hq => by cases h; exact Calls.spliced_nil (hq _ _ .refl Reps.nil)
  | e :: es, _, s, Q, ⟨d, rest, rfl, h, hr⟩, hn, g, hq => by
    have he : starEach (e :: es) env = (false, eval e env) :: starEach es env := by
      cases e <;> first | rfl | (simp [noStars] at hn)
    have hn' : noStars es = true := by
      cases e <;> first | exact hn | (simp [noStars] at hn)
    rw [he]
    refine Calls.spliced_cons (wp_no (h A Z s R g) fun v s₁ ⟨x₁, r₁⟩ => ?_)
    exact Evs.spliced (M := M) R hr hn' (g.ext x₁) fun vs s' x₂ r₂ => hq (v :: vs) s' (x₁.trans x₂) (Reps.cons (r₁.ext x₂) r₂)

theorem Ev.list {es : List Expr} {ds : List D} {pos : Pos} (h : Evs prog w k env ρ es ds) (hn : noStars es = true := by rfl) (hl : ds.length ≤ 1000 := by simp) : Ev prog w k env ρ (.List es pos) (.list ds) := fun A Z s R g =>
  wpAny_List (h.spliced (M := model prog w) R hn g fun vs s' x r => ⟨by have := r.length; unfold sizeLine; omega, x.trans .push, Rep.new_list r (g.ext x).alive⟩)
theorem Ev.tuple {es : List Expr} {ds : List D} {c : Nat} {pos : Pos} (h : Evs prog w k env ρ es ds) (hn : noStars es = true := by rfl) (hl : ds.length ≤ 1000 := by simp) : Ev prog w k env ρ (.Tuple es c pos) (.tup ds) := fun A Z s R g =>
  wpAny_Tuple_spliced (h.spliced (M := model prog w) R hn g fun vs s' x r => ⟨by have := r.length; unfold sizeLine; omega, x.trans .push, Rep.new_tup r (g.ext x).alive⟩)

theorem subscripted_false (slice : Expr) (o i : Value) : subscripted slice false o i = operate [i, o] (getItem o i) ∨ subscripted slice false o i = operate [o, i] (getItem o i) := by
  unfold subscripted
  split
  · exact .inl rfl
  · rename_i h; cases h
  · exact .inr rfl
theorem subscript_any {A : Around} {E : Value → Shared → Prop} {s : Shared} {value slice : Expr} {pos : Pos} {Q : Value → Shared → Prop}
    (h : wpAny (model prog w) A (eval value env) (fun o s₁ => wpAny (model prog w) A (eval slice env) (fun i s₂ => SubscriptOn (model prog w) A o i Q E s₂) E s₁) E s) :
    wpAny (model prog w) A (eval (.Subscript value slice pos) env) Q E s := by
  rw [eval_Subscript]
  refine wpAny_bind (wpAny_mono h (fun o s₁ h₁ => wpAny_bind (wpAny_holding (wpAny_mono h₁ (fun i s₂ h₂ => wpAny_bind (wpAny_standAt ?_)) fun _ _ x => x))) fun _ _ x => x)
  obtain ⟨T, id, hl, hT, hg⟩ := h₂
  refine wpAny_bind ?_
  rw [getitemInPython_of_ne hT.not_modules]
  refine wpAny_bind (wpAny_specialOf hT hl ?_)
  have fin : wpAny (model prog w) A (subscripted slice false o i) (fun r s₃ => wpAny (model prog w) A (letTemporaryGo value o r >>= fun _ => pure r) Q E s₃) E s₂ := by
    have q : ∀ vs, wpAny (model prog w) A (operate vs (getItem o i)) (fun r s₃ => wpAny (model prog w) A (letTemporaryGo value o r >>= fun _ => pure r) Q E s₃) E s₂ := fun vs =>
      wpAny_operating (wpAny_mono hg (fun r s₃ h₃ => wpAny_bind (wpAny_letTemporaryGo (wpAny_pure h₃))) fun _ _ x => x)
    rcases subscripted_false slice o i with e | e <;> rw [e] <;> exact q _
  exact wpAny_pure (wpAny_bind fin)

theorem Ev.item {v i : Expr} {pos : Pos} {d₁ d₂ d : D} (a : Ev prog w k env ρ v d₁) (b : Ev prog w k env ρ i d₂) (o : Itm prog w k d₁ d₂ d) : Ev prog w k env ρ (.Subscript v i pos) d := fun A Z s R g =>
  subscript_any (wp_no (a A Z s R g) fun v₁ s₁ ⟨x₁, r₁⟩ => wp_no (b A Z s₁ R (g.ext x₁)) fun v₂ s₂ ⟨x₂, r₂⟩ => by
    obtain ⟨T, id, p, q, t⟩ := o A Z s₂ v₁ v₂ R ((g.ext x₁).ext x₂).alive (r₁.ext x₂) r₂
    exact ⟨T, id, p, q, wp_no t fun _ _ ⟨x₃, r₃⟩ => ⟨x₁.trans (x₂.trans x₃), r₃⟩⟩)

/-- a part of a cut: nothing, or an int -/
def EvP (prog : Program) (w : World) (k : Nat) (env : Env) (ρ : List (Str × B)) : Option Expr → Option Int → Prop
  | none, i => i = none
  | some e, i => ∃ j, i = some j ∧ Ev prog w k env ρ e (.int j)
theorem EvP.wp {e : Option Expr} {i : Option Int} (h : EvP prog w k env ρ e i) {A : Around} {Z : List Addr} {s : Shared} {E : Value → Shared → Prop} {Q : Value → Shared → Prop} (R : Rm k A) (g : RG env Z ρ s.heap)
    (hq : ∀ d v s', Part d i → Ext [] s s' → Rep Z s'.heap d v → Q v s') : wpAny (model prog w) A (evalPart e env) Q E s := by
  cases e with
  | none => cases h; exact wpAny_evalPart_none (hq _ _ _ rfl .refl rfl)
  | some e => obtain ⟨j, rfl, h⟩ := h; exact wpAny_evalPart_some (wp_no (h A Z s R g) fun v s' ⟨x, r⟩ => hq _ v s' rfl x r)
theorem Ev.cut {v : Expr} {lo hi st : Option Expr} {p pos : Pos} {d₁ d : D} {l u t : Option Int} (a : Ev prog w k env ρ v d₁) (hl : EvP prog w k env ρ lo l) (hh : EvP prog w k env ρ hi u) (hs : EvP prog w k env ρ st t)
    (o : Cut prog w k d₁ l u t d) : Ev prog w k env ρ (.Subscript v (.Slice lo hi st p) pos) d := fun A Z s R g =>
  subscript_any (wp_no (a A Z s R g) fun v₁ s₁ ⟨x₁, r₁⟩ => wpAny_Slice (hl.wp R (g.ext x₁) fun b x s₂ pb e₂ rb => hh.wp R ((g.ext x₁).ext e₂) fun c y s₃ pc e₃ rc => hs.wp R (((g.ext x₁).ext e₂).ext e₃) fun e z s₄ pe e₄ re => by
    have e5 : Ext [] s₄ { s₄ with heap := s₄.heap.push { cls := .type "slice", data := .fields #[x, y, z] } } := .push
    have g4 := (((g.ext x₁).ext e₂).ext e₃).ext e₄
    obtain ⟨T, id, p, q, t⟩ := o A Z _ v₁ (.ref s₄.heap.objs.size) R (g4.ext e5).alive ((((r₁.ext e₂).ext e₃).ext e₄).ext e5)
      ⟨_, b, c, x, y, z, rfl, Heap.get?_push_size _ rfl, pb, pc, ((rb.ext e₃).ext e₄).ext e5, (rc.ext e₄).ext e5, e, pe, re.ext e5⟩
    exact ⟨T, id, p, q, wp_no t fun _ _ ⟨x₆, r₆⟩ => ⟨x₁.trans (e₂.trans (e₃.trans (e₄.trans (e5.trans x₆)))), r₆⟩⟩))
end
end Mine
end
section
open PySem PyProof.Rows
namespace Mine
section
variable {prog : Program} {w : World} {k : Nat} {env : Env} {ρ : List (Str × B)}

theorem noStars_any {env : Env} {pos : Pos} : ∀ {es : List Expr}, noStars es = true → (backTo pos (starEach es env)).any (·.1) = false
  | [], _ => rfl
  | e :: es, h => by
    have he : starEach (e :: es) env = (false, eval e env) :: starEach es env := by
      cases e <;> first | rfl | (simp [noStars] at h)
    have hn' : noStars es = true := by
      cases e <;> first | exact h | (simp [noStars] at h)
    rw [he]
    show ((false, _) :: backTo pos (starEach es env)).any (·.1) = false
    rw [List.any_cons, noStars_any hn']; rfl

theorem Evs.args {E : Value → Shared → Prop} {pos : Pos} {A : Around} {Z : List Addr} (R : Rm k A) {f : Value} {es : List Expr} {ds : List D} {s : Shared} {Q : Args → Shared → Prop} (h : Evs prog w k env ρ es ds) (hn : noStars es = true) (hne : es ≠ []) (g : RG env Z ρ s.heap)
    (hq : ∀ vs s', Ext [] s s' → Reps Z s'.heap ds vs → Q ⟨vs, []⟩ s') : wpAny (model prog w) A (evalArgs f true (backTo pos (starEach es env)) []) Q E s := by
  have sp := h.spliced (M := model prog w) (E := E) (pos := pos) (s := s) (Q := fun vs s' => Q ⟨vs, []⟩ s') R hn g hq
  cases es with
  | nil => exact absurd rfl hne
  | cons e es =>
    have he : starEach (e :: es) env = (false, eval e env) :: starEach es env := by
      cases e <;> first | rfl | (simp [noStars] at hn)
    rw [he] at sp ⊢
    exact Calls.evalArgs_plain sp

theorem callWith_value {M : Model} {A : Around} {E : Value → Shared → Prop} {s : Shared} {pos : Pos} {f : Value} {first : List Value} {args : List (Bool × Sem Value)} {Q : Value → Shared → Prop} (hf : ∀ a, f ≠ .ref a) (hplain : args.any (·.1) = false)
    (h : wpAny M A (evalArgs f true args []) (fun a s₁ => wpAny M A (call f (first ++ a.pos) a.kw) Q E s₁) E s) : wpAny M A (callWith pos f first args []) Q E s := by
  unfold callWith
  refine wpAny_bind (wpAny_holding (wpAny_mono h (fun a s₁ h₁ => wpAny_bind (wpAny_standAt ?_)) fun _ _ x => x))
  simp only [hplain, List.any_nil, Bool.or_false]
  have hk : keeperOf f = pure .machine := by
    cases f <;> first | rfl | exact absurd rfl (hf _)
  refine wpAny_bind (wpAny_of_eq hk ?_)
  exact wpAny_bind (wpAny_mono h₁ (fun r s₂ hr => wpAny_bind (wpAny_holding (wpAny_point (wpAny_pure hr)))) fun _ _ x => x)

/-- a call of a built-in under its name -/
theorem Ev.callb {x : Str} {p pos : Pos} {es : List Expr} {ds : List D} {d : D} {f : Value} (hx : env.kindOf x = some .globalImplicit) (hn : plainName x = true) (hg : ∀ h, TopF h → Glb h x f) (hf : ∀ a, f ≠ .ref a)
    (h : Evs prog w k env ρ es ds) (o : Cl prog w k x ds d) (hs : noStars es = true := by rfl) (hne : es ≠ [] := by simp) : Ev prog w k env ρ (.Call (.Name x p) es [] pos) d := fun A Z s R g => by
  simp only [plainName, Bool.and_eq_true, Bool.not_eq_true'] at hn
  refine wpAny_Call_NameR ((hg _ g.top).load g.fn hx g.gl g.bi ?_ hn.1)
  refine callWith_value hf (noStars_any hs) (h.args R hs hne g fun vs s' x₁ r => ?_)
  exact wp_no (o A Z s' f vs R (g.ext x₁).top (g.ext x₁).alive (hg _ (g.ext x₁).top) r) fun _ _ ⟨x₂, r₂⟩ => ⟨x₁.trans x₂, r₂⟩
/-- a call of a def of the text -/
theorem Ev.callf {p pos : Pos} {es : List Expr} {ds : List D} {d : D} (i : Nat) (hi : i ∈ theDefs) (hx : env.kindOf (dfn i).name = some .globalImplicit) (hn : plainName (dfn i).name = true)
    (h : Evs prog w k env ρ es ds) (o : Cl prog w k (dfn i).name ds d) (hs : noStars es = true := by rfl) (hne : es ≠ [] := by simp) : Ev prog w k env ρ (.Call (.Name (dfn i).name p) es [] pos) d := fun A Z s R g => by
  simp only [plainName, Bool.and_eq_true, Bool.not_eq_true'] at hn
  obtain ⟨a, F⟩ := g.top.fn i hi
  refine wpAny_Call_NameR (F.glb.load g.fn hx g.gl g.bi ?_ hn.1)
  obtain ⟨ob, pm, code, doc, ho, hd, hc⟩ := F.fn
  refine Calls.callWith_function (o := ob) (fd := Calls.docDef (dfn i).name (dfn i).params (dfn i).body (dfn i).scope pm code doc) (h.args R hs hne g fun vs s' x₁ r => ⟨⟨x₁.keep _ _ ho, hd⟩, ?_⟩)
  exact wp_no (o A Z s' (.ref a) vs R (g.ext x₁).top (g.ext x₁).alive (F.keeps x₁.keep).glb r) fun _ _ ⟨x₂, r₂⟩ => ⟨x₁.trans x₂, r₂⟩
/-- a method of a text -/
theorem Ev.meth {o : Expr} {name : Str} {apos pos : Pos} {es : List Expr} {d₀ d : D} {ds : List D} (a : Ev prog w k env ρ o d₀) (h : Evs prog w k env ρ es ds) (m : Mth prog w k name d₀ ds d)
    (hbase : attributeBase o name env (eval o env) = eval o env := by rfl) (hline : (apos.endLine == pos.line) = true := by rfl) (hs : noStars es = true := by rfl) (hne : es ≠ [] := by simp)
    (hfew : ((backTo pos (starEach es env)).all (fun x => !x.1) && (backToKw pos (keywordEach [] env)).all (fun x => x.1.isSome)
      && decide (es.length + ([] : List Keyword).length + (if ([] : List Keyword).isEmpty then 0 else 1) < 30)) = true := by rfl) :
    Ev prog w k env ρ (.Call (.Attribute o name apos) es [] pos) d := fun A Z s R g => by
  obtain ⟨T, id, pa, slot, hty, hT, hc⟩ := m
  refine wpAny_Call_method hbase hfew hline pa slot hty (wp_no (a A Z s R g) fun ov s₁ ⟨x₁, r₁⟩ => ⟨(hT Z s₁ ov r₁).1, fun b e => absurd e ((hT Z s₁ ov r₁).2 b), ?_⟩)
  refine callWith_value (fun _ e => by cases e) (noStars_any hs) (h.args R hs hne (g.ext x₁) fun vs s₂ x₂ r₂ => ?_)
  exact wp_no (hc A Z s₂ ov vs R ((g.ext x₁).ext x₂).alive (r₁.ext x₂) r₂) fun _ _ ⟨x₃, r₃⟩ => ⟨x₁.trans (x₂.trans x₃), r₃⟩
end
end Mine
end
section
open PySem PyProof.Rows
namespace Mine

/-- each pair of the second is found in the first -/
def Sub (ρ : List (Str × B)) : List (Str × B) → Prop
  | [] => True
  | (x, b) :: r => ρ.lookup x = some b ∧ Sub ρ r
theorem Sub.get {ρ : List (Str × B)} : ∀ {ρ' : List (Str × B)}, Sub ρ ρ' → ∀ {x : Str} {b : B}, ρ'.lookup x = some b → ρ.lookup x = some b
  | [], _, _, _, h => by simp at h
  | (y, c) :: r, ⟨p, q⟩, x, b, h => by
    rw [List.lookup_cons] at h
    cases e : x == y with
    | true => rw [e] at h; cases h; rw [eq_of_beq e]; exact p
    | false => rw [e] at h; exact Sub.get q h

/-- a frame: s₀ is the state at the call's start, sb an earlier state of this frame, Y what the callers (and the running loops) may still change, X what the frame itself may change -/
structure G (s₀ sb : Shared) (Y : List Addr) (env : Env) (X : List Addr) (ρ : List (Str × B)) (s : Shared) : Prop where
  base : Ext [] s₀ s
  rel : Ext X sb s
  top : TopF s₀.heap
  fn : env.scope.kind = .function
  gl : env.globals = mainGlobals
  bi : env.builtins = builtinsNs
  yal : Al Y s.heap
  xal : ∀ a ∈ X, s₀.heap.get? a = none ∧ ∃ o, s.heap.get? a = some o
  xy : ∀ a ∈ X, a ∉ Y
  loc : env.locals ∈ X ∧ ∃ m, s.heap.Ns env.locals m
  cel : ∀ n c, env.cells.lookup n = some c → c ∈ X ∧ ∃ v, s.heap.IsCell c v
  apart : ∀ n n' c, env.cells.lookup n = some c → env.cells.lookup n' = some c → n = n'
  vars : ∀ x b, ρ.lookup x = some b → Holds env (X ++ Y) s.heap x b
  owns : ∀ x a ds, ρ.lookup x = some (.own a ds) → a ∈ X

theorem Bd.kp {env : Env} {h h' : Heap} {x : Str} {v : Value} (b : Bd env h x v) {c : Addr} (hs : ∀ a o, a ≠ c → h.get? a = some o → h'.get? a = some o) (hl : env.locals ≠ c) (hc : ∀ n, env.cells.lookup x = some n → n ≠ c) : Bd env h' x v := by
  rcases b with ⟨k, m, ⟨o, es, ep, ho, r⟩, q⟩ | ⟨k, n, e, ⟨o, ho, r⟩⟩
  · exact .inl ⟨k, m, ⟨o, es, ep, hs _ _ hl ho, r⟩, q⟩
  · exact .inr ⟨k, n, e, ⟨o, hs _ _ (hc n e) ho, r⟩⟩

section
variable {s₀ sb s s' : Shared} {Y X : List Addr} {env : Env} {ρ ρ' : List (Str × B)}
theorem G.al (g : G s₀ sb Y env X ρ s) : Al (X ++ Y) s.heap := fun a ha => (List.mem_append.mp ha).elim (fun h => (g.xal a h).2) (g.yal a)
theorem G.rg (g : G s₀ sb Y env X ρ s) : RG env (X ++ Y) ρ s.heap := ⟨g.top.keeps g.base.keep, g.fn, g.gl, g.bi, g.al, fun y c e => let ⟨_, _, q, _⟩ := (g.cel y c e).2; ⟨_, q⟩, g.vars⟩
theorem G.ext (g : G s₀ sb Y env X ρ s) (e : Ext [] s s') : G s₀ sb Y env X ρ s' :=
  ⟨g.base.trans e, g.rel.trans e.wk, g.top, g.fn, g.gl, g.bi, g.yal.ext e, fun a ha => ⟨(g.xal a ha).1, let ⟨o, q⟩ := (g.xal a ha).2; ⟨o, e.keep _ _ q⟩⟩, g.xy, ⟨g.loc.1, let ⟨m, q⟩ := g.loc.2; ⟨m, q.keeps e.keep⟩⟩,
    fun n c h => ⟨(g.cel n c h).1, let ⟨v, q⟩ := (g.cel n c h).2; ⟨v, q.keeps e.keep⟩⟩, g.apart, fun x b h => (g.vars x b h).keeps e.keep, g.owns⟩
theorem G.weak (g : G s₀ sb Y env X ρ s) (h : Sub ρ ρ') : G s₀ sb Y env X ρ' s :=
  ⟨g.base, g.rel, g.top, g.fn, g.gl, g.bi, g.yal, g.xal, g.xy, g.loc, g.cel, g.apart, fun x b e => g.vars x b (h.get e), fun x a ds e => g.owns x a ds (h.get e)⟩

/-- only the object at c, one of the frame's, is changed -/
theorem G.poke {c : Addr} {h' : Heap} {t : Nat} (g : G s₀ sb Y env X ρ s) (hc : c ∈ X) (hs : Heap.SameBut c s.heap h') (hc' : ∃ o, h'.get? c = some o) (hl : ∃ m, h'.Ns env.locals m)
    (hcel : ∀ n b, env.cells.lookup n = some b → ∃ v, h'.IsCell b v) (hv : ∀ x b, ρ'.lookup x = some b → Holds env (X ++ Y) h' x b) (ho : ∀ x a ds, ρ'.lookup x = some (.own a ds) → a ∈ X) :
    G s₀ sb Y env X ρ' { s with heap := h', toks := t } := by
  have al : ∀ a, (∃ o, s.heap.get? a = some o) → ∃ o, h'.get? a = some o := fun a ⟨o, e⟩ => by
    by_cases q : a = c
    · rw [q]; exact hc'
    · exact ⟨o, (hs.2 a q).trans e⟩
  refine ⟨⟨fun a o _ e => ?_, g.base.os, g.base.gens⟩, g.rel.trans ⟨fun a o n e => (hs.2 a fun q => n (q ▸ hc)).trans e, rfl, rfl⟩, g.top, g.fn, g.gl, g.bi, fun a ha => al a (g.yal a ha), fun a ha => ⟨(g.xal a ha).1, al a (g.xal a ha).2⟩, g.xy, ⟨g.loc.1, hl⟩, fun n b e => ⟨(g.cel n b e).1, hcel n b e⟩, g.apart, hv, ho⟩
  refine (hs.2 a fun q => ?_).trans (g.base.keep a o e)
  rw [q, (g.xal c hc).1] at e; cases e

theorem G.loc_ne_cell (g : G s₀ sb Y env X ρ s) {n : Str} {c : Addr} (h : env.cells.lookup n = some c) : env.locals ≠ c := fun e => by
  obtain ⟨m, o, es, ep, ho, hd, _⟩ := g.loc.2
  obtain ⟨v, o', ho', hd'⟩ := (g.cel n c h).2
  rw [← e, ho] at ho'; cases ho'
  rw [hd] at hd'; cases hd'
theorem G.loc_ne_list (g : G s₀ sb Y env X ρ s) {a : Addr} {vs : Array Value} (h : s.heap.PlainList a vs) : env.locals ≠ a := fun e => by
  obtain ⟨m, o, es, ep, ho, hd, _⟩ := g.loc.2
  obtain ⟨n, ho'⟩ := h
  rw [← e, ho] at ho'; cases ho'; cases hd
theorem G.cell_ne_list (g : G s₀ sb Y env X ρ s) {n : Str} {c a : Addr} {vs : Array Value} (hc : env.cells.lookup n = some c) (h : s.heap.PlainList a vs) : c ≠ a := fun e => by
  obtain ⟨v, o, ho, hd⟩ := (g.cel n c hc).2
  obtain ⟨n, ho'⟩ := h
  rw [← e, ho] at ho'; cases ho'; cases hd

/-- the rest of the names stand as they stood where only c is changed -/
theorem G.other {c : Addr} {h' : Heap} (g : G s₀ sb Y env X ρ s) (hc : c ∈ X) (hs : Heap.SameBut c s.heap h') {y : Str} {b : B} (hy : ρ.lookup y = some b)
    (hb : ∀ v, Bd env s.heap y v → Bd env h' y v) (hl : ∀ a ds, b = .own a ds → a ≠ c) : Holds env (X ++ Y) h' y b := by
  have kp : ∀ a o, a ∉ X ++ Y → s.heap.get? a = some o → h'.get? a = some o := fun a o n e => (hs.2 a fun q => n (List.mem_append.mpr (.inl (q ▸ hc)))).trans e
  have H := g.vars y b hy
  cases b with
  | dat d => obtain ⟨v, p, q⟩ := H; exact ⟨v, hb v p, q.kp kp⟩
  | own a ds => obtain ⟨p, vs, q, r⟩ := H; exact ⟨hb _ p, vs, q.at fun o e => (hs.2 a (hl a ds rfl)).trans e, r.kp kp⟩

/-- the name may be stored in this frame -/
def Sto (env : Env) (x : Str) : Prop := env.kindOf x = some .local ∨ (env.kindOf x = some .cell ∧ ∃ c, env.cells.lookup x = some c)

theorem lookup_ne {x y : Str} {b : B} (h : y ≠ x) : ((x, b) :: ρ).lookup y = ρ.lookup y := by rw [List.lookup_cons, beq_eq_false_iff_ne.mpr h]
theorem lookup_self {x : Str} {b : B} : ((x, b) :: ρ).lookup x = some b := by rw [List.lookup_cons, beq_self_eq_true]

theorem G.store {M : Model} {A : Around} {E : Value → Shared → Prop} {x : Str} {v : Value} {b : B} {Q : Unit → Shared → Prop} (g : G s₀ sb Y env X ρ s) (hx : Sto env x)
    (hb : ∀ h', (∀ a o, a ∉ X ++ Y → s.heap.get? a = some o → h'.get? a = some o) → (∀ a vs, s.heap.PlainList a vs → h'.PlainList a vs) → Bd env h' x v → Holds env (X ++ Y) h' x b) (ho : ∀ a ds, b = .own a ds → a ∈ X)
    (h : ∀ s', Ext X s s' → G s₀ sb Y env X ((x, b) :: ρ) s' → Q () s') : wpAny M A (storeName env x v) Q E s := by
  rcases hx with hx | ⟨hx, c, hc⟩
  · obtain ⟨m, hm⟩ := g.loc.2
    refine wpAny_storeName_local hx hm (fun h' hn hs => h _ ⟨fun a o n e => (hs.2 a fun q => n (q ▸ g.loc.1)).trans e, rfl, rfl⟩ ?_) (by rw [g.fn]; rfl)
    refine g.poke g.loc.1 hs ⟨_, hn.choose_spec.choose_spec.choose_spec.1⟩ ⟨_, hn⟩ (fun n c e => ?_) (fun y b' e => ?_) fun y a ds e => ?_
    · obtain ⟨v', q⟩ := (g.cel n c e).2
      exact ⟨v', q.sameBut hs (g.loc_ne_cell e).symm⟩
    · by_cases q : y = x
      · subst q
        rw [lookup_self] at e; cases e
        refine hb h' (fun a o n e => (hs.2 a fun q => n (List.mem_append.mpr (.inl (q ▸ g.loc.1)))).trans e) (fun a vs pl => pl.at fun o e => (hs.2 a (g.loc_ne_list pl).symm).trans e) (.inl ⟨hx, _, hn, by simp⟩)
      · rw [lookup_ne q] at e
        refine g.other g.loc.1 hs e (fun v' bd => ?_) fun a ds eb => ?_
        · rcases bd with ⟨k, m', hm', q'⟩ | ⟨k, n, en, ⟨o, ho, r⟩⟩
          · exact .inl ⟨k, _, hn, by simp only [if_neg q]; rw [PySem.Heap.Ns.agree hm hm']; exact q'⟩
          · exact .inr ⟨k, n, en, ⟨o, (hs.2 n (g.loc_ne_cell en).symm).trans ho, r⟩⟩
        · subst eb; obtain ⟨_, vs, pl, _⟩ := g.vars y _ e; exact (g.loc_ne_list pl).symm
    · by_cases q : y = x
      · subst q; rw [lookup_self] at e; cases e; exact ho _ _ rfl
      · rw [lookup_ne q] at e; exact g.owns _ _ _ e
  · obtain ⟨hcX, v₀, hv₀⟩ := g.cel x c hc
    refine wpAny_storeName_cell g.fn hx hc hv₀ fun h' hn hs => h _ ⟨fun a o n e => (hs.2 a fun q => n (q ▸ hcX)).trans e, rfl, rfl⟩ ?_
    have hn' := hn
    obtain ⟨oc, hoc, hdc⟩ := hn
    obtain ⟨m, hm⟩ := g.loc.2
    refine g.poke (t := s.toks) hcX hs ⟨_, hoc⟩ ⟨m, hm.sameBut hs (g.loc_ne_cell hc)⟩ (fun n c' e => ?_) (fun y b' e => ?_) fun y a ds e => ?_
    · by_cases q : c' = c
      · subst q; exact ⟨_, hn'⟩
      · obtain ⟨v', q'⟩ := (g.cel n c' e).2
        exact ⟨v', q'.sameBut hs q⟩
    · by_cases q : y = x
      · subst q
        rw [lookup_self] at e; cases e
        refine hb h' (fun a o n e => (hs.2 a fun q => n (List.mem_append.mpr (.inl (q ▸ hcX)))).trans e) (fun a vs pl => pl.at fun o e => (hs.2 a (g.cell_ne_list hc pl).symm).trans e) (.inr ⟨.inl hx, c, hc, hn'⟩)
      · rw [lookup_ne q] at e
        refine g.other hcX hs e (fun v' bd => bd.kp (c := c) (fun a o n e => (hs.2 a n).trans e) (g.loc_ne_cell hc) fun n en eq => q (g.apart _ _ _ en (eq ▸ hc))) fun a ds eb => ?_
        subst eb; obtain ⟨_, vs, pl, _⟩ := g.vars y _ e; exact (g.cell_ne_list hc pl).symm
    · by_cases q : y = x
      · subst q; rw [lookup_self] at e; cases e; exact ho _ _ rfl
      · rw [lookup_ne q] at e; exact g.owns _ _ _ e

theorem G.put {M : Model} {A : Around} {E : Value → Shared → Prop} {x : Str} {v : Value} {d : D} {Q : Unit → Shared → Prop} (g : G s₀ sb Y env X ρ s) (hx : Sto env x) (r : Rep (X ++ Y) s.heap d v)
    (h : ∀ s', Ext X s s' → G s₀ sb Y env X ((x, .dat d) :: ρ) s' → Q () s') : wpAny M A (storeName env x v) Q E s :=
  g.store (b := .dat d) hx (fun _ kp _ b => ⟨v, b, r.kp kp⟩) (fun _ _ e => by cases e) h

/-- a list of the frame's own, new at a -/
theorem G.grow {a : Addr} {s₁ : Shared} (g : G s₀ sb Y env X ρ s) (e : Ext [] s s₁) (hn : s.heap.get? a = none) (ho : ∃ o, s₁.heap.get? a = some o) : G s₀ sb Y env (a :: X) ρ s₁ := by
  have g1 := g.ext e
  refine ⟨g1.base, ⟨fun b o n q => g1.rel.kp b o (fun h => n (List.mem_cons_of_mem _ h)) q, g1.rel.os, g1.rel.gens⟩, g.top, g.fn, g.gl, g.bi, g1.yal, fun b hb => ?_, fun b hb q => ?_, ⟨List.mem_cons_of_mem _ g1.loc.1, g1.loc.2⟩, fun n c h => ⟨List.mem_cons_of_mem _ (g1.cel n c h).1, (g1.cel n c h).2⟩, g.apart, fun x b h => ?_, fun x b ds h => List.mem_cons_of_mem _ (g.owns x b ds h)⟩
  · rcases List.mem_cons.mp hb with rfl | hb
    · refine ⟨?_, ho⟩
      cases q : s₀.heap.get? b with
      | none => rfl
      | some o => have := g.base.keep _ _ q; rw [hn] at this; cases this
    · exact g1.xal b hb
  · rcases List.mem_cons.mp hb with rfl | hb
    · obtain ⟨o, e⟩ := g.yal b q; rw [hn] at e; cases e
    · exact g1.xy b hb q
  · have H := g.vars x b h
    have kp : ∀ b o, s.heap.get? b = some o → s₁.heap.get? b = some o := e.keep
    have hW : ∀ b ∈ [a], s.heap.get? b = none := fun b hb => by rw [List.mem_singleton.mp hb]; exact hn
    cases b with
    | dat d => obtain ⟨v, p, q⟩ := H; exact ⟨v, p.keeps kp, q.more (W := [a]) kp hW⟩
    | own b ds => obtain ⟨p, vs, q, r⟩ := H; exact ⟨p.keeps kp, vs, q.at fun o e => kp _ o e, r.more (W := [a]) kp hW⟩

/-- what the frame may change is less -/
theorem G.less {X' : List Addr} (g : G s₀ sb Y env X ρ s) (h : ∀ a ∈ X', a ∈ X) (hl : env.locals ∈ X') (hc : ∀ n c, env.cells.lookup n = some c → c ∈ X') (ho : ∀ x a ds, ρ.lookup x = some (.own a ds) → a ∈ X') (hb : ∀ a ∈ X, a ∉ X' → sb.heap.get? a = none) : G s₀ sb Y env X' ρ s := by
  have hz : ∀ a ∈ X' ++ Y, a ∈ X ++ Y := fun a ha => List.mem_append.mpr ((List.mem_append.mp ha).elim (fun q => .inl (h a q)) .inr)
  refine ⟨g.base, ⟨fun a o n e => ?_, g.rel.os, g.rel.gens⟩, g.top, g.fn, g.gl, g.bi, g.yal, fun a ha => g.xal a (h a ha), fun a ha => g.xy a (h a ha), ⟨hl, g.loc.2⟩, fun n c e => ⟨hc n c e, (g.cel n c e).2⟩, g.apart, fun x b e => ?_, ho⟩
  · by_cases q : a ∈ X
    · rw [hb a q n] at e; cases e
    · exact g.rel.kp a o q e
  · have H := g.vars x b e
    cases b with
    | dat d => obtain ⟨v, p, q⟩ := H; exact ⟨v, p, q.weak hz⟩
    | own b ds => obtain ⟨p, vs, q, r⟩ := H; exact ⟨p, vs, q, r.weak hz⟩
end
end Mine
end
section
open PySem PyProof.Rows
namespace Mine

/-- what a walk over the datum hands out -/
def itemsOf : D → Option (List D)
  | .list ds => some ds
  | .tup ds => some ds
  | .txt false cs => some (cs.map fun c => .txt false [c])
  | .range a b c => if Builtin.Range.small a b c = true then some ((List.range (Builtin.Range.rangeSize a b c).toNat).map fun i => .int (a + (i : Nat) * c)) else none
  | _ => none

/-- an iterator at I, made at h₀, that hands out ds; St i: where it stands -/
structure Its (prog : Program) (w : World) (A : Around) (Z : List Addr) (h₀ : Heap) (ds : List D) (I : Addr) (St : Nat → Heap → Prop) : Prop where
  new : I ∉ Z
  frame : ∀ i h h', St i h → (∀ o, h.get? I = some o → h'.get? I = some o) → (∀ a o, a ∉ Z → h₀.get? a = some o → h'.get? a = some o) → St i h'
  at_ : ∀ i h, St i h → ∃ o, h.get? I = some o
  kept : ∀ i h, St i h → ∀ a o, a ∉ Z → h₀.get? a = some o → h.get? a = some o
  item : ∀ i d (s : Shared) (Q : Option Value → Shared → Prop) (E : Value → Shared → Prop), ds[i]? = some d → St i s.heap →
    (∀ v h' tk, Rep Z h₀ d v → St (i + 1) h' → (∀ b o, b ≠ I → s.heap.get? b = some o → h'.get? b = some o) → Q (some v) { s with heap := h', toks := tk }) → wpAny (model prog w) A (pyNext (.ref I)) Q E s
  done : ∀ (s : Shared) (Q : Option Value → Shared → Prop) (E : Value → Shared → Prop), St ds.length s.heap →
    (∀ h' tk, (∀ b o, b ≠ I → s.heap.get? b = some o → h'.get? b = some o) → Q none { s with heap := h', toks := tk }) → wpAny (model prog w) A (pyNext (.ref I)) Q E s
  self : ∀ i (s : Shared) (Q : Value → Shared → Prop) (E : Value → Shared → Prop), St i s.heap → Q (.ref I) s → wpAny (model prog w) A (pyIter (.ref I)) Q E s
  tup : ∀ i (s : Shared) (v : Value) (elts : List Expr) (x1 : Nat) (pos : Pos) (Q : Unit → Shared → Prop) (E : Value → Shared → Prop), St i s.heap → Q () s → wpAny (model prog w) A (letOwnedTupleGo (.Tuple elts x1 pos) (.ref I) v) Q E s

section
variable {prog : Program} {w : World} {A : Around} {Z : List Addr} {s : Shared}
theorem tup_any {E : Value → Shared → Prop} {I : Addr} {o : Obj} {T : String} {vs : Array Value} {v : Value} {elts : List Expr} {x1 : Nat} {pos : Pos} {Q : Unit → Shared → Prop} (ho : s.heap.get? I = some o) (hc : o.cls = .type T) (hd : o.data = .fields vs)
    (hT : ["enumerate", "zip", "dict_itemiterator", "dict_reverseitemiterator", "odict_iterator", "itertools.zip_longest", "itertools.pairwise"].contains T = false) (hQ : Q () s) :
    wpAny (model prog w) A (letOwnedTupleGo (.Tuple elts x1 pos) (.ref I) v) Q E s := by
  cases v with
  | ref a =>
    unfold letOwnedTupleGo
    refine wpAny_bind (wpAny_load ho ?_)
    rw [hc, hd]
    show wpAny _ A (if (["enumerate", "zip", "dict_itemiterator", "dict_reverseitemiterator", "odict_iterator", "itertools.zip_longest", "itertools.pairwise"].contains T && _) = true then _ else _) Q E s
    rw [hT, Bool.false_and, if_neg (by simp)]
    exact wpAny_pure hQ
  | _ => exact wpAny_pure hQ

/-- the walks of the library that only write their iterator -/
theorem Its.of_walks {I : Addr} {fp : List Addr} {P : Nat → Value → Prop} {St : Nat → Heap → Prop} {ds : List D} (W : Walks prog w A I fp [I] ds.length P St) (new : I ∉ Z) {h₀ : Heap} (hfp : ∀ b ∈ fp, b = I ∨ (b ∉ Z ∧ ∃ o, h₀.get? b = some o))
    (at_ : ∀ i h, St i h → ∃ o, h.get? I = some o) (hI : h₀.get? I = none)
    (hP : ∀ (i : Nat) d v, ds[i]? = some d → P i v → Rep Z h₀ d v)
    (tup : ∀ i (s : Shared) (v : Value) (elts : List Expr) (x1 : Nat) (pos : Pos) (Q : Unit → Shared → Prop) (E : Value → Shared → Prop), St i s.heap → Q () s → wpAny (model prog w) A (letOwnedTupleGo (.Tuple elts x1 pos) (.ref I) v) Q E s) :
    Its prog w A Z h₀ ds I (fun i h => St i h ∧ ∀ a o, a ∉ Z → h₀.get? a = some o → h.get? a = some o) where
  new := new
  frame := fun i h h' st hI' hk => ⟨W.frame i h h' st.1 fun b hb o e => by
      rcases hfp b hb with rfl | ⟨n, o', e'⟩
      · exact hI' o e
      · have := st.2 b o' n e'
        rw [e] at this; cases this
        exact hk b o n e', hk⟩
  at_ := fun i h st => at_ i h st.1
  kept := fun i h st => st.2
  item := fun i d s Q E hd st hQ => by
    have hi : i < ds.length := (List.getElem?_eq_some_iff.mp hd).1
    refine W.item i s Q E hi st.1 fun v h' tk hv st' hk => ?_
    exact hQ v h' tk (hP i d v hd hv) ⟨st', fun a o n e => hk a o (fun q => by rw [List.mem_singleton.mp q, hI] at e; cases e) (st.2 a o n e)⟩ fun b o n e => hk b o (by simpa using n) e
  done := fun s Q E st hQ => W.done s Q E st.1 fun h' tk hk => hQ h' tk fun b o n e => hk b o (by simpa using n) e
  self := fun i s Q E st hQ => W.self i s Q E st.1 hQ
  tup := fun i s v elts x1 pos Q E st hQ => tup i s v elts x1 pos Q E st.1 hQ

theorem Rep.avoid {d : D} {v : Value} {h h' : Heap} {I : Addr} (r : Rep Z h d v) (hI : h.get? I = none) (hk : ∀ a o, a ∉ Z → h.get? a = some o → h'.get? a = some o) : Rep (I :: Z) h' d v :=
  Rep.gen hk (fun a o p q e => by
    rcases List.mem_cons.mp p with rfl | p
    · rw [hI] at e; cases e
    · exact q p) r
theorem Reps.avoid {ds : List D} {vs : List Value} {h h' : Heap} {I : Addr} (r : Reps Z h ds vs) (hI : h.get? I = none) (hk : ∀ a o, a ∉ Z → h.get? a = some o → h'.get? a = some o) : Reps (I :: Z) h' ds vs :=
  Reps.gen hk (fun a o p q e => by
    rcases List.mem_cons.mp p with rfl | p
    · rw [hI] at e; cases e
    · exact q p) r

theorem iter_ok {d : D} {ds : List D} {v : Value} (hh : A.handled = none) (al : Al Z s.heap) (r : Rep Z s.heap d v) (hd : itemsOf d = some ds) :
    wpAny (model prog w) A (pyIter v) (fun it s₂ => Ext [] s s₂ ∧ ∃ I St, it = .ref I ∧ s.heap.get? I = none ∧ St 0 s₂.heap ∧ Its prog w A Z s.heap ds I St) No s := by
  have fr : s.heap.get? s.heap.objs.size = none := PySem.Heap.get?_none_of_le (Nat.le_refl _)
  have new : s.heap.objs.size ∉ Z := al.size
  cases d with
  | list xs =>
    cases hd
    obtain ⟨a, vs, rfl, hn, hpl, hr⟩ := r
    have hl := hpl.isList
    have hne : a ≠ s.heap.objs.size := fun e => by obtain ⟨o, ho, _⟩ := hl; rw [e, fr] at ho; cases ho
    refine wpAny_pyIter_list hl ⟨.push, _, fun i h => (h.IsListIter s.heap.objs.size a i ∧ h.IsList a (List.toArray vs)) ∧ ∀ a' o', a' ∉ Z → s.heap.get? a' = some o' → h.get? a' = some o', rfl, fr, ⟨⟨⟨_, Heap.get?_push_size _ rfl, rfl, rfl⟩, hl.push _⟩, fun _ _ _ e => Heap.get?_push_of_some _ e⟩, ?_⟩
    have W := Walks.list (prog := prog) (w := w) hh s.heap.objs.size a hne (List.toArray vs)
    rw [show (List.toArray vs).size = ds.length by simp [hr.length]] at W
    refine Its.of_walks W new (fun b hb => ?_) (fun i h st => ⟨_, st.1.choose_spec.1⟩) fr
      (fun i d v hd hv => ?_) fun i s v elts x1 pos Q E st hQ => ?_
    · simp at hb; rcases hb with rfl | rfl
      · exact .inl rfl
      · obtain ⟨o, ho, _⟩ := hl; exact .inr ⟨hn, o, ho⟩
    · obtain ⟨v', p, q⟩ := hr.get hd
      have hv' : vs[i]? = some v := by simpa using hv
      rw [p] at hv'; cases hv'; exact q
    · obtain ⟨o, ho, hc, hd⟩ := st.1
      exact tup_any ho hc hd (by decide) hQ
  | tup xs =>
    cases hd
    obtain ⟨a, vs, rfl, hn, hpl, hr⟩ := r
    have hl := hpl.isTuple
    have hne : a ≠ s.heap.objs.size := fun e => by obtain ⟨o, ho, _⟩ := hl; rw [e, fr] at ho; cases ho
    refine wpAny_pyIter_tuple hl ⟨.push, _, fun i h => (h.IsTupleIter s.heap.objs.size a i ∧ h.IsTuple a (List.toArray vs)) ∧ ∀ a' o', a' ∉ Z → s.heap.get? a' = some o' → h.get? a' = some o', rfl, fr, ⟨⟨⟨_, Heap.get?_push_size _ rfl, rfl, rfl⟩, PySem.Heap.IsTuple.at hl fun o e => Heap.get?_push_of_some _ e⟩, fun _ _ _ e => Heap.get?_push_of_some _ e⟩, ?_⟩
    have W := Walks.tuple (prog := prog) (w := w) hh s.heap.objs.size a hne (List.toArray vs)
    rw [show (List.toArray vs).size = ds.length by simp [hr.length]] at W
    refine Its.of_walks W new (fun b hb => ?_) (fun i h st => ⟨_, st.1.choose_spec.1⟩) fr
      (fun i d v hd hv => ?_) fun i s v elts x1 pos Q E st hQ => ?_
    · simp at hb; rcases hb with rfl | rfl
      · exact .inl rfl
      · obtain ⟨o, ho, _⟩ := hl; exact .inr ⟨hn, o, ho⟩
    · obtain ⟨v', p, q⟩ := hr.get hd
      have hv' : vs[i]? = some v := by simpa using hv
      rw [p] at hv'; cases hv'; exact q
    · obtain ⟨o, ho, hc, hd⟩ := st.1
      exact tup_any ho hc hd (by decide) hQ
  | range a b c =>
    simp only [itemsOf] at hd
    split at hd
    · rename_i hsm
      cases hd
      obtain ⟨q, rfl, hn, t, u, x, hr⟩ := r
      refine wpAny_pyIter_range hr hsm ⟨.push, _, fun i h => IsRangeIter h s.heap.objs.size (a + (i : Nat) * c) (((Builtin.Range.rangeSize a b c).toNat : Int) - (i : Nat)) c ∧ ∀ a' o', a' ∉ Z → s.heap.get? a' = some o' → h.get? a' = some o', rfl, fr, ⟨?_, fun _ _ _ e => Heap.get?_push_of_some _ e⟩, ?_⟩
      · have hpos : 0 ≤ Builtin.Range.rangeSize a b c := by
          unfold Builtin.Range.rangeSize
          split
          · split
            · have := Int.ediv_nonneg (a := b - a - 1) (b := c) (by omega) (by omega); omega
            · omega
          · split
            · have := Int.ediv_nonneg (a := a - b - 1) (b := -c) (by omega) (by omega); omega
            · omega
        have e1 : a + ((0 : Nat) : Int) * c = a := by simp
        have e2 : ((Builtin.Range.rangeSize a b c).toNat : Int) - ((0 : Nat) : Int) = Builtin.Range.rangeSize a b c := by omega
        rw [e1, e2]; exact Heap.get?_push_size _ rfl
      · have W := Walks.range (prog := prog) (w := w) hh s.heap.objs.size a c (Builtin.Range.rangeSize a b c).toNat
        have hlen : ((List.range (Builtin.Range.rangeSize a b c).toNat).map fun i => D.int (a + (i : Nat) * c)).length = (Builtin.Range.rangeSize a b c).toNat := by simp
        refine Its.of_walks (fp := [s.heap.objs.size]) (by rw [hlen]; exact W) new (fun b hb => .inl (List.mem_singleton.mp hb)) (fun i h st => ⟨_, st⟩) fr (fun i d v hd hv => ?_) fun i s v elts x1 pos Q E st hQ => ?_
        · obtain ⟨t, rfl⟩ := hv
          simp only [List.getElem?_map] at hd
          obtain ⟨j, hj, rfl⟩ := Option.map_eq_some_iff.mp hd
          have : j = i := by
            obtain ⟨_, h2⟩ := List.getElem?_eq_some_iff.mp hj
            simpa using h2.symm
          subst this
          exact ⟨t, rfl⟩
        · exact tup_any st rfl rfl (by decide) hQ
    · cases hd
  | txt o cs =>
    cases o with
    | true => cases hd
    | false =>
      simp only [itemsOf, Option.some.injEq] at hd
      subst hd
      obtain ⟨t, rfl⟩ := r
      have fin : ∀ (o : Obj) (St : Nat → Heap → Prop), (∀ A' : Around, A'.handled = none → Walks prog w A' s.heap.objs.size [s.heap.objs.size] [s.heap.objs.size] (Str.mk cs.toArray).cps.size (SignAt (Str.mk cs.toArray)) St) → St 0 (s.heap.push o) →
          (∀ i h, St i h → ∃ o T vs, h.get? s.heap.objs.size = some o ∧ o.cls = .type T ∧ o.data = .fields vs ∧ ["enumerate", "zip", "dict_itemiterator", "dict_reverseitemiterator", "odict_iterator", "itertools.zip_longest", "itertools.pairwise"].contains T = false) →
          Ext [] s { s with heap := s.heap.push o } ∧ ∃ I St, Value.ref s.heap.objs.size = .ref I ∧ s.heap.get? I = none ∧ St 0 (s.heap.push o) ∧ Its prog w A Z s.heap (cs.map fun c => D.txt false [c]) I St := fun o St W st0 hat => by
        refine ⟨.push, _, fun i h => St i h ∧ ∀ a' o', a' ∉ Z → s.heap.get? a' = some o' → h.get? a' = some o', rfl, fr, ⟨st0, fun _ _ _ e => Heap.get?_push_of_some _ e⟩, ?_⟩
        have hlen : (cs.map fun c => D.txt false [c]).length = (Str.mk cs.toArray).cps.size := by simp
        refine Its.of_walks (fp := [s.heap.objs.size]) (by rw [hlen]; exact W A hh) new (fun b hb => .inl (List.mem_singleton.mp hb)) (fun i h st => ⟨_, (hat i h st).choose_spec.choose_spec.choose_spec.1⟩) fr (fun i d v hd hv => ?_) fun i s v elts x1 pos Q E st hQ => ?_
        · obtain ⟨c, u, hc, rfl⟩ := hv
          simp only [List.getElem?_map] at hd
          have hc' : cs[i]? = some c := by simpa using hc
          rw [hc'] at hd; cases hd
          exact ⟨u, rfl⟩
        · obtain ⟨o, T, vs, p, q, r, t⟩ := hat i _ st
          exact tup_any p q r t hQ
      cases ha : (Str.mk cs.toArray).cps.all (· < 128)
      · exact wpAny_pyIter_wide ha (fin _ _ (fun A' hA => Walks.strWide hA _ _ t) ⟨_, Heap.get?_push_size _ rfl, rfl, rfl⟩ fun i h ⟨o, p, q, r⟩ => ⟨o, _, _, p, q, r, by decide⟩)
      · exact wpAny_pyIter_ascii ha (fin _ _ (fun A' hA => Walks.strAscii hA _ _ t) ⟨_, Heap.get?_push_size _ rfl, rfl, rfl⟩ fun i h ⟨o, p, q, r⟩ => ⟨o, _, _, p, q, r, by decide⟩)
  | none => cases hd
  | bool b => cases hd
  | int i => cases hd
  | ty n => cases hd
end
end Mine
end
section
open PySem PyProof.Rows
namespace Mine

def Run (prog : Program) (w : World) (A : Around) (s₀ sb : Shared) (Y : List Addr) (env : Env) (X : List Addr) (ρ : List (Str × B)) (ss : List Stmt) (Q : Flow → Shared → Prop) : Prop :=
  ∀ s, G s₀ sb Y env X ρ s → wpAny (model prog w) A (execs ss env) Q No s
/-- the rest, then Q -/
def Then (prog : Program) (w : World) (A : Around) (env : Env) (rest : List Stmt) (Q : Flow → Shared → Prop) : Flow → Shared → Prop :=
  fun f s' => match f with | .next => wpAny (model prog w) A (execs rest env) Q No s' | f => Q f s'

section
variable {prog : Program} {w : World} {k : Nat} {A : Around} {s₀ sb : Shared} {Y : List Addr} {env : Env} {X : List Addr} {ρ ρ' : List (Str × B)} {rest : List Stmt} {Q : Flow → Shared → Prop}

theorem G.back {s1 s : Shared} {J : List Addr} (g : G s₀ s1 (J ++ Y) env X ρ s) (h : Ext X sb s1) : G s₀ sb Y env X ρ s := by
  have hz : ∀ a ∈ X ++ Y, a ∈ X ++ (J ++ Y) := fun a ha => by
    rcases List.mem_append.mp ha with h | h
    · exact List.mem_append.mpr (.inl h)
    · exact List.mem_append.mpr (.inr (List.mem_append.mpr (.inr h)))
  refine ⟨g.base, h.trans g.rel, g.top, g.fn, g.gl, g.bi, fun a ha => g.yal a (List.mem_append.mpr (.inr ha)), g.xal, fun a ha q => g.xy a ha (List.mem_append.mpr (.inr q)), g.loc, g.cel, g.apart, fun x b e => ?_, g.owns⟩
  have H := g.vars x b e
  cases b with
  | dat d => obtain ⟨v, p, q⟩ := H; exact ⟨v, p, q.weak hz⟩
  | own b ds => obtain ⟨p, vs, q, r⟩ := H; exact ⟨p, vs, q, r.weak hz⟩
theorem G.rebase {s1 s : Shared} (g : G s₀ s1 Y env X ρ s) : G s₀ s Y env X ρ s :=
  ⟨g.base, .refl, g.top, g.fn, g.gl, g.bi, g.yal, g.xal, g.xy, g.loc, g.cel, g.apart, g.vars, g.owns⟩

theorem Run.weak (h : Run prog w A s₀ sb Y env X ρ' rest Q) (hs : Sub ρ ρ') : Run prog w A s₀ sb Y env X ρ rest Q := fun s g => h s (g.weak hs)
theorem Run.nil (h : ∀ s, G s₀ sb Y env X ρ s → Q .next s) : Run prog w A s₀ sb Y env X ρ [] Q := fun s g => wpAny_execs_nil (h s g)
theorem Run.fin (h : Run prog w A s₀ sb Y env X ρ rest Q) : Run prog w A s₀ sb Y env X ρ [] (Then prog w A env rest Q) := fun s g => wpAny_execs_nil (h s g)
theorem Run.stmt {st : Stmt} (h : ∀ s, G s₀ sb Y env X ρ s → wpAny (model prog w) A (exec st env) (Then prog w A env rest Q) No s) : Run prog w A s₀ sb Y env X ρ (st :: rest) Q := fun s g =>
  wpAny_execs_cons (wp_no (h s g) fun f s' hf => by cases f <;> exact hf)

theorem Run.assign {x : Str} {p pos : Pos} {e : Expr} {d : D} (R : Rm k A) (h : Ev prog w k env ρ e d) (hx : Sto env x) (hr : Run prog w A s₀ sb Y env X ((x, .dat d) :: ρ) rest Q)
    (hs : swapsWith e (some (.Name x p)) pos.line env = pure false := by rfl) : Run prog w A s₀ sb Y env X ρ (.Assign [.Name x p] e pos :: rest) Q :=
  Run.stmt fun s g => wpAny_Assign_Name (wp_no (h A _ s R g.rg) fun _ _ ⟨x₁, r₁⟩ => (g.ext x₁).put hx r₁ fun s' _ g' => hr s' g') hs
theorem Run.aug {x : Str} {p pos : Pos} {op : Operator} {e : Expr} {d₀ d₁ d : D} (R : Rm k A) (h0 : ρ.lookup x = some (.dat d₀)) (hn : plainName x = true) (h : Ev prog w k env ρ e d₁) (o : OpI prog w k op d₀ d₁ d) (hx : Sto env x) (hr : Run prog w A s₀ sb Y env X ((x, .dat d) :: ρ) rest Q) :
    Run prog w A s₀ sb Y env X ρ (.AugAssign (.Name x p) op e pos :: rest) Q :=
  Run.stmt fun s g => wpAny_AugAssign_Name (by
    obtain ⟨v, b, r⟩ := g.vars x _ h0
    simp only [plainName, Bool.and_eq_true, Bool.not_eq_true'] at hn
    refine b.load g.fn ?_ hn.2
    exact wp_no (h A _ s R g.rg) fun u s₁ ⟨x₁, r₁⟩ => wp_no (o A _ s₁ v u R (g.ext x₁).al (r.ext x₁) r₁) fun y s₂ ⟨x₂, r₂⟩ => ((g.ext x₁).ext x₂).put hx r₂ fun s' _ g' => hr s' g')
theorem Run.ite {test : Expr} {body orelse : List Stmt} {pos : Pos} {b : Bool} (R : Rm k A) (t : Tb prog w k env ρ test b) (h1 : b = true → Run prog w A s₀ sb Y env X ρ body (Then prog w A env rest Q))
    (h2 : b = false → Run prog w A s₀ sb Y env X ρ orelse (Then prog w A env rest Q)) : Run prog w A s₀ sb Y env X ρ (.If test body orelse pos :: rest) Q :=
  Run.stmt fun s g => wpAny_If (wp_no (t A _ s R g.rg) fun c s₁ ⟨x₁, r₁⟩ => by
    subst r₁
    cases c
    · exact h2 rfl s₁ (g.ext x₁)
    · exact h1 rfl s₁ (g.ext x₁))
theorem Run.ret {e : Expr} {pos : Pos} {d : D} (R : Rm k A) (h : Ev prog w k env ρ e d) (hq : ∀ s v, Ext [] s₀ s → Rep (X ++ Y) s.heap d v → Q (.ret v) s) : Run prog w A s₀ sb Y env X ρ (.Return (some e) pos :: rest) Q :=
  Run.stmt fun s g => wpAny_Return_some (wp_no (h A _ s R g.rg) fun v s₁ ⟨x₁, r₁⟩ => hq s₁ v (g.ext x₁).base r₁)
theorem Run.brk {pos : Pos} (hq : ∀ s, G s₀ sb Y env X ρ s → Q .brk s) : Run prog w A s₀ sb Y env X ρ (.Break pos :: rest) Q := Run.stmt fun s g => wpAny_Break (hq s g)
theorem Run.cont {pos : Pos} (hq : ∀ s, G s₀ sb Y env X ρ s → Q .cont s) : Run prog w A s₀ sb Y env X ρ (.Continue pos :: rest) Q := Run.stmt fun s g => wpAny_Continue (hq s g)
theorem Run.try_ {body orelse : List Stmt} {h₀ : ExceptHandler} {hs : List ExceptHandler} {pos : Pos} (h : Run prog w A s₀ sb Y env X ρ body (Then prog w A env orelse (Then prog w A env rest Q))) :
    Run prog w A s₀ sb Y env X ρ (.Try body (h₀ :: hs) orelse [] pos :: rest) Q :=
  Run.stmt fun s g => wpAny_Try_except (wp_no (h s g) fun f s' hf => by cases f <;> exact hf)

/-- the turns of a while: n of them -/
theorem Run.while_ {test : Expr} {body : List Stmt} {pos : Pos} (R : Rm k A) (I : Nat → List (Str × B)) (n : Nat) (h0 : Sub ρ (I 0)) (t : ∀ i, i ≤ n → Tb prog w k env (I i) test (decide (i < n)))
    (turn : ∀ i s1, i < n → Run prog w A s₀ s1 Y env X (I i) body (fun f s' => match f with | .next | .cont => G s₀ s1 Y env X (I (i + 1)) s' | .brk => False | .ret v => Q (.ret v) s'))
    (hr : Run prog w A s₀ sb Y env X (I n) rest Q) : Run prog w A s₀ sb Y env X ρ (.While test body [] pos :: rest) Q :=
  Run.stmt fun s g => wpAny_While (by
    refine codeAny_whileLoop (fun m s' => ∃ i, m = n - i ∧ i ≤ n ∧ G s₀ sb Y env X (I i) s') ?_ n ⟨0, rfl, Nat.zero_le _, g.weak h0⟩
    rintro m s' ⟨i, rfl, hi, g'⟩
    refine wp_no (t i hi A _ s' R g'.rg) fun b s₂ ⟨x₂, r₂⟩ => ?_
    subst r₂
    by_cases h : i < n
    · rw [decide_eq_true h, if_pos rfl]
      refine wp_no (turn i s₂ h s₂ (g'.ext x₂).rebase) fun f s₃ hf => ?_
      have fin : G s₀ s₂ Y env X (I (i + 1)) s₃ → ∃ m, m < n - i ∧ ∃ j, m = n - j ∧ j ≤ n ∧ G s₀ sb Y env X (I j) s₃ := fun q =>
        ⟨n - (i + 1), by omega, i + 1, rfl, h, G.back (J := []) (by simpa using q) (g'.ext x₂).rel⟩
      cases f with
      | next => exact fin hf
      | cont => exact fin hf
      | brk => exact hf.elim
      | ret v => exact hf
    · have e : i = n := by omega
      subst e
      rw [decide_eq_false h, if_neg (by simp)]
      exact wpAny_execs_nil (hr s₂ (g'.ext x₂)))

/-- how a target takes a datum -/
def Tgt (env : Env) (t : Expr) (d : D) (f : List (Str × B) → List (Str × B)) : Prop := ∀ {prog : Program} {w : World} {A : Around} {E : Value → Shared → Prop} {s₀ sb s : Shared} {Y X : List Addr} {ρ : List (Str × B)} {v : Value} {Q : Unit → Shared → Prop}, A.handled = none →
  G s₀ sb Y env X ρ s → Rep (X ++ Y) s.heap d v → (∀ s', Ext X s s' → G s₀ sb Y env X (f ρ) s' → Q () s') → wpAny (model prog w) A (assign t env v) Q E s
theorem Tgt.name {x : Str} {p : Pos} {d : D} (hx : Sto env x) : Tgt env (.Name x p) d (fun ρ => (x, .dat d) :: ρ) := fun _ g r h => wpAny_assign_Name (g.put hx r h)
theorem tup_stores {M : Model} {E : Value → Shared → Prop} : ∀ {xs : List (Str × Pos)} {ds : List D} {vs : List Value} {s : Shared} {ρ : List (Str × B)} {Q : Unit → Shared → Prop}, (∀ x ∈ xs, Sto env x.1) → xs.length = ds.length → G s₀ sb Y env X ρ s → Reps (X ++ Y) s.heap ds vs →
    (∀ s', Ext X s s' → G s₀ sb Y env X (((xs.map (·.1)).zip (ds.map B.dat)).reverse ++ ρ) s' → Q () s') → wpAny M A (assignInOrder (xs.map fun x => assign (.Name x.1 x.2) env) vs) Q E s
  | [], ds, vs, s, ρ, Q, _, hl, g, r, h => by
    cases ds with
    | nil => cases r; exact wpAny_assignInOrder_none (h s .refl (by simpa using g))
    | cons _ _ => simp at hl
  | (x, p) :: xs, ds, vs, s, ρ, Q, hx, hl, g, r, h => by
    cases ds with
    | nil => simp at hl
    | cons d ds =>
      obtain ⟨v, rest, rfl, a, b⟩ := r
      refine wpAny_assignInOrder_more (wpAny_assign_Name (g.put (hx _ List.mem_cons_self) a fun s' e' g' => ?_))
      refine tup_stores (M := M) (fun y hy => hx y (List.mem_cons_of_mem _ hy)) (by simpa using hl) g' (b.kp fun a o n e => e'.kp a o (fun q => n (List.mem_append.mpr (.inl q))) e) fun s'' e'' g'' => h s'' (e'.trans e'') ?_
      simpa using g''
theorem Tgt.tuple {xs : List (Str × Pos)} {c : Nat} {pos : Pos} {ds : List D} (hx : ∀ x ∈ xs, Sto env x.1) (hl : xs.length = ds.length) (ha : assignEach (xs.map fun x => Expr.Name x.1 x.2) env = xs.map fun x => (false, assign (.Name x.1 x.2) env)) :
    Tgt env (.Tuple (xs.map fun x => .Name x.1 x.2) c pos) (.tup ds) (fun ρ => ((xs.map (·.1)).zip (ds.map B.dat)).reverse ++ ρ) := fun {prog w A E s₀ sb s Y X ρ v Q} hh g r h => by
  obtain ⟨a, vs, rfl, hn, ht, hr⟩ := r
  refine wpAny_assign_Tuple hh ht.isTuple (by rw [ha]; simp [hl, hr.length]) (by rw [ha]; simp) fun h' he => ?_
  rw [ha, List.map_map]
  have e1 : Ext [] s { s with heap := h' } := Ext.heap' fun b o _ e => he b o (Nat.ne_of_lt (Heap.lt_size e)) e
  exact tup_stores (M := model prog w) (s₀ := s₀) (sb := sb) (Y := Y) (X := X) (ρ := ρ) (xs := xs) (ds := ds) hx hl (g.ext e1) (by simpa using hr.ext e1) fun s'' e'' g'' => h s'' ((Ext.wk e1).trans e'') g''

theorem Run.unpack {t e : Expr} {pos : Pos} {d : D} {f : List (Str × B) → List (Str × B)} (R : Rm k A) (h : Ev prog w k env ρ e d) (ht : Tgt env t d f) (hr : Run prog w A s₀ sb Y env X (f ρ) rest Q)
    (he : ∀ (env : Env), exec (.Assign [t] e pos) env = (do standAt pos; let v ← eval e env; PySem.assign t env v; pure .next)) : Run prog w A s₀ sb Y env X ρ (.Assign [t] e pos :: rest) Q :=
  Run.stmt fun s g => by
    rw [he]
    exact wpAny_bind (wpAny_standAt (wpAny_bind (wp_no (h A _ s R g.rg) fun v s₁ ⟨x₁, r₁⟩ => wpAny_bind (ht R.handled (g.ext x₁) r₁ fun s' _ g' => wpAny_pure (hr s' g')))))

/-- the pokes of an iterator -/
theorem G.iter {s : Shared} {J : Addr} {h' : Heap} {t : Nat} (g : G s₀ sb (J :: Y) env X ρ s) (hX : J ∉ X) (h0 : s₀.heap.get? J = none) (hb : sb.heap.get? J = none) (hk : ∀ b o, b ≠ J → s.heap.get? b = some o → h'.get? b = some o) (ho : ∃ o, h'.get? J = some o) :
    G s₀ sb (J :: Y) env X ρ { s with heap := h', toks := t } := by
  have ne : ∀ a, a ∈ X → a ≠ J := fun a ha e => hX (e ▸ ha)
  have al : ∀ a, (∃ o, s.heap.get? a = some o) → ∃ o, h'.get? a = some o := fun a ⟨o, e⟩ => by
    by_cases q : a = J
    · rw [q]; exact ho
    · exact ⟨o, hk a o q e⟩
  have kp : ∀ a o, a ∉ X ++ (J :: Y) → s.heap.get? a = some o → h'.get? a = some o := fun a o n e => hk a o (fun q => n (by rw [q]; simp)) e
  refine ⟨⟨fun a o _ e => ?_, g.base.os, g.base.gens⟩, ⟨fun a o n e => ?_, g.rel.os, g.rel.gens⟩, g.top, g.fn, g.gl, g.bi, fun a ha => al a (g.yal a ha), fun a ha => ⟨(g.xal a ha).1, al a (g.xal a ha).2⟩, g.xy, ⟨g.loc.1, ?_⟩, fun n c e => ⟨(g.cel n c e).1, ?_⟩, g.apart, fun x b e => ?_, g.owns⟩
  · exact hk a o (fun q => by rw [q, h0] at e; cases e) (g.base.keep a o e)
  · exact hk a o (fun q => by rw [q, hb] at e; cases e) (g.rel.kp a o n e)
  · obtain ⟨m, o, es, ep, q, r⟩ := g.loc.2
    exact ⟨m, o, es, ep, hk _ _ (ne _ g.loc.1) q, r⟩
  · obtain ⟨v, o, q, r⟩ := (g.cel n c e).2
    exact ⟨v, o, hk _ _ (ne _ (g.cel n c e).1) q, r⟩
  · have bd : ∀ v, Bd env s.heap x v → Bd env h' x v := fun v bd => bd.kp (c := J) hk (ne _ g.loc.1) fun n en => ne _ (g.cel x n en).1
    have H := g.vars x b e
    cases b with
    | dat d => obtain ⟨v, p, q⟩ := H; exact ⟨v, bd v p, q.kp kp⟩
    | own a ds => obtain ⟨p, vs, q, r⟩ := H; exact ⟨bd _ p, vs, q.at fun o e' => hk a o (ne _ (g.owns x a ds e)) e', r.kp kp⟩
theorem G.more {s s₁ : Shared} {J : Addr} (g : G s₀ sb Y env X ρ s) (e : Ext [] s s₁) (hn : s.heap.get? J = none) (ho : ∃ o, s₁.heap.get? J = some o) : G s₀ sb (J :: Y) env X ρ s₁ := by
  have g1 := g.ext e
  refine ⟨g1.base, g1.rel, g1.top, g1.fn, g1.gl, g1.bi, fun a ha => ?_, g1.xal, fun a ha q => ?_, g1.loc, g1.cel, g1.apart, fun x b h => ?_, g1.owns⟩
  · rcases List.mem_cons.mp ha with rfl | ha
    · exact ho
    · exact g1.yal a ha
  · rcases List.mem_cons.mp q with rfl | q
    · obtain ⟨o, e⟩ := (g.xal a ha).2; rw [hn] at e; cases e
    · exact g1.xy a ha q
  · have H := g.vars x b h
    have hz : ∀ a o, a ∈ X ++ (J :: Y) → a ∉ X ++ Y → s.heap.get? a = some o → False := fun a o p q e => by
      rcases List.mem_append.mp p with p | p
      · exact q (List.mem_append.mpr (.inl p))
      · rcases List.mem_cons.mp p with rfl | p
        · rw [hn] at e; cases e
        · exact q (List.mem_append.mpr (.inr p))
    cases b with
    | dat d => obtain ⟨v, p, q⟩ := H; exact ⟨v, p.keeps e.keep, q.gen (fun a o _ q => e.keep a o q) hz⟩
    | own b ds => obtain ⟨p, vs, q, r⟩ := H; exact ⟨p.keeps e.keep, vs, q.at fun o q => e.keep _ o q, r.gen (fun a o _ q => e.keep a o q) hz⟩

theorem G.iterOut {s : Shared} {J : Addr} {h' : Heap} {t : Nat} (g : G s₀ sb (J :: Y) env X ρ s) (hX : J ∉ X) (hY : J ∉ Y) (h0 : s₀.heap.get? J = none) (hb : sb.heap.get? J = none) (hk : ∀ b o, b ≠ J → s.heap.get? b = some o → h'.get? b = some o) :
    G s₀ sb Y env X ρ { s with heap := h', toks := t } := by
  have ne : ∀ a, a ∈ X → a ≠ J := fun a ha e => hX (e ▸ ha)
  have hz : ∀ a ∈ X ++ Y, a ∈ X ++ (J :: Y) := fun a ha => by
    rcases List.mem_append.mp ha with h | h
    · exact List.mem_append.mpr (.inl h)
    · exact List.mem_append.mpr (.inr (List.mem_cons_of_mem _ h))
  have kp : ∀ a o, a ∉ X ++ (J :: Y) → s.heap.get? a = some o → h'.get? a = some o := fun a o n e => hk a o (fun q => n (by rw [q]; simp)) e
  refine ⟨⟨fun a o _ e => ?_, g.base.os, g.base.gens⟩, ⟨fun a o n e => ?_, g.rel.os, g.rel.gens⟩, g.top, g.fn, g.gl, g.bi, fun a ha => ?_, fun a ha => ⟨(g.xal a ha).1, ?_⟩, fun a ha q => g.xy a ha (List.mem_cons_of_mem _ q), ⟨g.loc.1, ?_⟩, fun n c e => ⟨(g.cel n c e).1, ?_⟩, g.apart, fun x b e => ?_, g.owns⟩
  · exact hk a o (fun q => by rw [q, h0] at e; cases e) (g.base.keep a o e)
  · exact hk a o (fun q => by rw [q, hb] at e; cases e) (g.rel.kp a o n e)
  · obtain ⟨o, e⟩ := g.yal a (List.mem_cons_of_mem _ ha)
    exact ⟨o, hk a o (fun q => hY (q ▸ ha)) e⟩
  · obtain ⟨o, e⟩ := (g.xal a ha).2
    exact ⟨o, hk a o (ne a ha) e⟩
  · obtain ⟨m, o, es, ep, q, r⟩ := g.loc.2
    exact ⟨m, o, es, ep, hk _ _ (ne _ g.loc.1) q, r⟩
  · obtain ⟨v, o, q, r⟩ := (g.cel n c e).2
    exact ⟨v, o, hk _ _ (ne _ (g.cel n c e).1) q, r⟩
  · have bd : ∀ v, Bd env s.heap x v → Bd env h' x v := fun v bd => bd.kp (c := J) hk (ne _ g.loc.1) fun n en => ne _ (g.cel x n en).1
    have H := g.vars x b e
    cases b with
    | dat d => obtain ⟨v, p, q⟩ := H; exact ⟨v, bd v p, (q.kp kp).weak hz⟩
    | own a ds => obtain ⟨p, vs, q, r⟩ := H; exact ⟨bd _ p, vs, q.at fun o e' => hk a o (ne _ (g.owns x a ds e)) e', (r.kp kp).weak hz⟩

/-- what a turn of a for leaves -/
def Turn (prog : Program) (w : World) (A : Around) (s₀ sb s1 : Shared) (Y : List Addr) (J : Addr) (env : Env) (X : List Addr) (next : List (Str × B)) (rest : List Stmt) (Q : Flow → Shared → Prop) : Flow → Shared → Prop := fun f s' => match f with
  | .next | .cont => G s₀ s1 (J :: Y) env X next s'
  | .brk => ∃ ρb, G s₀ s1 (J :: Y) env X ρb s' ∧ Run prog w A s₀ sb Y env X ρb rest Q
  | .ret v => Q (.ret v) s'
theorem Run.for_ {t e : Expr} {body : List Stmt} {pos : Pos} {d : D} {ds : List D} (R : Rm k A) (h : Ev prog w k env ρ e d) (hd : itemsOf d = some ds) (I : Nat → List (Str × B)) (f : D → List (Str × B) → List (Str × B)) (ht : ∀ (i : Nat) di, ds[i]? = some di → Tgt env t di (f di)) (h0 : Sub ρ (I 0))
    (turn : ∀ (i : Nat) di s1 J, ds[i]? = some di → Run prog w A s₀ s1 (J :: Y) env X (f di (I i)) body (Turn prog w A s₀ sb s1 Y J env X (I (i + 1)) rest Q))
    (hr : Run prog w A s₀ sb Y env X (I ds.length) rest Q) (hlet : (∃ x p, t = .Name x p) ∨ (∃ xs c p, t = .Tuple xs c p)) (hs : ∀ x, foldedSetIterable e env x = pure x := by intro _; rfl) :
    Run prog w A s₀ sb Y env X ρ (.For t e body [] pos :: rest) Q :=
  Run.stmt fun s g => wpAny_For (wp_no (h A _ s R g.rg) fun v s₁ ⟨x₁, r₁⟩ => wp_no (iter_ok R.handled (g.ext x₁).al r₁ hd) fun it s₂ ⟨x₂, J, St, hit, hn, st0, W⟩ => by
    subst hit
    have g1 := g.ext x₁
    have hX : J ∉ X := fun q => by obtain ⟨o, e⟩ := (g1.xal J q).2; rw [hn] at e; cases e
    have h00 : s₀.heap.get? J = none := by
      cases q : s₀.heap.get? J with
      | none => rfl
      | some o => have := g1.base.keep _ _ q; rw [hn] at this; cases this
    have hbb : sb.heap.get? J = none := by
      cases q : sb.heap.get? J with
      | none => rfl
      | some o => have := g1.rel.kp _ _ hX q; rw [hn] at this; cases this
    have g2 : G s₀ sb (J :: Y) env X (I 0) s₂ := (g1.more x₂ hn (W.at_ _ _ st0)).weak h0
    refine codeAny_forLoop_any (fun m s' => ∃ i, m = ds.length + 1 - i ∧ i ≤ ds.length ∧ G s₀ sb (J :: Y) env X (I i) s' ∧ St i s'.heap) ?_ (ds.length + 1) ⟨0, rfl, Nat.zero_le _, g2, st0⟩
    rintro m s' ⟨i, rfl, hi, g', st⟩
    by_cases hlt : i < ds.length
    · have hdi : ds[i]? = some ds[i] := List.getElem?_eq_getElem hlt
      refine W.item i _ s' _ _ hdi st fun v h' tk rv st' hk => ?_
      have g3 : G s₀ sb (J :: Y) env X (I i) { s' with heap := h', toks := tk } := g'.iter hX h00 hbb hk (W.at_ _ _ st')
      have rv' : Rep (X ++ (J :: Y)) h' ds[i] v := Rep.gen (W.kept _ _ st') (fun a o p q e => by
        rcases List.mem_append.mp p with p | p
        · exact q (List.mem_append.mpr (.inl p))
        · rcases List.mem_cons.mp p with rfl | p
          · rw [hn] at e; cases e
          · exact q (List.mem_append.mpr (.inr p))) rv
      have go : wpAny (model prog w) A (PySem.assign t env v) (fun _ s₂ => wpAny (model prog w) A (execs body env) (fun f s₃ => match f with
            | .next | .cont => ∃ m, m < ds.length + 1 - i ∧ ∃ j, m = ds.length + 1 - j ∧ j ≤ ds.length ∧ G s₀ sb (J :: Y) env X (I j) s₃ ∧ St j s₃.heap
            | .brk => Then prog w A env rest Q .next s₃
            | .ret v => Then prog w A env rest Q (.ret v) s₃) (notedBy (model prog w) A env fun e s' => cameBackBy (model prog w) A env No e s') s₂) (notedBy (model prog w) A env fun e s' => cameBackBy (model prog w) A env No e s') { s' with heap := h', toks := tk } := by
        refine ht i ds[i] hdi R.handled g3 rv' fun s₄ e₄ g₄ => ?_
        refine wp_no (turn i ds[i] s₄ J hdi s₄ g₄.rebase) fun f s₅ hf => ?_
        have fin : G s₀ s₄ (J :: Y) env X (I (i + 1)) s₅ → ∃ m, m < ds.length + 1 - i ∧ ∃ j, m = ds.length + 1 - j ∧ j ≤ ds.length ∧ G s₀ sb (J :: Y) env X (I j) s₅ ∧ St j s₅.heap := fun q => by
          refine ⟨ds.length + 1 - (i + 1), by omega, i + 1, rfl, hlt, G.back (J := []) (by simpa using q) g₄.rel, ?_⟩
          exact W.frame _ _ _ st' (fun o e => q.rel.kp J o hX (e₄.kp J o hX e)) fun a o n e => q.rel.kp a o (fun z => n (List.mem_append.mpr (.inl z))) (e₄.kp a o (fun z => n (List.mem_append.mpr (.inl z))) (W.kept _ _ st' a o n e))
        cases f with
        | next => exact fin hf
        | cont => exact fin hf
        | brk => obtain ⟨ρb, gb, rb⟩ := hf; exact rb _ (G.back (J := [J]) (by simpa using gb) g₄.rel)
        | ret v => exact hf
      rcases hlet with ⟨x, p, rfl⟩ | ⟨xs, c, p, rfl⟩
      · exact wpAny_pure go
      · exact W.tup (i + 1) _ v xs c p _ _ st' go
    · have e : i = ds.length := by omega
      subst e
      refine W.done s' _ _ st fun h' tk hk => wpAny_execs_nil ?_
      exact hr _ (g'.iterOut hX (fun q => W.new (List.mem_append.mpr (.inr q))) h00 hbb hk)) hs
end
end Mine
end
section
open PySem PyProof.Rows
namespace Mine

/-- the frame of a call of the i-th def -/
abbrev envF (i : Nat) (pm code doc : Value) (L a : Addr) : Env := callEnvC (Calls.docDef (dfn i).name (dfn i).params (dfn i).body (dfn i).scope pm code doc) L a
/-- what a frame may change at its start: its locals, its cells -/
def ownX (env : Env) : List Addr := env.locals :: env.cells.filterMap fun p => env.cells.lookup p.1

theorem lookup_snoc {α : Type} (l : List (Str × α)) (n x : Str) (v : α) : (l ++ [(n, v)]).lookup x = (l.lookup x).or (if x = n then some v else none) := by
  rw [List.lookup_append]
  congr 1
  simp only [List.lookup_cons, List.lookup_nil]
  by_cases h : x = n
  · subst h; simp
  · simp [h, beq_eq_false_iff_ne.mpr h]
theorem bindL_get {kindOf : Str → Option NameKind} {x : Str} (hx : kindOf x = some .local) : ∀ (binds : List (Str × Value)) (m : Str → Option Value), bindL kindOf binds m x = (binds.reverse.lookup x).or (m x)
  | [], m => by simp [bindL]
  | (n, v) :: r, m => by
    rw [bindL, bindL_get hx r, List.reverse_cons, lookup_snoc, Option.or_assoc]
    congr 1
    by_cases h : x = n
    · subst h; simp [hx]
    · by_cases q : kindOf n = some .local <;> simp [q, h]
theorem bindC_get {kindOf : Str → Option NameKind} {x : Str} (hx : kindOf x ≠ some .local) : ∀ (binds : List (Str × Value)) (m : Str → Option Value), bindC kindOf binds m x = (binds.reverse.lookup x).or (m x)
  | [], m => by simp [bindC]
  | (n, v) :: r, m => by
    rw [bindC, bindC_get hx r, List.reverse_cons, lookup_snoc, Option.or_assoc]
    congr 1
    by_cases h : x = n
    · subst h; simp [hx]
    · by_cases q : kindOf n = some .local <;> simp [q, h]
theorem binds_get {Z : List Addr} {h : Heap} {x : Str} {b : B} : ∀ {xs : List Str} {ds : List D} {vs : List Value}, xs.length = ds.length → Reps Z h ds vs → (xs.zip (ds.map B.dat)).reverse.lookup x = some b → ∃ d v, b = .dat d ∧ x ∈ xs ∧ (xs.zip vs).reverse.lookup x = some v ∧ Rep Z h d v
  | [], ds, vs, hl, r, e => by simp at e
  | n :: xs, [], vs, hl, r, e => by simp at hl
  | n :: xs, d :: ds, vs, hl, ⟨v, rest, hv, rv, rr⟩, e => by
    subst hv
    rw [List.map_cons, List.zip_cons_cons, List.reverse_cons, lookup_snoc] at e
    rw [List.zip_cons_cons, List.reverse_cons, lookup_snoc]
    cases q : (xs.zip (ds.map B.dat)).reverse.lookup x with
    | some b' =>
      rw [q] at e; cases e
      obtain ⟨d', v', p1, p2, p3, p4⟩ := binds_get (by simpa using hl) rr q
      exact ⟨d', v', p1, List.mem_cons_of_mem _ p2, by rw [p3]; rfl, p4⟩
    | none =>
      rw [q, Option.none_or] at e
      by_cases h : x = n
      · rw [if_pos h] at e; cases e
        refine ⟨d, v, rfl, h ▸ List.mem_cons_self, ?_, rv⟩
        have : (xs.zip rest).reverse.lookup x = none := by
          have key : ∀ (xs : List Str) (ds : List D) (vs : List Value), xs.length = ds.length → vs.length = ds.length → (xs.zip (ds.map B.dat)).reverse.lookup x = none → (xs.zip vs).reverse.lookup x = none := by
            intro xs
            induction xs with
            | nil => intro ds vs _ _ _; simp
            | cons n xs ih =>
              intro ds vs h1 h2 h3
              cases ds with
              | nil => simp at h1
              | cons d ds =>
                cases vs with
                | nil => simp at h2
                | cons v vs =>
                  rw [List.map_cons, List.zip_cons_cons, List.reverse_cons, lookup_snoc] at h3
                  rw [List.zip_cons_cons, List.reverse_cons, lookup_snoc]
                  have h4 := Option.or_eq_none_iff.mp h3
                  rw [ih ds vs (by simpa using h1) (by simpa using h2) h4.1]
                  have h5 := h4.2
                  by_cases q : x = n
                  · rw [if_pos q] at h5; cases h5
                  · rw [if_neg q]; rfl
          exact key xs ds rest (by simpa using hl) rr.length q
        rw [this, if_pos h]; rfl
      · rw [if_neg h] at e; cases e

/-- what a call of a def that gives d must end with -/
def Gives (s₀ : Shared) (Y : List Addr) (d : D) : Flow → Shared → Prop := fun f s' => ∃ v, f = .ret v ∧ Ext [] s₀ s' ∧ Rep Y s'.heap d v

theorem Cl.of_run {prog : Program} {w : World} {k : Nat} (i : Nat) (hi : i ∈ theDefs) {xs : List Str} {ds : List D} {d : D} (hl : xs.length = ds.length)
    (hb : ∀ pm code doc vs, vs.length = xs.length → bindArgs (Calls.docDef (dfn i).name (dfn i).params (dfn i).body (dfn i).scope pm code doc) ⟨vs, []⟩ = pure (xs.zip vs))
    (hkind : ∀ n, ∀ x ∈ xs, (dfn i).scope.names.lookup x = some .local ∨ ((dfn i).scope.names.lookup x = some .cell ∧ ((cellsFrom n (dfn i).scope.names []).lookup x).isSome = true))
    (hco : (dfn i).scope.isCoroutine = false := by rfl) (hgen : (dfn i).scope.isGenerator = false := by rfl) (hk : (dfn i).scope.kind = .function := by rfl)
    (h : ∀ A s₀ Y pm code doc L a, Rm k A → Run prog w A s₀ s₀ Y (envF i pm code doc L a) (ownX (envF i pm code doc L a)) (xs.zip (ds.map B.dat)).reverse (dfn i).body (Gives s₀ Y d)) :
    Cl prog w (k + 1) (dfn i).name ds d := by
  intro A Z s f vs R top al g r
  obtain ⟨a, F⟩ := top.fn i hi
  have ef := Glb.uniq g F.glb
  subst ef
  obtain ⟨o, pm, code, doc, ho, hd, hc⟩ := F.fn
  refine wpAny_call (codeAny_call_cells (fd := Calls.docDef (dfn i).name (dfn i).params (dfn i).body (dfn i).scope pm code doc) R.limit ho hd top.nolimit hc rfl (hb pm code doc vs (by rw [r.length, hl])) rfl
    (fun x hx => hkind _ x.1 (List.of_mem_zip hx).1) (fun s₁ C => ?_) hco hgen hk)
  have e1 : Ext [] s s₁ := by
    obtain ⟨h', tk, rfl⟩ := C.toInCall.same
    exact ⟨fun a o _ e => C.toInCall.keep a o e, rfl, rfl⟩
  have fr : ∀ b, s.heap.objs.size ≤ b → s.heap.get? b = none := fun b hb => PySem.Heap.get?_none_of_le hb
  have hL : s.heap.objs.size ≤ (envF i pm code doc s.heap.objs.size a).locals := C.toInCall.fresh
  have hX : ∀ b ∈ ownX (envF i pm code doc s.heap.objs.size a), s.heap.get? b = none := fun b hb => by
    rcases List.mem_cons.mp hb with rfl | hb
    · exact fr _ hL
    · obtain ⟨p, hp, hq⟩ := List.mem_filterMap.mp hb
      exact fr _ (Nat.le_of_lt (Nat.lt_of_le_of_lt hL (C.above p.1 b (mem_of_lookup hq))))
  have rr : Reps (ownX (envF i pm code doc s.heap.objs.size a) ++ Z) s₁.heap ds vs := r.more e1.keep hX
  have lk : ∀ {n : Str} {c : Addr}, (envF i pm code doc s.heap.objs.size a).cells.lookup n = some c → (n, c) ∈ (envF i pm code doc s.heap.objs.size a).cells := mem_of_lookup
  have g₁ : G s s Z (envF i pm code doc s.heap.objs.size a) (ownX (envF i pm code doc s.heap.objs.size a)) (xs.zip (ds.map B.dat)).reverse s₁ := by
    refine ⟨e1, e1.wk, top, hk, rfl, rfl, al.ext e1, fun b hb => ⟨hX b hb, ?_⟩, fun b hb q => (by obtain ⟨o, e⟩ := al b q; rw [hX b hb] at e; cases e), ⟨List.mem_cons_self, _, C.toInCall.ns⟩, fun n c e => ⟨List.mem_cons_of_mem _ (List.mem_filterMap.mpr ⟨(n, c), lk e, e⟩), _, C.cell n c e⟩, fun n n' c e e' => name_of_addr C.apart (lk e) (lk e'), fun x b e => ?_, fun x b ds' e => ?_⟩
    · rcases List.mem_cons.mp hb with rfl | hb
      · obtain ⟨o, _, _, q, _⟩ := C.toInCall.ns; exact ⟨o, q⟩
      · obtain ⟨p, hp, hq⟩ := List.mem_filterMap.mp hb
        obtain ⟨o, q, _⟩ := C.cell p.1 b hq
        exact ⟨o, q⟩
    · obtain ⟨d', v', rfl, hx, hv, rv⟩ := binds_get hl rr e
      refine ⟨v', ?_, rv⟩
      rcases hkind (s.heap.objs.size + 1) x hx with hk' | ⟨hk', hcl⟩
      · refine .inl ⟨hk', _, C.toInCall.ns, ?_⟩
        rw [bindL_get hk', hv]; rfl
      · obtain ⟨c, hc⟩ := Option.isSome_iff_exists.mp hcl
        refine .inr ⟨.inl hk', c, hc, ?_⟩
        have := C.cell x c hc
        rw [bindC_get (by show (dfn i).scope.names.lookup x ≠ _; rw [hk']; decide), hv] at this
        exact this
    · obtain ⟨d', v', q, _⟩ := binds_get hl rr e
      cases q
  exact wpAny_mono (h _ s Z pm code doc s.heap.objs.size a R.deeper s₁ g₁) (fun f' s' hf => by obtain ⟨v, rfl, x, y⟩ := hf; exact ⟨x, y⟩) fun _ _ x => x.elim
end Mine
end
section
open PySem PyProof.Rows
set_option maxRecDepth 100000
namespace Mine
section
variable {prog : Program} {w : World} {k : Nat} {A : Around} {s₀ sb : Shared} {Y : List Addr} {env : Env} {X : List Addr} {ρ ρ' : List (Str × B)} {rest : List Stmt} {Q : Flow → Shared → Prop}

/-- a new list of the frame's own -/
theorem Run.newList {x : Str} {p q pos : Pos} (hx : Sto env x) (hr : ∀ a, a ∉ X → sb.heap.get? a = none → Run prog w A s₀ sb Y env (a :: X) ((x, .own a []) :: ρ) rest Q) :
    Run prog w A s₀ sb Y env X ρ (.Assign [.Name x p] (.List [] q) pos :: rest) Q :=
  Run.stmt fun s g => wpAny_Assign_Name (wpAny_List (by
    refine Calls.spliced_nil ⟨by simp, ?_⟩
    have fr : s.heap.get? s.heap.objs.size = none := PySem.Heap.get?_none_of_le (Nat.le_refl _)
    have hX : s.heap.objs.size ∉ X := fun q => by obtain ⟨o, e⟩ := (g.xal _ q).2; rw [fr] at e; cases e
    have hb : sb.heap.get? s.heap.objs.size = none := by
      cases q : sb.heap.get? s.heap.objs.size with
      | none => rfl
      | some o => have := g.rel.kp _ _ hX q; rw [fr] at this; cases this
    have g1 : G s₀ sb Y env (s.heap.objs.size :: X) ρ { s with heap := s.heap.push { cls := .type "list", data := .seq ([] : List Value).toArray } } := g.grow .push fr ⟨_, Heap.get?_push_size _ rfl⟩
    refine g1.store (b := .own s.heap.objs.size []) hx (fun h' kp kl bd => ⟨bd, [], kl _ _ ⟨_, Heap.get?_push_size _ rfl⟩, Reps.nil⟩) (fun a ds e => by cases e; simp) fun s' _ g' => hr _ hX hb s' g'))

theorem notInteractive (h : env.scope.kind = .function) : interactive env = false := by unfold interactive; rw [h]; rfl

/-- x.append(e) -/
theorem Run.append {x : Str} {p apos pos pos' : Pos} {e : Expr} {a : Addr} {ds : List D} {d : D} (R : Rm k A) (hx : ρ.lookup x = some (.own a ds)) (hn : plainName x = true) (h : Ev prog w k env ρ e d) (hd : ∀ y b es, ρ.lookup y = some (.own b es) → y ≠ x → b ≠ a) (hsz : ds.length ≤ 10000)
    (hr : Run prog w A s₀ sb Y env X ((x, .own a (ds ++ [d])) :: ρ) rest Q) (hst : noStars [e] = true := by rfl) (hline : (apos.endLine == pos.line) = true := by rfl)
    (hfew : ((backTo pos (starEach [e] env)).all (fun x => !x.1) && (backToKw pos (keywordEach [] env)).all (fun x => x.1.isSome) && decide (([e] : List Expr).length + ([] : List Keyword).length + (if ([] : List Keyword).isEmpty then 0 else 1) < 30)) = true := by rfl) :
    Run prog w A s₀ sb Y env X ρ (.Expr (.Call (.Attribute (.Name x p) (Str.ofString "append") apos) [e] [] pos) pos' :: rest) Q :=
  Run.stmt fun s g => wpAny_Expr_any (by
    have ht : backTo pos (starEach [e] env) = [(false, eval e env)] := by
      cases e <;> first | rfl | (simp [noStars] at hst)
    obtain ⟨bd, vs, pl, rs⟩ := g.vars x _ hx
    simp only [plainName, Bool.and_eq_true, Bool.not_eq_true'] at hn
    refine wpAny_Call_append rfl hfew hline ht (wpAny_Name (bd.load g.fn ⟨a, List.toArray vs, rfl, ?_, ?_⟩ hn.2) hn.1)
    · obtain ⟨n, q⟩ := pl; exact ⟨_, n, q, rfl, rfl, rfl⟩
    · refine wp_no (h A _ s R g.rg) fun v s₁ ⟨x₁, r₁⟩ => ?_
      have g1 := g.ext x₁
      have pl1 := pl.at fun o e => x₁.keep _ o e
      have haX := g.owns x a ds hx
      refine wpAny_list_append_plain pl1 (fun h' pl' hs => ?_) (by have := rs.length; simp; unfold sizeLine; omega)
      refine hr _ (g1.poke (t := s₁.toks) haX hs ⟨_, pl'.choose_spec⟩ ?_ (fun n c e => ?_) (fun y b e => ?_) fun y b es e => ?_)
      · obtain ⟨m, hm⟩ := g1.loc.2; exact ⟨m, hm.sameBut hs (g1.loc_ne_list pl1)⟩
      · obtain ⟨v', q⟩ := (g1.cel n c e).2; exact ⟨v', q.sameBut hs (g1.cell_ne_list e pl1)⟩
      · have bdk : ∀ y v', Bd env s₁.heap y v' → Bd env h' y v' := fun y v' bd => bd.kp (c := a) (fun b o n e => (hs.2 b n).trans e) (g1.loc_ne_list pl1) fun n en => g1.cell_ne_list en pl1
        by_cases q : y = x
        · subst q
          rw [lookup_self] at e; cases e
          have kp : ∀ b o, b ∉ X ++ Y → s₁.heap.get? b = some o → h'.get? b = some o := fun b o n e => (hs.2 b fun q => n (List.mem_append.mpr (.inl (q ▸ haX)))).trans e
          refine ⟨bdk _ _ (bd.keeps x₁.keep), vs ++ [v], by simpa using pl', ?_⟩
          exact Reps.append ((rs.ext x₁).kp kp) (Reps.cons (r₁.kp kp) Reps.nil)
        · rw [lookup_ne q] at e
          exact g1.other haX hs e (bdk y) fun b es eb => by subst eb; exact hd y b es e q
      · by_cases q : y = x
        · subst q; rw [lookup_self] at e; cases e; exact haX
        · rw [lookup_ne q] at e; exact g1.owns _ _ _ e) (by exact notInteractive ‹G s₀ sb Y env X ρ s›.fn) rfl

/-- the frame's own list is from here on a datum like any -/
theorem Run.freeze {x : Str} {a : Addr} {ds : List D} {X₁ X₂ : List Addr} (hx : ρ.lookup x = some (.own a ds)) (hX : X = X₁ ++ a :: X₂) (ha : a ∉ X₁ ++ X₂) (hs : Sub ρ ρ') (hd : ∀ y b es, ρ'.lookup y = some (.own b es) → b ≠ a) (hb : sb.heap.get? a = none)
    (hr : Run prog w A s₀ sb Y env (X₁ ++ X₂) ((x, .dat (.list ds)) :: ρ') rest Q) : Run prog w A s₀ sb Y env X ρ rest Q := fun s g => by
  obtain ⟨bd, vs, pl, rs⟩ := g.vars x _ hx
  have sub : ∀ b ∈ X₁ ++ X₂, b ∈ X := fun b hb => by rw [hX]; simp at hb ⊢; rcases hb with h | h <;> simp [h]
  have back : ∀ b, b ∈ X → b ≠ a → b ∈ X₁ ++ X₂ := fun b hb n => by rw [hX] at hb; simp at hb ⊢; rcases hb with h | h | h <;> simp_all
  have hz : ∀ b ∈ (X₁ ++ X₂) ++ Y, b ∈ X ++ Y := fun b hb => by
    rcases List.mem_append.mp hb with h | h
    · exact List.mem_append.mpr (.inl (sub b h))
    · exact List.mem_append.mpr (.inr h)
  have g1 : G s₀ sb Y env (X₁ ++ X₂) ρ' s := (g.weak hs).less sub (back _ g.loc.1 (g.loc_ne_list pl)) (fun n c e => back _ (g.cel n c e).1 (g.cell_ne_list e pl)) (fun y b es e => back _ (g.owns y b es (hs.get e)) (hd y b es e)) fun b hb' n => by
    by_cases q : b = a
    · rw [q]; exact hb
    · exact absurd (back b hb' q) n
  refine hr s ⟨g1.base, g1.rel, g1.top, g1.fn, g1.gl, g1.bi, g1.yal, g1.xal, g1.xy, g1.loc, g1.cel, g1.apart, fun y b e => ?_, fun y b es e => ?_⟩
  · by_cases q : y = x
    · subst q
      rw [lookup_self] at e; cases e
      refine ⟨_, bd, a, vs, rfl, fun q => ?_, pl, rs.weak hz⟩
      rcases List.mem_append.mp q with h | h
      · exact ha h
      · exact g.xy a (g.owns _ a ds hx) h
    · rw [lookup_ne q] at e; exact g1.vars y b e
  · by_cases q : y = x
    · subst q; rw [lookup_self] at e; cases e
    · rw [lookup_ne q] at e; exact g1.owns y b es e
end
end Mine
end
section
open PySem PyProof.Rows
set_option maxRecDepth 100000
set_option linter.unusedVariables false
namespace Mine

/-- every free name of the block is one of the frame's cells; the block has no cell of its own -/
def freeOk (env : Env) (scope : Scope) : Bool := scope.names.all fun p => if p.2 == .free then (env.cells.lookup p.1).isSome && (env.kindOf p.1 == some .cell || env.kindOf p.1 == some .free) else p.2 != .cell
def capsOf (env : Env) : List (Str × NameKind) → List (Str × Addr) → List (Str × Addr)
  | [], acc => acc
  | (n, k) :: r, acc => if k == .free then capsOf env r ((n, (env.cells.lookup n).getD 0) :: acc) else capsOf env r acc
theorem closureFor_caps {env : Env} {scope : Scope} (h : freeOk env scope = true) : closureFor scope env = pure (capsOf env scope.names []) := by
  unfold closureFor
  have key : ∀ (l : List (Str × NameKind)) (acc : List (Str × Addr)), (∀ p ∈ l, p.2 = .free → (env.cells.lookup p.1).isSome = true) →
      (forIn l acc (fun x r => match x with | (name, kind) => if (kind == NameKind.free) = true then (cellOf env name >>= fun a => pure (ForInStep.yield ((name, a) :: r))) else pure (ForInStep.yield r)) : Sem (List (Str × Addr))) = pure (capsOf env l acc) := by
    intro l
    induction l with
    | nil => intro acc _; rfl
    | cons p l ih =>
      intro acc hp
      obtain ⟨n, k⟩ := p
      rw [List.forIn_cons, capsOf]
      by_cases hk : (k == NameKind.free) = true
      · have h1 := hp (n, k) List.mem_cons_self (eq_of_beq hk)
        obtain ⟨a, ha⟩ := Option.isSome_iff_exists.mp h1
        have ha' : env.cells.lookup n = some a := ha
        simp only [hk, if_true, cellOf, ha', Option.getD_some]
        exact ih _ fun q hq => hp q (List.mem_cons_of_mem _ hq)
      · simp only [hk, Bool.false_eq_true, if_false]
        exact ih _ fun q hq => hp q (List.mem_cons_of_mem _ hq)
  have := key scope.names [] fun p hp hk => by
    have := List.all_eq_true.mp h p hp
    simp only [hk, beq_self_eq_true, if_true, Bool.and_eq_true] at this
    exact this.1
  show (forIn scope.names [] (fun x r => match x with | (name, kind) => if (kind == NameKind.free) = true then (cellOf env name >>= fun a => pure (ForInStep.yield ((name, a) :: r))) else pure (ForInStep.yield r)) >>= fun cs => (pure cs : Sem (List (Str × Addr)))) = _
  rw [this]; rfl
theorem capsOf_get {env : Env} {y : Str} : ∀ {l : List (Str × NameKind)} {acc : List (Str × Addr)}, (∀ p ∈ l, p.2 = .free → (env.cells.lookup p.1).isSome = true) → ((∃ p ∈ l, p.1 = y ∧ p.2 = .free) ∨ acc.lookup y = env.cells.lookup y) → (capsOf env l acc).lookup y = env.cells.lookup y
  | [], acc, _, h => by
    rcases h with ⟨p, hp, _⟩ | h
    · cases hp
    · exact h
  | (n, k) :: r, acc, hs, h => by
    have hs' : ∀ p ∈ r, p.2 = .free → (env.cells.lookup p.1).isSome = true := fun p hp => hs p (List.mem_cons_of_mem _ hp)
    rw [capsOf]
    by_cases hk : (k == NameKind.free) = true
    · rw [if_pos hk]
      refine capsOf_get hs' ?_
      by_cases hy : y = n
      · right
        subst hy
        rw [List.lookup_cons, beq_self_eq_true]
        obtain ⟨a, ha⟩ := Option.isSome_iff_exists.mp (hs (y, k) List.mem_cons_self (eq_of_beq hk))
        have ha' : env.cells.lookup y = some a := ha
        simp [ha']
      · rcases h with ⟨p, hp, h1, h2⟩ | h
        · rcases List.mem_cons.mp hp with rfl | hp
          · exact absurd h1.symm hy
          · exact .inl ⟨p, hp, h1, h2⟩
        · right; rw [List.lookup_cons, beq_eq_false_iff_ne.mpr hy]; exact h
    · rw [if_neg hk]
      refine capsOf_get hs' ?_
      rcases h with ⟨p, hp, h1, h2⟩ | h
      · rcases List.mem_cons.mp hp with rfl | hp
        · exact absurd (by have h3 : k = NameKind.free := h2; rw [h3]; rfl) hk
        · exact .inl ⟨p, hp, h1, h2⟩
      · exact .inr h
theorem relabel_free {env : Env} : ∀ {names : List (Str × NameKind)} {x : Str}, names.lookup x = some .free →
    (names.map fun (n, k) => if (k == NameKind.free && env.scope.kind == .function && env.kindOf n == some .cell) then (n, NameKind.cell) else (n, k)).lookup x = some .cell ∨
    (names.map fun (n, k) => if (k == NameKind.free && env.scope.kind == .function && env.kindOf n == some .cell) then (n, NameKind.cell) else (n, k)).lookup x = some .free
  | [], _, h => by simp at h
  | (n, k) :: r, x, h => by
    have ih := @relabel_free env r x
    simp only [List.map_cons]
    by_cases hx : x = n
    · subst hx
      rw [List.lookup_cons, beq_self_eq_true] at h
      cases h
      by_cases hc : (NameKind.free == NameKind.free && env.scope.kind == .function && env.kindOf x == some .cell) = true
      · left; rw [if_pos hc, List.lookup_cons, beq_self_eq_true]
      · right; rw [if_neg hc, List.lookup_cons, beq_self_eq_true]
    · have hb := beq_eq_false_iff_ne.mpr hx
      rw [List.lookup_cons, hb] at h
      by_cases hc : (k == NameKind.free && env.scope.kind == .function && env.kindOf n == some .cell) = true
      · rw [if_pos hc, List.lookup_cons, hb]; exact ih h
      · rw [if_neg hc, List.lookup_cons, hb]; exact ih h

theorem capsOf_sub {env : Env} {y : Str} {n : Addr} : ∀ {l : List (Str × NameKind)} {acc : List (Str × Addr)}, (∀ p ∈ l, p.2 = .free → (env.cells.lookup p.1).isSome = true) → (acc.lookup y = some n → env.cells.lookup y = some n) → (capsOf env l acc).lookup y = some n → env.cells.lookup y = some n
  | [], acc, _, h, e => h e
  | (m, k) :: r, acc, hs, h, e => by
    have hs' : ∀ p ∈ r, p.2 = .free → (env.cells.lookup p.1).isSome = true := fun p hp => hs p (List.mem_cons_of_mem _ hp)
    rw [capsOf] at e
    by_cases hk : (k == NameKind.free) = true
    · rw [if_pos hk] at e
      refine capsOf_sub hs' (fun q => ?_) e
      by_cases hy : y = m
      · subst hy
        rw [List.lookup_cons, beq_self_eq_true] at q
        obtain ⟨a, ha⟩ := Option.isSome_iff_exists.mp (hs (y, k) List.mem_cons_self (eq_of_beq hk))
        have ha' : env.cells.lookup y = some a := ha
        simpa [ha'] using q
      · rw [List.lookup_cons, beq_eq_false_iff_ne.mpr hy] at q; exact h q
    · rw [if_neg hk] at e; exact capsOf_sub hs' h e

/-- the names that the block takes from the frame -/
def capOk (scope : Scope) (ρc : List (Str × B)) : Bool := ρc.all fun p => scope.names.lookup p.1 == some .free

theorem comp_bd {env : Env} {scope : Scope} {C : Addr} {h : Heap} {y : Str} {v : Value} (hf : freeOk env scope = true) (hy : scope.names.lookup y = some .free) (b : Bd env h y v) : Bd (compEnvC scope (capsOf env scope.names []) C env) h y v := by
  have hm : (y, NameKind.free) ∈ scope.names := mem_of_lookup hy
  have hk := List.all_eq_true.mp hf _ hm
  simp only [beq_self_eq_true, if_true, Bool.and_eq_true, Bool.or_eq_true, beq_iff_eq] at hk
  have hs : ∀ p ∈ scope.names, p.2 = .free → (env.cells.lookup p.1).isSome = true := fun p hp h2 => by
    have := List.all_eq_true.mp hf p hp
    simp only [h2, beq_self_eq_true, if_true, Bool.and_eq_true] at this
    exact this.1
  rcases b with ⟨k, _⟩ | ⟨k, c, e, q⟩
  · rcases hk.2 with h | h <;> rw [k] at h <;> cases h
  · exact .inr ⟨relabel_free hy, c, (capsOf_get hs (.inl ⟨_, hm, rfl, rfl⟩)).trans e, q⟩

/-- a comprehension's frame -/
structure CF (sB : Shared) (env : Env) (Z : List Addr) (ρ : List (Str × B)) (s : Shared) : Prop where
  base : Ext [] sB s
  top : TopF sB.heap
  fn : env.scope.kind = .function
  gl : env.globals = mainGlobals
  bi : env.builtins = builtinsNs
  alive : Al Z s.heap
  locZ : env.locals ∈ Z
  locN : sB.heap.get? env.locals = none
  ns : ∃ m, s.heap.Ns env.locals m
  celB : ∀ y n, env.cells.lookup y = some n → ∃ o, sB.heap.get? n = some o
  dats : ∀ x b, ρ.lookup x = some b → ∃ d, b = .dat d
  vars : ∀ x b, ρ.lookup x = some b → Holds env Z s.heap x b
section
variable {sB s s' : Shared} {env : Env} {Z : List Addr} {ρ : List (Str × B)}
theorem CF.rg (g : CF sB env Z ρ s) : RG env Z ρ s.heap := ⟨g.top.keeps g.base.keep, g.fn, g.gl, g.bi, g.alive, fun y c e => let ⟨o, q⟩ := g.celB y c e; ⟨o, g.base.keep _ _ q⟩, g.vars⟩
theorem CF.ext (g : CF sB env Z ρ s) (e : Ext [] s s') : CF sB env Z ρ s' :=
  ⟨g.base.trans e, g.top, g.fn, g.gl, g.bi, g.alive.ext e, g.locZ, g.locN, let ⟨m, q⟩ := g.ns; ⟨m, q.keeps e.keep⟩, g.celB, g.dats, fun x b h => (g.vars x b h).keeps e.keep⟩
/-- an object of Z that is not the frame's locals, and new since sB, is changed -/
theorem CF.poke {c : Addr} {h' : Heap} {t : Nat} (g : CF sB env Z ρ s) (hc : c ∈ Z) (hB : sB.heap.get? c = none) (hl : c ≠ env.locals) (hk : ∀ b o, b ≠ c → s.heap.get? b = some o → h'.get? b = some o) (ho : ∃ o, h'.get? c = some o) :
    CF sB env Z ρ { s with heap := h', toks := t } := by
  refine ⟨⟨fun a o _ e => hk a o (fun q => by rw [q, hB] at e; cases e) (g.base.keep a o e), g.base.os, g.base.gens⟩, g.top, g.fn, g.gl, g.bi, fun a ha => ?_, g.locZ, g.locN, ?_, g.celB, g.dats, fun x b e => ?_⟩
  · obtain ⟨o, e⟩ := g.alive a ha
    by_cases q : a = c
    · rw [q]; exact ho
    · exact ⟨o, hk a o q e⟩
  · obtain ⟨m, o, es, ep, q, r⟩ := g.ns
    exact ⟨m, o, es, ep, hk _ _ (Ne.symm hl) q, r⟩
  · obtain ⟨d, rfl⟩ := g.dats x b e
    obtain ⟨v, bd, r⟩ := g.vars x _ e
    exact ⟨v, bd.kp (c := c) hk (Ne.symm hl) fun n en q => (by obtain ⟨o, eo⟩ := g.celB x n en; rw [q, hB] at eo; cases eo), r.kp fun a o n e => hk a o (fun q => n (q ▸ hc)) e⟩
theorem CF.put {M : Model} {A : Around} {E : Value → Shared → Prop} {x : Str} {v : Value} {d : D} {Q : Unit → Shared → Prop} (g : CF sB env Z ρ s) (hx : env.kindOf x = some .local) (r : Rep Z s.heap d v)
    (h : ∀ s', Ext [env.locals] s s' → CF sB env Z ((x, .dat d) :: ρ) s' → Q () s') : wpAny M A (storeName env x v) Q E s := by
  obtain ⟨m, hm⟩ := g.ns
  refine wpAny_storeName_local hx hm (fun h' hn hs => h _ ⟨fun a o n e => (hs.2 a (by simpa using n)).trans e, rfl, rfl⟩ ?_) (by rw [g.fn]; rfl)
  have kp : ∀ a o, a ∉ Z → s.heap.get? a = some o → h'.get? a = some o := fun a o n e => (hs.2 a fun q => n (q ▸ g.locZ)).trans e
  have hm' := hm
  have hn' := hn
  obtain ⟨ol, el, epl, hol, hdl, _⟩ := hm'
  obtain ⟨o2, el2, epl2, hol2, _⟩ := hn'
  refine ⟨⟨fun a o _ e => (hs.2 a fun q => by rw [q, g.locN] at e; cases e).trans (g.base.keep a o e), g.base.os, g.base.gens⟩, g.top, g.fn, g.gl, g.bi, fun a ha => ?_, g.locZ, g.locN, ⟨_, hn⟩, g.celB, fun y b e => ?_, fun y b e => ?_⟩
  · obtain ⟨o, e⟩ := g.alive a ha
    by_cases q : a = env.locals
    · rw [q]; exact ⟨_, hol2⟩
    · exact ⟨o, (hs.2 a q).trans e⟩
  · by_cases q : y = x
    · subst q; rw [lookup_self] at e; cases e; exact ⟨d, rfl⟩
    · rw [lookup_ne q] at e; exact g.dats y b e
  · by_cases q : y = x
    · subst q
      rw [lookup_self] at e; cases e
      exact ⟨v, .inl ⟨hx, _, hn, by simp⟩, r.kp kp⟩
    · rw [lookup_ne q] at e
      have H := g.vars y b e
      have bdk : ∀ v', Bd env s.heap y v' → Bd env h' y v' := fun v' bd => by
        rcases bd with ⟨k, m', hm', q'⟩ | ⟨k, n, en, ⟨o, ho, r⟩⟩
        · exact .inl ⟨k, _, hn, by simp only [if_neg q]; rw [PySem.Heap.Ns.agree hm hm']; exact q'⟩
        · refine .inr ⟨k, n, en, ⟨o, (hs.2 n fun z => ?_).trans ho, r⟩⟩
          rw [z, hol] at ho; cases ho; rw [hdl] at r; cases r
      cases b with
      | dat d => obtain ⟨v, p, q⟩ := H; exact ⟨v, bdk v p, q.kp kp⟩
      | own a ds =>
        obtain ⟨p, vs, q, r⟩ := H
        refine ⟨bdk _ p, vs, q.at fun o e => (hs.2 a fun z => ?_).trans e, r.kp kp⟩
        obtain ⟨n, q⟩ := q
        rw [z, hol] at q; cases q; cases hdl
end

/-- how a comprehension's target takes a datum -/
def CTgt (env : Env) (t : Expr) (d : D) (f : List (Str × B) → List (Str × B)) : Prop := ∀ {prog : Program} {w : World} {A : Around} {E : Value → Shared → Prop} {sB s : Shared} {Z : List Addr} {ρ : List (Str × B)} {v : Value} {Q : Unit → Shared → Prop}, A.handled = none →
  CF sB env Z ρ s → Rep Z s.heap d v → (∀ s', Ext [env.locals] s s' → CF sB env Z (f ρ) s' → Q () s') → wpAny (model prog w) A (assign t env v) Q E s
theorem CTgt.name {env : Env} {x : Str} {p : Pos} {d : D} (hx : env.kindOf x = some .local) : CTgt env (.Name x p) d (fun ρ => (x, .dat d) :: ρ) := fun _ g r h => wpAny_assign_Name (g.put hx r h)
theorem CTgt.tuple3 {env : Env} {x y z : Str} {p q r pos : Pos} {c : Nat} {d e f : D} (hx : env.kindOf x = some .local) (hy : env.kindOf y = some .local) (hz : env.kindOf z = some .local) :
    CTgt env (.Tuple [.Name x p, .Name y q, .Name z r] c pos) (.tup [d, e, f]) (fun ρ => (z, .dat f) :: (y, .dat e) :: (x, .dat d) :: ρ) := fun {prog w A E sB s Z ρ v Q} hh g rv h => by
  obtain ⟨a, vs, rfl, hn, ht, ⟨v1, r1, rfl, rv1, v2, r2, rfl, rv2, v3, r3, rfl, rv3, hr⟩⟩ := rv
  cases hr
  refine wpAny_assign_Tuple hh ht.isTuple rfl rfl fun h' he => ?_
  have e1 : Ext [] s { s with heap := h' } := Ext.heap' fun b o _ e => he b o (Nat.ne_of_lt (Heap.lt_size e)) e
  have g1 := g.ext e1
  have kp : ∀ {s s' : Shared}, Ext [env.locals] s s' → ∀ a o, a ∉ Z → s.heap.get? a = some o → s'.heap.get? a = some o := fun x a o n e => x.kp a o (fun q => n (List.mem_singleton.mp q ▸ g.locZ)) e
  refine wpAny_assignInOrder_more (wpAny_assign_Name (g1.put hx (rv1.ext e1) fun s2 e2 g2 => ?_))
  refine wpAny_assignInOrder_more (wpAny_assign_Name (g2.put hy ((rv2.ext e1).kp (kp e2)) fun s3 e3 g3 => ?_))
  refine wpAny_assignInOrder_more (wpAny_assign_Name (g3.put hz (((rv3.ext e1).kp (kp e2)).kp (kp e3)) fun s4 e4 g4 => ?_))
  exact wpAny_assignInOrder_none (h s4 ((Ext.wk e1).trans (e2.trans (e3.trans e4))) g4)


section
variable {prog : Program} {w : World} {A : Around} {R : Result → Shared → Prop} {s : Shared}
theorem compLoop_any {elt target iter : Expr} {ifs : List Expr} {scope : Scope} {pos : Pos} {it acc : Value} {env : Env} (I : Nat → Shared → Prop)
    (turn : ∀ n s, I n s → wpAny (model prog w) A (pyNext it) (fun r s₁ => match r with
      | none => R (.ok .next) s₁
      | some v => wpAny (model prog w) A (letOwnedTupleGo target it v) (fun _ s₁' => wpAny (model prog w) A (assign target env v) (fun _ s₂ =>
          wpAny (model prog w) A (forIn ifs true fun c r => if r = true then do let ok ← isTrue c env (eval c env); pure (ForInStep.yield ok) else pure (ForInStep.yield r)) (fun ok s₃ =>
            if ok = true then wpAny (model prog w) A (eval elt env) (fun x s₄ =>
              wpAny (model prog w) A (call (.builtin "list.append") [acc, x]) (fun _ s₅ => ∃ m, m < n ∧ I m s₅) No s₄) No s₃
            else ∃ m, m < n ∧ I m s₃) No s₂) No s₁') No s₁) No s)
    (n : Nat) (h : I n s) :
    codeAny (model prog w) A (.compLoop (.ListComp elt [⟨target, iter, ifs, 0⟩] scope pos) 0 it acc env) R s := by
  refine codeAny_loop rfl I (fun n s hI => ?_) n h
  show wpAny _ A ((compTurn (.ListComp elt [⟨target, iter, ifs, 0⟩] scope pos) 0 it acc env).onRaise (fun x => do noteFrame x env; theTreesLotGoes x)) _ _ s
  refine wpAny_noted ?_
  rw [PySem.compTurn_list]
  refine wpAny_bind (wpAny_standAt (wpAny_bind (wp_no (turn n s hI) fun r s₁ h₁ => ?_)))
  cases r with
  | none => exact wpAny_pure h₁
  | some v =>
    refine wpAny_bind (wp_no h₁ fun _ s₁' h₁' => wpAny_bind (wp_no h₁' fun _ s₂ h₂ => wpAny_bind (wp_no h₂ fun ok s₃ h₃ => ?_)))
    cases ok with
    | false => exact wpAny_pure ⟨rfl, h₃⟩
    | true => exact wpAny_bind (wpAny_bind (wp_no h₃ fun x s₄ h₄ => wpAny_bind (wp_no h₄ fun _ s₅ h₅ => wpAny_pure (wpAny_pure ⟨rfl, h₅⟩))))
end

/-- what a comprehension's tests say -/
def Tests (prog : Program) (w : World) (k : Nat) (env : Env) (ρ : List (Str × B)) : List Expr → Bool → Prop
  | [], b => b = true
  | [c], b => Tb prog w k env ρ c b
  | _, _ => False

section
variable {prog : Program} {w : World} {k : Nat} {A : Around} {env : Env} {Z : List Addr} {s₁ : Shared} {ρ ρc : List (Str × B)}
theorem Tests.wp {cenv : Env} {ρ : List (Str × B)} {ifs : List Expr} {b : Bool} {s : Shared} (t : Tests prog w k cenv ρ ifs b) (R : Rm k A) (g : RG cenv Z ρ s.heap) {Q : Bool → Shared → Prop} (h : ∀ s', Ext [] s s' → Q b s') :
    wpAny (model prog w) A (forIn ifs true fun c r => if r = true then do let ok ← isTrue c cenv (eval c cenv); pure (ForInStep.yield ok) else pure (ForInStep.yield r)) Q No s := by
  match ifs, t with
  | [], t => cases t; exact wpAny_tests_nil (h s .refl)
  | [c], t => exact wpAny_tests_one (wp_no (t A Z s R g) fun r s' ⟨x, e⟩ => by subst e; exact h s' x)

/-- the block of a comprehension, from its iterable on -/
theorem comp_core {elt t iter : Expr} {ifs : List Expr} {scope : Scope} {pos : Pos} {d : D} {ds : List D} {v : Value} (F : D → Option D) (f : D → List (Str × B) → List (Str × B)) {RR : Value → Addr → Result → Shared → Prop}
    (R : Rm k A) (g : RG env Z ρ s₁.heap) (r : Rep Z s₁.heap d v) (hd : itemsOf d = some ds) (hsz : ds.length ≤ 10000) (hf : freeOk env scope = true) (hs : Sub ρ ρc) (hc : capOk scope ρc = true) (hdat : ∀ x b, ρc.lookup x = some b → ∃ d, b = .dat d)
    (hkind : scope.kind = .function) (ht : ∀ C (i : Nat) di, ds[i]? = some di → CTgt (compEnvC scope (capsOf env scope.names []) C env) t di (f di)) (hlet : (∃ x p, t = .Name x p) ∨ (∃ xs c p, t = .Tuple xs c p))
    (tests : ∀ C (i : Nat) di, ds[i]? = some di → Tests prog w k (compEnvC scope (capsOf env scope.names []) C env) (f di ρc) ifs (F di).isSome)
    (he : ∀ C (i : Nat) di y, ds[i]? = some di → F di = some y → Ev prog w k (compEnvC scope (capsOf env scope.names []) C env) (f di ρc) elt y)
    (hRR : ∀ D C s' (ys : List Value), s₁.heap.get? D = none → s₁.heap.get? C = none → D ≠ C → (∃ m, s'.heap.Ns C m) → s'.heap.PlainList D (List.toArray ys) → Ext [] s₁ s' → Reps (D :: C :: Z) s'.heap (ds.filterMap F) ys → RR (.ref D) C (.ok .next) s') :
    wpAny (model prog w) A (pyIter v) (fun it s₂ => wpAny (model prog w) A (newList []) (fun acc s₃ => wpAny (model prog w) A (newFunctionEnv scope env.globals (capsOf env scope.names []) [] env.qual none .none (some env)) (fun cenv s₄ =>
      codeAny (model prog w) A (.compStart (.ListComp elt [⟨t, iter, ifs, 0⟩] scope pos) 0 it acc { cenv with scope := relabel scope env }) (RR acc cenv.locals) s₄) No s₃) No s₂) No s₁ := by
  refine wp_no (iter_ok R.handled g.alive r hd) fun it s₂ ⟨x₂, I, St, hit, hn, st0, W⟩ => ?_
  subst hit
  have hcell : ∀ y ∈ scope.names, y.2 ≠ .cell := fun y hy q => by
    have := List.all_eq_true.mp hf y hy
    rw [q] at this; simp at this
  refine wpAny_newList (wpAny_newFunctionEnv hcell (by intro y hy; simp at hy) (fun h₁ hns₁ hsb₁ => ?_) hkind) (by simp)
  dsimp only at hns₁ hsb₁ ⊢
  generalize hH2 : s₂.heap.push { cls := .type "list", data := .seq ([] : List Value).toArray } = H2 at hns₁ hsb₁ ⊢
  generalize hDD : s₂.heap.objs.size = D₀ at *
  have hC : H2.objs.size = D₀ + 1 := by rw [← hH2, Heap.size_push, hDD]
  generalize hCC : H2.objs.size = C₀ at *
  have hDC : D₀ ≠ C₀ := by omega
  have fr2 : ∀ a, D₀ ≤ a → s₂.heap.get? a = none := fun a ha => PySem.Heap.get?_none_of_le (by omega)
  have fr1 : ∀ a, D₀ ≤ a → s₁.heap.get? a = none := fun a ha => by
    cases q : s₁.heap.get? a with
    | none => rfl
    | some o => have := x₂.keep _ _ q; rw [fr2 a ha] at this; cases this
  have hD1 := fr1 D₀ (Nat.le_refl _)
  have hC1 := fr1 C₀ (by omega)
  obtain ⟨oI, hoI⟩ := W.at_ _ _ st0
  have hID : I ≠ D₀ := fun q => by rw [q, fr2 D₀ (Nat.le_refl _)] at hoI; cases hoI
  have hIC : I ≠ C₀ := fun q => by rw [q, fr2 C₀ (by omega)] at hoI; cases hoI
  have old : ∀ b o, s₂.heap.get? b = some o → h₁.get? b = some o := fun b o e => by
    have hb : b ≠ C₀ := fun q => by rw [q, fr2 C₀ (by omega)] at e; cases e
    exact hsb₁.extBut b o hb (Heap.get?_push_of_some _ (hH2 ▸ Heap.get?_push_of_some _ e))
  have hacc : h₁.PlainList D₀ (List.toArray []) := ⟨_, hsb₁.extBut _ _ hDC (Heap.get?_push_of_some _ (hH2 ▸ (hDD ▸ Heap.get?_push_size _ rfl)))⟩
  have hfree : ∀ p ∈ scope.names, p.2 = .free → (env.cells.lookup p.1).isSome = true := fun p hp h2 => by
    have := List.all_eq_true.mp hf p hp
    simp only [h2, beq_self_eq_true, if_true, Bool.and_eq_true] at this
    exact this.1
  have hcn := g.fn
  have e14 : Ext [] s₁ { s₂ with heap := h₁, toks := s₂.toks + ([] : List (Str × Value)).length } := x₂.trans (Ext.heap fun a o _ e => old a o e)
  let cenv := compEnvC scope (capsOf env scope.names []) C₀ env
  have hW : ∀ a ∈ [D₀, C₀, I], s₁.heap.get? a = none := fun a ha => by
    simp at ha; rcases ha with rfl | rfl | rfl
    · exact hD1
    · exact hC1
    · exact hn
  have cf : CF s₁ cenv ([D₀, C₀, I] ++ Z) ρc { s₂ with heap := h₁, toks := s₂.toks + ([] : List (Str × Value)).length } := by
    refine ⟨e14, g.top, hkind, g.gl, g.bi, fun a ha => ?_, by simp [cenv, compEnvC], hC1, ⟨_, hns₁⟩, fun y n e => g.cels y n (capsOf_sub hfree (by simp) e), hdat, fun y b e => ?_⟩
    · rcases List.mem_append.mp ha with ha | ha
      · simp at ha; rcases ha with rfl | rfl | rfl
        · exact ⟨_, hacc.choose_spec⟩
        · obtain ⟨o, _, _, q, _⟩ := hns₁; exact ⟨o, q⟩
        · exact ⟨_, old _ _ hoI⟩
      · obtain ⟨o, q⟩ := g.alive a ha; exact ⟨o, e14.keep _ _ q⟩
    · obtain ⟨d', rfl⟩ := hdat y b e
      obtain ⟨v', bd, rv⟩ := g.vars y _ (hs.get e)
      have hy : scope.names.lookup y = some .free := by
        have := List.all_eq_true.mp hc _ (mem_of_lookup e)
        simpa using this
      exact ⟨v', comp_bd hf hy (bd.keeps e14.keep), rv.more e14.keep hW⟩
  have loop : ∀ sX : Shared, sX = { s₂ with heap := h₁, toks := s₂.toks + ([] : List (Str × Value)).length } →
      codeAny (model prog w) A (.compLoop (.ListComp elt [⟨t, iter, ifs, 0⟩] scope pos) 0 (.ref I) (.ref D₀) cenv) (RR (.ref D₀) C₀) sX := by
    rintro sX rfl
    refine compLoop_any (fun m s' => ∃ i ys, m = ds.length + 1 - i ∧ i ≤ ds.length ∧ CF s₁ cenv ([D₀, C₀, I] ++ Z) ρc s' ∧ St i s'.heap ∧ s'.heap.PlainList D₀ (List.toArray ys) ∧ Reps ([D₀, C₀, I] ++ Z) s'.heap ((ds.take i).filterMap F) ys) ?_ (ds.length + 1)
      ⟨0, [], rfl, Nat.zero_le _, cf, W.frame _ _ _ st0 (fun o e => old _ o e) (fun a o n e => old a o (W.kept _ _ st0 a o n e)), hacc, by simp [Reps]⟩
    rintro m s' ⟨i, ys, rfl, hi, cf', st, pl, rs⟩
    by_cases hlt : i < ds.length
    · have hdi : ds[i]? = some ds[i] := List.getElem?_eq_getElem hlt
      refine W.item i _ s' _ _ hdi st fun v h' tk rv st' hk => ?_
      have cf2 : CF s₁ cenv ([D₀, C₀, I] ++ Z) ρc { s' with heap := h', toks := tk } := cf'.poke (c := I) (by simp) hn hIC hk (W.at_ _ _ st')
      have rv' : Rep ([D₀, C₀, I] ++ Z) h' ds[i] v := Rep.gen (W.kept _ _ st') (fun a o p q e => by
        rcases List.mem_append.mp p with p | p
        · rw [hW a p] at e; cases e
        · exact q p) rv
      have kz : ∀ {a b : Shared}, Ext [cenv.locals] a b → ∀ c o, c ∉ [D₀, C₀, I] ++ Z → a.heap.get? c = some o → b.heap.get? c = some o := fun x c o n e => x.kp c o (fun q => n (by rw [List.mem_singleton.mp q]; simp [cenv, compEnvC])) e
      have pl2 : h'.PlainList D₀ (List.toArray ys) := pl.at fun o e => hk _ o (Ne.symm hID) e
      have rs2 : Reps ([D₀, C₀, I] ++ Z) h' ((ds.take i).filterMap F) ys := rs.kp fun a o n e => hk a o (fun q => n (by simp [q])) e
      have tk1 : ds.take (i + 1) = ds.take i ++ [ds[i]] := by rw [List.take_add_one, hdi]; rfl
      have go : wpAny (model prog w) A (PySem.assign t cenv v) (fun _ s₂ =>
          wpAny (model prog w) A (forIn ifs true fun c r => if r = true then do let ok ← isTrue c cenv (eval c cenv); pure (ForInStep.yield ok) else pure (ForInStep.yield r)) (fun ok s₃ =>
            if ok = true then wpAny (model prog w) A (eval elt cenv) (fun x s₄ =>
              wpAny (model prog w) A (call (.builtin "list.append") [.ref D₀, x]) (fun _ s₅ => ∃ m, m < ds.length + 1 - i ∧ ∃ i ys, m = ds.length + 1 - i ∧ i ≤ ds.length ∧ CF s₁ cenv ([D₀, C₀, I] ++ Z) ρc s₅ ∧ St i s₅.heap ∧ s₅.heap.PlainList D₀ (List.toArray ys) ∧ Reps ([D₀, C₀, I] ++ Z) s₅.heap ((ds.take i).filterMap F) ys) No s₄) No s₃
            else ∃ m, m < ds.length + 1 - i ∧ ∃ i ys, m = ds.length + 1 - i ∧ i ≤ ds.length ∧ CF s₁ cenv ([D₀, C₀, I] ++ Z) ρc s₃ ∧ St i s₃.heap ∧ s₃.heap.PlainList D₀ (List.toArray ys) ∧ Reps ([D₀, C₀, I] ++ Z) s₃.heap ((ds.take i).filterMap F) ys) No s₂) No { s' with heap := h', toks := tk } := by
        refine ht C₀ i ds[i] hdi R.handled cf2 rv' fun s₃ e₃ cf3 => ?_
        have pl3 : s₃.heap.PlainList D₀ (List.toArray ys) := pl2.at fun o e => e₃.kp _ o (by simp [compEnvC, hDC]) e
        have rs3 := rs2.kp (kz e₃)
        have nC : ∀ a o, s₁.heap.get? a = some o → a ∉ [cenv.locals] := fun a o e q => by
          have q' : a = C₀ := List.mem_singleton.mp q
          rw [q', hC1] at e; cases e
        have st3 : St (i + 1) s₃.heap := W.frame _ _ _ st' (fun o e => e₃.kp I o (fun q => hIC (List.mem_singleton.mp q)) e) fun a o n e => e₃.kp a o (nC a o e) (W.kept _ _ st' a o n e)
        have cf3' : CF s₁ cenv ([D₀, C₀, I] ++ Z) ρc s₃ := ⟨cf3.base, cf3.top, cf3.fn, cf3.gl, cf3.bi, cf3.alive, cf3.locZ, cf3.locN, cf3.ns, cf3.celB, hdat, fun y b e => by
          obtain ⟨d', rfl⟩ := hdat y b e
          obtain ⟨v', bd, rv⟩ := cf2.vars y _ e
          have hy : scope.names.lookup y = some .free := by
            have := List.all_eq_true.mp hc _ (mem_of_lookup e)
            simpa using this
          refine ⟨v', ?_, rv.kp (kz e₃)⟩
          rcases bd with ⟨k1, _⟩ | ⟨k1, n, en, ⟨o, ho, r1⟩⟩
          · have k2 : cenv.kindOf y = some .cell ∨ cenv.kindOf y = some .free := relabel_free hy
            rcases k2 with h | h <;> rw [k1] at h <;> cases h
          · refine .inr ⟨k1, n, en, ⟨o, e₃.kp n o (fun q => ?_) ho, r1⟩⟩
            obtain ⟨o', eo⟩ := cf2.celB y n en
            rw [show n = C₀ from List.mem_singleton.mp q, hC1] at eo; cases eo⟩
        refine (tests C₀ i ds[i] hdi).wp R cf3.rg fun s₄ e₄ => ?_
        have pl4 := pl3.at fun o e => e₄.keep _ o e
        have rs4 := rs3.ext e₄
        have st4 : St (i + 1) s₄.heap := W.frame _ _ _ st3 (fun o e => e₄.keep _ o e) fun a o n e => e₄.keep a o (W.kept _ _ st3 a o n e)
        cases hF : F ds[i] with
        | none =>
          simp only [Option.isSome_none, Bool.false_eq_true, if_false]
          exact ⟨ds.length + 1 - (i + 1), by omega, i + 1, ys, rfl, hlt, cf3'.ext e₄, st4, pl4, by rw [tk1, List.filterMap_append]; simpa [hF] using rs4⟩
        | some y =>
          simp only [Option.isSome_some, if_true]
          refine wp_no (he C₀ i ds[i] y hdi hF A _ s₄ R (cf3.ext e₄).rg) fun x s₅ ⟨e₅, rx⟩ => ?_
          have pl5 := pl4.at fun o e => e₅.keep _ o e
          have rs5 := rs4.ext e₅
          have st5 : St (i + 1) s₅.heap := W.frame _ _ _ st4 (fun o e => e₅.keep _ o e) fun a o n e => e₅.keep a o (W.kept _ _ st4 a o n e)
          have hys : ys.length ≤ 10000 := by
            rw [rs.length]
            have := List.length_filterMap_le F (ds.take i)
            have h3 : (ds.take i).length ≤ ds.length := by rw [List.length_take]; omega
            omega
          refine wpAny_list_append_plain pl5 (fun h₆ pl6 hs6 => ?_) (by simp; unfold sizeLine; omega)
          have kp6 : ∀ a o, a ∉ [D₀, C₀, I] ++ Z → s₅.heap.get? a = some o → h₆.get? a = some o := fun a o n e => (hs6.2 a fun q => n (by simp [q])).trans e
          refine ⟨ds.length + 1 - (i + 1), by omega, i + 1, ys ++ [x], rfl, hlt, ((cf3'.ext e₄).ext e₅).poke (t := s₅.toks) (c := D₀) (by simp) hD1 hDC (fun b o n e => (hs6.2 b n).trans e) ⟨_, pl6.choose_spec⟩, ?_, by simpa using pl6, ?_⟩
          · exact W.frame _ _ _ st5 (fun o e => (hs6.2 _ hID).trans e) fun a o n e => (hs6.2 a fun q => by rw [q, hD1] at e; cases e).trans (W.kept _ _ st5 a o n e)
          · rw [tk1, List.filterMap_append]
            have : List.filterMap F [ds[i]] = [y] := by simp [hF]
            rw [this]
            exact Reps.append (rs5.kp kp6) (Reps.cons (rx.kp kp6) Reps.nil)
      rcases hlet with ⟨x, p, rfl⟩ | ⟨xs, c, p, rfl⟩
      · exact wpAny_pure go
      · exact W.tup (i + 1) _ v xs c p _ _ st' go
    · have e : i = ds.length := by omega
      subst e
      refine W.done s' _ _ st fun h' tk hk => ?_
      rw [List.take_length] at rs
      have kp : ∀ a o, a ∉ [D₀, C₀, I] ++ Z → s'.heap.get? a = some o → h'.get? a = some o := fun a o n e => hk a o (fun q => n (by simp [q])) e
      refine hRR D₀ C₀ _ ys hD1 hC1 hDC ?_ (pl.at fun o e => hk _ o (Ne.symm hID) e) ⟨fun a o _ e => hk a o (fun q => by rw [q, hn] at e; cases e) (cf'.base.keep a o e), cf'.base.os, cf'.base.gens⟩ ((rs.kp kp).weak fun a ha => by simp at ha ⊢; rcases ha with h | h | h <;> simp [h])
      obtain ⟨m, o, es, ep, q, r⟩ := cf'.ns
      exact ⟨m, o, es, ep, hk _ _ (Ne.symm hIC) q, r⟩
  exact codeAny_compStart_list (loop _ rfl) (W.self 0 _ _ _ (W.frame _ _ _ st0 (fun o e => old _ o e) fun a o n e => old a o (W.kept _ _ st0 a o n e)) (loop _ rfl))

/-- a list comprehension: the new list is at an address that did not stand -/
def EvN (prog : Program) (w : World) (k : Nat) (env : Env) (ρ : List (Str × B)) (e : Expr) (ds : List D) : Prop :=
  ∀ (A : Around) (Z : List Addr) (s : Shared), Rm k A → RG env Z ρ s.heap → wpAny (model prog w) A (eval e env) (fun v s' => Ext [] s s' ∧ ∃ a vs, v = .ref a ∧ s.heap.get? a = none ∧ s'.heap.PlainList a (List.toArray vs) ∧ Reps (a :: Z) s'.heap ds vs) No s
theorem EvN.ev {e : Expr} {ds : List D} (h : EvN prog w k env ρ e ds) : Ev prog w k env ρ e (.list ds) := fun A Z s R g =>
  wp_no (h A Z s R g) fun v s' ⟨x, a, vs, e, n, pl, r⟩ => ⟨x, a, vs, e, g.new n, pl, r.weak fun b hb => List.mem_cons_of_mem _ hb⟩

/-- what a comprehension must show -/
structure CompOk (prog : Program) (w : World) (k : Nat) (env : Env) (ρ : List (Str × B)) (elt t iter : Expr) (ifs : List Expr) (scope : Scope) (outs : List D) : Prop where
  kind : scope.kind = .function
  free : freeOk env scope = true
  names : ∀ x ∈ scope.names, x.2 = .local → scope.names.lookup x.1 = some .local
  fold : ∀ x, foldedSetIterable iter env x = pure x
  body : ∃ (d : D) (ds : List D) (F : D → Option D) (f : D → List (Str × B) → List (Str × B)) (ρc : List (Str × B)), Ev prog w k env ρ iter d ∧ itemsOf d = some ds ∧ ds.length ≤ 10000 ∧ ds.filterMap F = outs ∧ Sub ρ ρc ∧ capOk scope ρc = true ∧ (∀ x b, ρc.lookup x = some b → ∃ d, b = .dat d) ∧
    (∀ C (i : Nat) di, ds[i]? = some di → CTgt (compEnvC scope (capsOf env scope.names []) C env) t di (f di)) ∧ ((∃ x p, t = .Name x p) ∨ (∃ xs c p, t = .Tuple xs c p)) ∧
    (∀ C (i : Nat) di, ds[i]? = some di → Tests prog w k (compEnvC scope (capsOf env scope.names []) C env) (f di ρc) ifs (F di).isSome) ∧
    (∀ C (i : Nat) di y, ds[i]? = some di → F di = some y → Ev prog w k (compEnvC scope (capsOf env scope.names []) C env) (f di ρc) elt y)

theorem CompOk.evn {elt t iter : Expr} {ifs : List Expr} {scope : Scope} {pos : Pos} {outs : List D} (h : CompOk prog w k env ρ elt t iter ifs scope outs) : EvN prog w k env ρ (.ListComp elt [⟨t, iter, ifs, 0⟩] scope pos) outs := fun A Z s R g => by
  obtain ⟨d, ds, F, f, ρc, hi, hd, hsz, ho, hs, hc, hdat, ht, hlet, tests, he⟩ := h.body
  rw [eval_ListComp]
  refine wpAny_comprehension_free (use := none) rfl h.fold (closureFor_caps h.free) h.kind h.names (wp_no (hi A Z s R g) fun v s₁ ⟨x₁, r₁⟩ => ?_)
  refine comp_core (RR := fun acc C => compPost (model prog w) A No none _ acc C) F f R (g.ext x₁) r₁ hd hsz h.free hs hc hdat h.kind ht hlet tests he fun D₀ C₀ s' ys hD hC hDC hm pl x₂ rs => ?_
  obtain ⟨m, hm⟩ := hm
  refine ⟨m, hm, fun h'' hs'' => ⟨x₁.trans ⟨fun a o _ e => ?_, x₂.os, x₂.gens⟩, D₀, ys, rfl, ?_, pl.at fun o e => (hs''.2 _ hDC).trans e, ?_⟩⟩
  · exact (hs''.2 a fun q => by rw [q, hC] at e; cases e).trans (x₂.keep a o e)
  · cases q : s.heap.get? D₀ with
    | none => rfl
    | some o => have := x₁.keep _ _ q; rw [hD] at this; cases this
  · subst ho
    exact (rs.weak (Z' := D₀ :: C₀ :: Z) fun a ha => ha).kp (fun a o n e => (hs''.2 a fun q => n (by simp [q])).trans e) |>.weak fun a ha => by simp at ha ⊢; rcases ha with h | h <;> simp [h]

/-- x = [.. for ..] where x is a local name: the store comes ahead of the comprehension's own names' going -/
theorem Run.assignComp {s₀ sb : Shared} {Y X : List Addr} {rest : List Stmt} {Q : Flow → Shared → Prop} {x : Str} {p pos spos : Pos} {elt t iter : Expr} {ifs : List Expr} {scope : Scope} {outs : List D} (R : Rm k A) (h : CompOk prog w k env ρ elt t iter ifs scope outs) (hx : Sto env x)
    (hr : Run prog w A s₀ sb Y env X ((x, .dat (.list outs)) :: ρ) rest Q) (hsw : swapsWith (.ListComp elt [⟨t, iter, ifs, 0⟩] scope pos) (some (.Name x p)) spos.line env = pure true := by rfl) :
    Run prog w A s₀ sb Y env X ρ (.Assign [.Name x p] (.ListComp elt [⟨t, iter, ifs, 0⟩] scope pos) spos :: rest) Q := Run.stmt fun s g => by
  obtain ⟨d, ds, F, f, ρc, hi, hd, hsz, ho, hs, hc, hdat, ht, hlet, tests, he⟩ := h.body
  rw [exec_Assign_Name_used _ _ _ _ hsw]
  refine wpAny_bind (wpAny_standAt (wpAny_bind ?_))
  show wpAny _ A (do let _ ← comprehension (.ListComp elt [⟨t, iter, ifs, 0⟩] scope pos) scope env _ (PySem.newList []) false (eval iter env) (some (PySem.assign (.Name x p) env))) _ _ s
  refine wpAny_bind (wpAny_mono (wpAny_comprehension_free (use := some (PySem.assign (.Name x p) env)) (Q := fun _ s' => Then prog w A env rest Q .next s') (E := No) rfl h.fold (closureFor_caps h.free) h.kind h.names
    (wp_no (hi A _ s R g.rg) fun v s₁ ⟨x₁, r₁⟩ => ?_)) (fun _ s' hq => wpAny_pure (wpAny_pure hq)) fun _ _ e => e)
  have g1 := g.ext x₁
  refine comp_core (RR := fun acc C => compPost (model prog w) A No (some (PySem.assign (.Name x p) env)) (fun _ s' => Then prog w A env rest Q .next s') acc C) F f R g1.rg r₁ hd hsz h.free hs hc hdat h.kind ht hlet tests he fun D₀ C₀ s' ys hD hC hDC hm pl x₂ rs => ?_
  obtain ⟨m, hm⟩ := hm
  have hoC : ∃ o, s'.heap.get? C₀ = some o := let ⟨o, _, _, q, _⟩ := hm; ⟨o, q⟩
  have hX : C₀ ∉ X := fun q => by obtain ⟨o, e⟩ := (g1.xal C₀ q).2; rw [hC] at e; cases e
  have hY : C₀ ∉ Y := fun q => by obtain ⟨o, e⟩ := g1.yal C₀ q; rw [hC] at e; cases e
  have h0 : s₀.heap.get? C₀ = none := by
    cases q : s₀.heap.get? C₀ with
    | none => rfl
    | some o => have := g1.base.keep _ _ q; rw [hC] at this; cases this
  have hb : sb.heap.get? C₀ = none := by
    cases q : sb.heap.get? C₀ with
    | none => rfl
    | some o => have := g1.rel.kp _ _ hX q; rw [hC] at this; cases this
  have g2 : G s₀ sb (C₀ :: Y) env X ρ s' := g1.more x₂ hC hoC
  have rD : Rep (X ++ (C₀ :: Y)) s'.heap (.list outs) (.ref D₀) := by
    subst ho
    refine ⟨D₀, ys, rfl, fun q => ?_, pl, rs.weak fun a ha => ?_⟩
    · rcases List.mem_append.mp q with q | q
      · obtain ⟨o, e⟩ := (g1.xal _ q).2; rw [hD] at e; cases e
      · rcases List.mem_cons.mp q with q | q
        · exact hDC q
        · obtain ⟨o, e⟩ := g1.yal _ q; rw [hD] at e; cases e
    · simp at ha ⊢; rcases ha with h | h | h <;> simp [h]
  show wpAny _ A (PySem.assign (.Name x p) env (.ref D₀)) _ _ s'
  refine wpAny_assign_Name (g2.put hx rD fun s'' e'' g'' => ?_)
  refine ⟨m, ?_, fun h₃ hs₃ => hr _ (g''.iterOut (t := s''.toks) hX hY h0 hb fun b o n e => (hs₃.2 b n).trans e)⟩
  obtain ⟨o, es, ep, q, r⟩ := hm
  exact ⟨o, es, ep, e''.kp _ _ hX q, r⟩
end
end Mine
end
section
open PySem PyProof.Rows
set_option maxRecDepth 100000
set_option linter.unusedVariables false
namespace Mine

def tyN (o : Bool) : String := if o then "bytes" else "str"
section
variable {Z : List Addr} {s : Shared} {o : Bool} {cs : List Nat} {v : Value}
theorem Rep.txt_type (r : Rep Z s.heap (.txt o cs) v) : s.TypeIs v (tyN o) := by
  cases o
  · obtain ⟨t, rfl⟩ := r; exact typeIs_str s _ t
  · obtain ⟨b, t, rfl, _⟩ := r; exact rfl
theorem Rep.txt_ref (r : Rep Z s.heap (.txt o cs) v) : ∀ a, v ≠ .ref a := by
  cases o
  · obtain ⟨t, rfl⟩ := r; intro a e; cases e
  · obtain ⟨b, t, rfl, _⟩ := r; intro a e; cases e
end

theorem glbT {h : Heap} (x : String) (v : Value) (hm : (x, v) ∈ theBuiltins) (t : TopF h) : Glb h (Str.ofString x) v := t.glb (x, v) hm
theorem bt_sub {T U : String} {b : Bool} (h : isSubtype (.type T) (.type U) = pure b) : isSubtype (.type T) (.type U) = pure b := h

section
variable {prog : Program} {w : World} {k : Nat}
theorem cl_isinstance {o : Bool} {cs : List Nat} : Cl prog w k (Str.ofString "isinstance") [.txt o cs, .ty "bytes"] (.bool o) := by
  intro A Z s f vs R top al g r
  have ef := Glb.uniq g (glbT "isinstance" (.builtin "isinstance") (by decide) top)
  subst ef
  obtain ⟨v, r1, rfl, rv, ⟨u, r2, rfl, ru, rr⟩⟩ := r
  cases rr; cases ru
  cases o
  · obtain ⟨t, rfl⟩ := rv
    exact call_isinstance (isinstance_false_str (by decide) PySem.F.isi_meta_bytes PySem.F.sub_str_bytes) ⟨.toks, rfl⟩
  · obtain ⟨b, t, rfl, _⟩ := rv
    exact call_isinstance (isinstance_true (Tx := "bytes") PySem.F.isi_meta_bytes PySem.F.bm_sub) ⟨rfl, .refl, rfl⟩
theorem cl_type {o : Bool} {cs : List Nat} : Cl prog w k (Str.ofString "type") [.txt o cs] (.ty (tyN o)) := by
  intro A Z s f vs R top al g r
  have ef := Glb.uniq g (glbT "type" (.type "type") (by decide) top)
  subst ef
  obtain ⟨v, r1, rfl, rv, rr⟩ := r
  cases rr
  exact call_type_of rv.txt_type (by cases o <;> decide) ⟨.refl, rfl⟩

theorem isub_nested {A : Around} {E : Value → Shared → Prop} {s : Shared} {T U : String} {b : Bool} {dep : Int} {tk : Tok} {Q : PySem.Fin → Shared → Prop} (hT : typeOf (.type T) = pure (.type "type")) (hU : typeOf (.type U) = pure (.type "type"))
    (h : isSubtype (.type T) (.type U) = pure b) (hq : Q (.done (.ret (.bool b))) s) : wpAny (model prog w) A (Builtin.«issubclass.nested» ⟨[.type T, .type U, .int dep tk], []⟩) Q E s := by
  repeat (any_goals (first | assumption | (rw [h]) | wp_step))
theorem kind_isubn : builtinKind "issubclass.nested" = none := by decide +kernel
theorem plain_isubn : plainId "issubclass.nested" = true := by decide +kernel
theorem args_isubn (a b c : Value) : argsOk "issubclass.nested" ⟨[a, b, c], []⟩ := by unfold argsOk; kernel_rfl
theorem isub_meets {T U : String} {b : Bool} {dep : Int} {tk : Tok} (hT : typeOf (.type T) = pure (.type "type")) (hU : typeOf (.type U) = pure (.type "type")) (h : isSubtype (.type T) (.type U) = pure b) :
    Meets (Builtin.«issubclass.nested» ⟨[.type T, .type U, .int dep tk], []⟩) (fun _ R s => R (.ok (.ret (.bool b))) s) := fun _ _ _ _ _ hs => isub_nested hT hU h hs
theorem isub_tuple {A : Around} {E : Value → Shared → Prop} {s : Shared} {o : Bool} {tp : Addr} {tk : Tok} {arr : Array Value} {Q : PySem.Fin → Shared → Prop} (ht : s.heap.IsTuple tp arr) (he : arr.toList = [.type "str", .type "bytes"])
    (hq : Q (.done (.ret (.bool true))) s) : wpAny (model prog w) A (Builtin.«issubclass.nested» ⟨[.type (tyN o), .ref tp, .int 0 tk], []⟩) Q E s := by
  obtain ⟨ob, ho, hc, n, hd⟩ := ht
  obtain ⟨c, di, dt, sl⟩ := ob
  simp only at hc hd
  subst hc hd
  have hT2 : s.TypeIs (.ref tp) "tuple" := ⟨_, ho, rfl⟩
  have f1 := F.isi_sub_tuple
  repeat (any_goals (first | assumption | wp_step))
  refine wpAny_arrayLoop ?_
  simp only [Option.getD_some]
  rw [he, List.forIn_cons]
  cases o
  · refine wpAny_bind (wpAny_bind (call_function_meets kind_isubn plain_isubn F.entry_issubclass_nested (args_isubn _ _ _) (isub_meets (T := "str") (U := "str") PySem.F.isi_meta_str PySem.F.isi_meta_str PySem.isSubtype_str_str) ?_))
    refine wpAny_bind (m := truthy (.bool true)) (wpAny_pure ?_)
    exact wpAny_bind (wpAny_pure (wpAny_pure (wpAny_pure (wpAny_pure hq))))
  · refine wpAny_bind (wpAny_bind (call_function_meets kind_isubn plain_isubn F.entry_issubclass_nested (args_isubn _ _ _) (isub_meets (T := "bytes") (U := "str") PySem.F.isi_meta_bytes PySem.F.isi_meta_str PySem.F.sub_bytes_str) ?_))
    refine wpAny_bind (m := truthy (.bool false)) (wpAny_pure ?_)
    refine wpAny_pure ?_
    dsimp only
    rw [List.forIn_cons]
    refine wpAny_bind (wpAny_bind (call_function_meets kind_isubn plain_isubn F.entry_issubclass_nested (args_isubn _ _ _) (isub_meets (T := "bytes") (U := "bytes") PySem.F.isi_meta_bytes PySem.F.isi_meta_bytes PySem.F.bm_sub) ?_))
    refine wpAny_bind (m := truthy (.bool true)) (wpAny_pure ?_)
    exact wpAny_bind (wpAny_pure (wpAny_pure (wpAny_pure (wpAny_pure hq))))
theorem cl_issubclass {o : Bool} : Cl prog w k (Str.ofString "issubclass") [.ty (tyN o), .tup [.ty "str", .ty "bytes"]] (.bool true) := by
  intro A Z s f vs R top al g r
  have ef := Glb.uniq g (glbT "issubclass" (.builtin "issubclass") (by decide) top)
  subst ef
  obtain ⟨v, r1, rfl, rv, ⟨u, r2, rfl, ru, rr⟩⟩ := r
  cases rr; cases rv
  obtain ⟨a, ws, rfl, hn, ht, ⟨x, r3, rfl, rx, ⟨y, r4, rfl, ry, r5⟩⟩⟩ := ru
  cases rx; cases ry; cases r5
  exact call_issubclass (S := fun _ R s => s.heap.IsTuple a #[.type "str", .type "bytes"] ∧ R (.ok (.ret (.bool true))) s) (fun _ _ _ _ _ hs => issubclass_outer (isub_tuple hs.1 rfl hs.2)) ⟨ht.isTuple, .refl, rfl⟩

/-- os.fspath of a text -/
theorem f_fspath {o : Bool} {cs : List Nat} : Cl prog w (k + 2) (dfn 9).name [.txt o cs] (.txt o cs) := by
  refine Cl.of_run (k := k + 1) 9 (by decide) (xs := [Str.ofString "path"]) rfl (fun pm code doc vs hv => ?_) (fun n x hx => ?_) (h := fun A s₀ Y pm code doc L a R => ?_)
  · obtain ⟨v, rfl⟩ := List.length_eq_one_iff.mp hv
    rfl
  · rw [List.mem_singleton.mp hx]; left; rfl
  · conv in (dfn 9).body => whnf
    refine Run.assign R (Ev.callb (f := .type "type") rfl rfl (fun h t => glbT "type" _ (by decide) t) (fun _ e => by cases e) (Evs.cons (Ev.name rfl rfl) Evs.nil) cl_type) (.inl rfl) ?_
    refine Run.ite R (Tb.value (Ev.callb (f := .builtin "issubclass") rfl rfl (fun h t => glbT "issubclass" _ (by decide) t) (fun _ e => by cases e)
      (Evs.cons (Ev.name rfl rfl) (Evs.cons (Ev.tuple (Evs.cons (Ev.gname (d := .ty "str") (v := .type "str") rfl rfl (fun h t => glbT "str" _ (by decide) t) (fun _ _ => rfl)) (Evs.cons (Ev.gname (d := .ty "bytes") (v := .type "bytes") rfl rfl (fun h t => glbT "bytes" _ (by decide) t) (fun _ _ => rfl)) Evs.nil))) Evs.nil)) cl_issubclass)
      (fun A Z s v _ _ r => by cases r; exact wpAny_truthy_bool ⟨.refl, rfl⟩)) (fun _ => ?_) (fun e => by cases e)
    exact Run.ret R (Ev.name rfl rfl) fun s v e r => ⟨v, rfl, e, r.weak fun a ha => List.mem_append.mpr (.inr ha)⟩
end
end Mine
end
section
open PySem PyProof.Rows
set_option maxRecDepth 100000
set_option linter.unusedVariables false
namespace Mine
theorem rep_int {Z : List Addr} {h : Heap} {x y : Int} {t : Tok} (e : x = y) : Rep Z h (.int y) (.int x t) := ⟨t, by rw [e]⟩
section
variable {prog : Program} {w : World} {k : Nat} {a b : Int}
theorem o_add : Op2 prog w k .Add (.int a) (.int b) (.int (a + b)) := fun A Z s v u R al ⟨t, e⟩ ⟨t', e'⟩ => by subst e e'; exact P.add_int ⟨.toks, _, rfl⟩
theorem o_sub : Op2 prog w k .Sub (.int a) (.int b) (.int (a - b)) := fun A Z s v u R al ⟨t, e⟩ ⟨t', e'⟩ => by subst e e'; exact P.sub_int ⟨.toks, _, rfl⟩
theorem o_mod (hb : 0 < b) : Op2 prog w k .Mod (.int a) (.int b) (.int (a % b)) := fun A Z s v u R al ⟨t, e⟩ ⟨t', e'⟩ => by
  subst e e'; exact mod_int (by omega) ⟨.toks, rep_int (Int.fmod_eq_emod_of_nonneg a (Int.le_of_lt hb))⟩
theorem o_div (hb : 0 < b) (hb' : b < 1000) (ha : a.natAbs < 2 ^ 64) : Op2 prog w k .FloorDiv (.int a) (.int b) (.int (a / b)) := fun A Z s v u R al ⟨t, e⟩ ⟨t', e'⟩ => by
  subst e e'; refine floordiv_int (by omega) ⟨.toks, rep_int (Int.fdiv_eq_ediv_of_nonneg a (Int.le_of_lt hb))⟩ ?_
  · exact .inl (PyProof.noPylong_small (by omega))
theorem oi_add : OpI prog w k .Add (.int a) (.int b) (.int (a + b)) := fun A Z s v u R al ⟨t, e⟩ ⟨t', e'⟩ => by subst e e'; exact P.iadd_int ⟨.toks, _, rfl⟩
theorem oi_sub : OpI prog w k .Sub (.int a) (.int b) (.int (a - b)) := fun A Z s v u R al ⟨t, e⟩ ⟨t', e'⟩ => by subst e e'; exact P.isub_int ⟨.toks, _, rfl⟩
theorem oi_div (hb : 0 < b) (hb' : b < 1000) (ha : a.natAbs < 2 ^ 64) : OpI prog w k .FloorDiv (.int a) (.int b) (.int (a / b)) := fun A Z s v u R al ⟨t, e⟩ ⟨t', e'⟩ => by
  subst e e'; refine ifloordiv_int (by omega) ⟨.toks, rep_int (Int.fdiv_eq_ediv_of_nonneg a (Int.le_of_lt hb))⟩ ?_
  · exact .inl (PyProof.noPylong_small (by omega))
theorem o_neg : Op1 prog w k .USub (.int a) (.int (-a)) := fun A Z s v R al ⟨t, e⟩ => by subst e; exact P.neg_int ⟨.toks, _, rfl⟩
theorem c_eq : Cmp prog w k .Eq (.int a) (.int b) (a == b) := fun A Z s v u R al ⟨t, e⟩ ⟨t', e'⟩ => by subst e e'; exact P.eq_int ⟨.refl, rfl⟩
theorem c_ne : Cmp prog w k .NotEq (.int a) (.int b) (a != b) := fun A Z s v u R al ⟨t, e⟩ ⟨t', e'⟩ => by subst e e'; exact P.ne_int ⟨.refl, rfl⟩
theorem c_lt : Cmp prog w k .Lt (.int a) (.int b) (decide (a < b)) := fun A Z s v u R al ⟨t, e⟩ ⟨t', e'⟩ => by subst e e'; exact P.lt_int ⟨.refl, rfl⟩
theorem c_le : Cmp prog w k .LtE (.int a) (.int b) (decide (a ≤ b)) := fun A Z s v u R al ⟨t, e⟩ ⟨t', e'⟩ => by subst e e'; exact P.le_int ⟨.refl, rfl⟩
theorem t_int : Tru prog w k (.int a) (a != 0) := fun A Z s v R al ⟨t, e⟩ => by subst e; exact P.truthy_int ⟨.refl, rfl⟩
theorem t_bool {b : Bool} : Tru prog w k (.bool b) b := fun A Z s v R al e => by cases e; exact wpAny_truthy_bool ⟨.refl, rfl⟩

theorem cl_abs : Cl prog w k (Str.ofString "abs") [.int a] (.int (a.natAbs : Int)) := by
  intro A Z s f vs R top al g r
  have ef := Glb.uniq g (glbT "abs" (.builtin "abs") (by decide) top)
  subst ef
  obtain ⟨v, r1, rfl, ⟨t, rfl⟩, rr⟩ := r
  cases rr
  refine call_abs_int fun u tk => ⟨.toks, u, ?_⟩
  refine congrArg (fun x => Value.int x _) ?_
  split <;> omega
theorem cl_len_list {ds : List D} (h : ds.length ≤ 100000) : Cl prog w k (Str.ofString "len") [.list ds] (.int ds.length) := by
  intro A Z s f vs R top al g r
  have ef := Glb.uniq g (glbT "len" (.builtin "len") (by decide) top)
  subst ef
  obtain ⟨v, r1, rfl, ⟨x, ws, rfl, hn, hl, hr⟩, rr⟩ := r
  cases rr
  exact len_list hl.isList (by have := hr.length; simp; omega) ⟨.toks, rep_int (by simp [hr.length])⟩
theorem cl_chr (h0 : 0 ≤ a) (h1 : a < 256) : Cl prog w k (Str.ofString "chr") [.int a] (.txt false [a.toNat]) := by
  intro A Z s f vs R top al g r
  have ef := Glb.uniq g (glbT "chr" (.builtin "chr") (by decide) top)
  subst ef
  obtain ⟨v, r1, rfl, ⟨t, rfl⟩, rr⟩ := r
  cases rr
  exact P.chr_of_int (by simp; omega) ⟨.toks, _, rfl⟩
theorem cl_ord {c : Nat} : Cl prog w k (Str.ofString "ord") [.txt false [c]] (.int c) := by
  intro A Z s f vs R top al g r
  have ef := Glb.uniq g (glbT "ord" (.builtin "ord") (by decide) top)
  subst ef
  obtain ⟨v, r1, rfl, ⟨t, rfl⟩, rr⟩ := r
  cases rr
  exact P.ord_of_char ⟨.toks, _, rfl⟩
theorem cl_range1 : Cl prog w k (Str.ofString "range") [.int a] (.range 0 a 1) := by
  intro A Z s f vs R top al g r
  have ef := Glb.uniq g (glbT "range" (.type "range") (by decide) top)
  subst ef
  obtain ⟨v, r1, rfl, ⟨t, rfl⟩, rr⟩ := r
  cases rr
  exact call_range_1 ⟨Ext.heap fun _ _ _ e => Heap.get?_push_of_some _ e, _, rfl, al.size, _, _, _, Heap.get?_push_size _ rfl⟩
theorem cl_range2 : Cl prog w k (Str.ofString "range") [.int a, .int b] (.range a b 1) := by
  intro A Z s f vs R top al g r
  have ef := Glb.uniq g (glbT "range" (.type "range") (by decide) top)
  subst ef
  obtain ⟨v, r1, rfl, ⟨t, rfl⟩, v2, r2, rfl, ⟨t2, rfl⟩, rr⟩ := r
  cases rr
  exact call_range_2 ⟨Ext.heap fun _ _ _ e => Heap.get?_push_of_some _ e, _, rfl, al.size, _, _, _, Heap.get?_push_size _ rfl⟩
theorem cl_rangeDown (ha : a.natAbs < 2 ^ 60) (hb : b.natAbs < 2 ^ 60) : Cl prog w k (Str.ofString "range") [.int a, .int b, .int (-1)] (.range a b (-1)) := by
  intro A Z s f vs R top al g r
  have ef := Glb.uniq g (glbT "range" (.type "range") (by decide) top)
  subst ef
  obtain ⟨v, r1, rfl, ⟨t, rfl⟩, v2, r2, rfl, ⟨t2, rfl⟩, v3, r3, rfl, ⟨t3, rfl⟩, rr⟩ := r
  cases rr
  exact call_range_3 (by decide) ⟨Ext.heap fun _ _ _ e => Heap.get?_push_of_some _ e, _, rfl, al.size, _, _, _, Heap.get?_push_size _ rfl⟩ (.inl (PyProof.noPylong_small (by omega)))
end
end Mine
end
section
open PySem PyProof.Rows
set_option maxRecDepth 100000
set_option linter.unusedVariables false
namespace Mine

/-- the parts between the signs c -/
def splitL (c : Nat) : List Nat → List (List Nat)
  | [] => [[]]
  | x :: xs => if x = c then [] :: splitL c xs else match splitL c xs with
    | p :: ps => (x :: p) :: ps
    | [] => [[x]]
/-- the parts, c between them -/
def joinL (c : Nat) : List (List Nat) → List Nat
  | [] => []
  | [p] => p
  | p :: q :: r => p ++ c :: joinL c (q :: r)
theorem splitL_ne (c : Nat) : ∀ l, splitL c l ≠ []
  | [] => by simp [splitL]
  | x :: xs => by
    unfold splitL
    split
    · simp
    · split <;> simp
theorem joinL_splitL (c : Nat) : ∀ l, joinL c (splitL c l) = l
  | [] => rfl
  | x :: xs => by
    have ih := joinL_splitL c xs
    unfold splitL
    split
    · rename_i h
      subst h
      cases q : splitL x xs with
      | nil => exact absurd q (splitL_ne _ _)
      | cons p ps => rw [q] at ih; simp [joinL, ih]
    · cases q : splitL c xs with
      | nil => exact absurd q (splitL_ne _ _)
      | cons p ps =>
        rw [q] at ih
        cases ps with
        | nil => simp [joinL] at ih ⊢; exact ih
        | cons r rs => simp [joinL] at ih ⊢; exact ih
theorem splitL_free (c : Nat) : ∀ l, ∀ p ∈ splitL c l, c ∉ p
  | [], p, hp => by simp [splitL] at hp; subst hp; simp
  | x :: xs, p, hp => by
    have ih := splitL_free c xs
    unfold splitL at hp
    split at hp
    · rcases List.mem_cons.mp hp with rfl | hp
      · simp
      · exact ih p hp
    · rename_i hx
      cases q : splitL c xs with
      | nil => exact absurd q (splitL_ne _ _)
      | cons r rs =>
        rw [q] at hp ih
        rcases List.mem_cons.mp hp with rfl | hp
        · simp only [List.mem_cons, not_or]; exact ⟨fun e => hx e.symm, ih r List.mem_cons_self⟩
        · exact ih p (List.mem_cons_of_mem _ hp)
theorem splitL_append (c : Nat) : ∀ p l, c ∉ p → splitL c (p ++ c :: l) = p :: splitL c l
  | [], l, _ => by simp [splitL]
  | x :: p, l, h => by
    simp only [List.mem_cons, not_or] at h
    rw [List.cons_append, splitL, if_neg (fun e => h.1 e.symm), splitL_append c p l h.2]
theorem splitL_self (c : Nat) : ∀ p, c ∉ p → splitL c p = [p]
  | [], _ => rfl
  | x :: p, h => by
    simp only [List.mem_cons, not_or] at h
    rw [splitL, if_neg (fun e => h.1 e.symm), splitL_self c p h.2]
theorem splitL_joinL (c : Nat) : ∀ ps, ps ≠ [] → (∀ p ∈ ps, c ∉ p) → splitL c (joinL c ps) = ps
  | [], h, _ => absurd rfl h
  | [p], _, h => by simp [joinL]; exact splitL_self c p (h p List.mem_cons_self)
  | p :: q :: r, _, h => by
    rw [joinL, splitL_append c p _ (h p List.mem_cons_self), splitL_joinL c (q :: r) (by simp) fun x hx => h x (List.mem_cons_of_mem _ hx)]
theorem splitL_length (c : Nat) : ∀ l, (splitL c l).length ≤ l.length + 1
  | [] => by simp [splitL]
  | x :: xs => by
    have ih := splitL_length c xs
    unfold splitL
    split
    · simp; omega
    · cases q : splitL c xs with
      | nil => simp
      | cons p ps => rw [q] at ih; simp at ih ⊢; omega
theorem joinL_length (c : Nat) : ∀ ps, (joinL c ps).length ≤ (ps.map List.length).sum + ps.length
  | [] => by simp [joinL]
  | [p] => by simp [joinL]
  | p :: q :: r => by have := joinL_length c (q :: r); simp [joinL] at this ⊢; omega

theorem str_join_cps (c : Nat) : ∀ ps : List Str, (Str.join ⟨#[c]⟩ ps).cps.toList = joinL c (ps.map fun p => p.cps.toList)
  | [] => rfl
  | [p] => rfl
  | p :: q :: r => by
    have := str_join_cps c (q :: r)
    show ((p ++ ⟨#[c]⟩ ++ Str.join ⟨#[c]⟩ (q :: r)) : Str).cps.toList = _
    simp only [Str.cps_append, Array.toList_append, this, List.map_cons, joinL]
    simp
theorem split_nil {x y : Str} : Txt.split x y ≠ [] := by
  unfold Txt.split
  split
  · simp
  · split
    · simp
    · rw [StrLaws.partsBetween_eq]
      obtain ⟨p, r, e⟩ := StrLaws.partsFrom_ne x y.length 0 (Builtin.Str.occurrences x y 0 x.length (x.length + 1))
      rw [e]; simp
theorem str_split_cps (x : Str) (c : Nat) : (Txt.split x ⟨#[c]⟩).map (fun p => p.cps.toList) = splitL c x.cps.toList := by
  have h1 := StrLaws.join_split x ⟨#[c]⟩
  have h2 := StrLaws.split_free x c
  have h3 := congrArg (fun y : Str => y.cps.toList) h1
  simp only [str_join_cps] at h3
  rw [← h3, splitL_joinL]
  · intro e; exact split_nil (List.map_eq_nil_iff.mp e)
  · intro p hp
    obtain ⟨q, hq, rfl⟩ := List.mem_map.mp hp
    exact h2 q hq
end Mine
end
section
open PySem PyProof.Rows
set_option maxRecDepth 100000
set_option linter.unusedVariables false
namespace Mine

theorem toNat_inj : ∀ {a b : List UInt8}, a.map UInt8.toNat = b.map UInt8.toNat → a = b
  | [], [], _ => rfl
  | [], _ :: _, h => by simp at h
  | _ :: _, [], h => by simp at h
  | x :: a, y :: b, h => by simp at h; rw [UInt8.toNat_inj.mp h.1, toNat_inj h.2]
theorem eqN {a b : List Nat} : (a == b) = decide (a = b) := by
  by_cases h : a = b
  · subst h; simp
  · rw [beq_eq_false_iff_ne.mpr h, decide_eq_false h]
theorem eqB {a b : List UInt8} : (a == b) = decide (a.map UInt8.toNat = b.map UInt8.toNat) := by
  by_cases h : a = b
  · subst h; simp
  · rw [beq_eq_false_iff_ne.mpr h, decide_eq_false fun e => h (toNat_inj e)]
section
variable {prog : Program} {w : World} {k : Nat} {o : Bool} {a b : List Nat}
theorem rep_str {Z : List Addr} {h : Heap} {x : Str} {t : Tok} (e : x.cps.toList = a) : Rep Z h (.txt false a) (.str x t) := ⟨t, by subst e; rfl⟩
theorem rep_bytes {Z : List Addr} {h : Heap} {x : Array UInt8} {t : Tok} (e : x.toList.map UInt8.toNat = a) : Rep Z h (.txt true a) (.bytes x t) := ⟨x, t, rfl, e.symm⟩
theorem c_eqT : Cmp prog w k .Eq (.txt o a) (.txt o b) (decide (a = b)) := fun A Z s v u R al r r' => by
  cases o
  · obtain ⟨t, rfl⟩ := r; obtain ⟨t', rfl⟩ := r'
    exact P.eq_str ⟨.refl, by show _ = _; simp [eqN]⟩
  · obtain ⟨x, t, rfl, rfl⟩ := r; obtain ⟨y, t', rfl, rfl⟩ := r'
    exact W.eq_bytes ⟨.refl, by show _ = _; rw [eqB]⟩
theorem c_neT : Cmp prog w k .NotEq (.txt o a) (.txt o b) (!decide (a = b)) := fun A Z s v u R al r r' => by
  cases o
  · obtain ⟨t, rfl⟩ := r; obtain ⟨t', rfl⟩ := r'
    exact P.ne_str ⟨.refl, by show _ = _; simp [bne, eqN]⟩
  · obtain ⟨x, t, rfl, rfl⟩ := r; obtain ⟨y, t', rfl, rfl⟩ := r'
    exact W.ne_bytes ⟨.refl, by show _ = _; rw [bne, eqB]⟩
theorem t_txt (ha : a.length ≤ 1000000) : Tru prog w k (.txt o a) (!a.isEmpty) := fun A Z s v R al r => by
  have key : ((a.length : Int) != 0) = !a.isEmpty := by cases a <;> simp [bne]; omega
  cases o
  · obtain ⟨t, rfl⟩ := r
    exact P.truthy_str (by simp [Str.length]; omega) ⟨.toks, by simpa [Str.length] using key⟩
  · obtain ⟨x, t, rfl, rfl⟩ := r
    exact W.truthy_bytes (by simp at ha; omega) ⟨.toks, by simpa using key⟩
theorem noI_bytes_add : typeLookup (.type "bytes") (dunderI "add") = pure none := by rw [typeLookup_type, builtinLookup_eq_fast]; kernel_rfl
theorem o_addT (h : a.length + b.length ≤ 1000000) : Op2 prog w k .Add (.txt o a) (.txt o b) (.txt o (a ++ b)) := fun A Z s v u R al r r' => by
  cases o
  · obtain ⟨t, rfl⟩ := r; obtain ⟨t', rfl⟩ := r'
    exact add_str (fun t' tk => ⟨.toks, rep_str (by simp [Str.cps_append])⟩) (by simp [Str.length]; unfold sizeLine; omega)
  · obtain ⟨x, t, rfl, rfl⟩ := r; obtain ⟨y, t', rfl, rfl⟩ := r'
    exact W.KBy.add_bytes (by simp at h; omega) fun t' tk => ⟨.toks, rep_bytes (by simp)⟩
theorem oi_addT (h : a.length + b.length ≤ 1000000) : OpI prog w k .Add (.txt o a) (.txt o b) (.txt o (a ++ b)) := fun A Z s v u R al r r' => by
  cases o
  · obtain ⟨t, rfl⟩ := r; obtain ⟨t', rfl⟩ := r'
    exact iadd_str (fun t' tk => ⟨.toks, rep_str (by simp [Str.cps_append])⟩) (by simp [Str.length]; unfold sizeLine; omega)
  · obtain ⟨x, t, rfl, rfl⟩ := r; obtain ⟨y, t', rfl, rfl⟩ := r'
    have hsz : x.size + y.size ≤ 16777216 := by simp at h; omega
    refine iconcat_gives (W.typeIs_bytes s x t) (W.typeIs_bytes s y t') noI_bytes_add W.KBy.noFill_bytes_add W.KBy.seq_bytes_add PySem.W.FB.slot_bytes_add PySem.W.FB.entry_bytes_add (PySem.W.FB.args_bytes_add_2 _ _) (W.KBy.gives_bytes_add (W.KBy.tooLong_not hsz)) ?_
    by_cases hb : x.isEmpty = true
    · rw [if_pos hb]
      exact ⟨.refl, rep_bytes (by have : x = #[] := by simpa using hb
                                  subst this; simp)⟩
    · rw [if_neg hb]
      by_cases hc : y.isEmpty = true
      · rw [if_pos hc]
        exact ⟨.refl, rep_bytes (by have : y = #[] := by simpa using hc
                                    subst this; simp)⟩
      · rw [if_neg hc]
        exact ⟨by simp; unfold sizeLine; omega, .toks, rep_bytes (by simp)⟩
theorem cl_len_txt (h : a.length ≤ 1000000) : Cl prog w k (Str.ofString "len") [.txt o a] (.int a.length) := by
  intro A Z s f vs R top al g r
  have ef := Glb.uniq g (glbT "len" (.builtin "len") (by decide) top)
  subst ef
  obtain ⟨v, r1, rfl, rv, rr⟩ := r
  cases rr
  cases o
  · obtain ⟨t, rfl⟩ := rv
    exact P.len_str (by simp [Str.length]; omega) ⟨.toks, rep_int (by simp [Str.length])⟩
  · obtain ⟨x, t, rfl, rfl⟩ := rv
    exact W.len_bytes (by simp at h; omega) ⟨.toks, rep_int (by simp)⟩
end
end Mine
end
section
open PySem PyProof.Rows
set_option maxRecDepth 100000
set_option linter.unusedVariables false
namespace Mine
open Builtin
theorem isi_bytes_tuple {b : Array UInt8} {t : Tok} : isInstance (.bytes b t) (.type "tuple") = pure false := by
  unfold isInstance
  show (typeOf (.bytes b t) >>= fun T => isSubtype T (.type "tuple")) = pure false
  show isSubtype (.type "bytes") (.type "tuple") = pure false
  rw [isSubtype_type]; kernel_rfl
theorem bm_window (b : Array UInt8) : Bytes.window b.size none none = (0, (b.size : Int)) := by
  unfold Bytes.window
  simp only [Option.getD_none]
  have h1 : ¬ ((0 : Int) < 0) := by omega
  have h2 : ¬ ((b.size : Int) < 0) := by omega
  simp only [h1, h2, if_false]
  congr 1
  omega
theorem gives_bytes_sw (b c : Array UInt8) (t u : Tok) : PySem.Gives («bytes.startswith» ⟨[.bytes b t, .bytes c u], []⟩) (.val (.bool (decide (c.size ≤ b.size) && b.extract 0 c.size == c))) := by
  refine .of_wp fun M A E s Q hq => ?_
  unfold «bytes.startswith» Bytes.tailMatchM
  have f1 := PySem.F.sub_bytes_tuple
  have f2 : ∀ id : String, Bytes.buffer? id (Value.bytes c u) = pure (some c) := fun id => W.KBy.buffer_eq
  repeat (any_goals (first | assumption | (refine wpAny_of_eq (f2 _) ?_) | wp_step))
  simp only [bm_window]
  refine ⟨_, rfl, ?_⟩
  have e : (if (b.size : Int) - 0 < (c.size : Int) then false else if false = true then b.extract ((b.size : Int).toNat - c.size) (b.size : Int).toNat == c else b.extract (0 : Int).toNat ((0 : Int).toNat + c.size) == c) = (decide (c.size ≤ b.size) && b.extract 0 c.size == c) := by
    by_cases h : c.size ≤ b.size
    · rw [if_neg (by omega)]; simp [h]
    · rw [if_pos (by omega)]; simp [h]
  rw [e]; exact hq
theorem gives_bytes_ew (b c : Array UInt8) (t u : Tok) : PySem.Gives («bytes.endswith» ⟨[.bytes b t, .bytes c u], []⟩) (.val (.bool (decide (c.size ≤ b.size) && b.extract (b.size - c.size) b.size == c))) := by
  refine .of_wp fun M A E s Q hq => ?_
  unfold «bytes.endswith» Bytes.tailMatchM
  have f1 := PySem.F.sub_bytes_tuple
  have f2 : ∀ id : String, Bytes.buffer? id (Value.bytes c u) = pure (some c) := fun id => W.KBy.buffer_eq
  repeat (any_goals (first | assumption | (refine wpAny_of_eq (f2 _) ?_) | wp_step))
  simp only [bm_window]
  refine ⟨_, rfl, ?_⟩
  have e : (if (b.size : Int) - 0 < (c.size : Int) then false else if True then b.extract ((b.size : Int).toNat - c.size) (b.size : Int).toNat == c else b.extract (0 : Int).toNat ((0 : Int).toNat + c.size) == c) = (decide (c.size ≤ b.size) && b.extract (b.size - c.size) b.size == c) := by
    by_cases h : c.size ≤ b.size
    · rw [if_neg (by omega)]; simp [h]
    · rw [if_pos (by omega)]; simp [h]
  rw [e]; exact hq

theorem ty_spB : typeOf (.builtin "bytes.split") = pure (.type "method_descriptor") := by show builtinType _ = _; rw [builtinType_eq_fast]; kernel_rfl
theorem ty_joB : typeOf (.builtin "bytes.join") = pure (.type "method_descriptor") := by show builtinType _ = _; rw [builtinType_eq_fast]; kernel_rfl
theorem slot_spB : Slot "bytes" "split" "bytes.split" :=
  .of (owner := "bytes") (n := "split") (by rw [typeLookup_type, builtinLookup_eq_fast]; kernel_rfl) (by decide +kernel) (by decide +kernel) (by decide +kernel)
    (by first | exact .inl (by decide +kernel) | exact .inr (by decide +kernel)) (by rw [isSubtype_type]; kernel_rfl)
theorem slot_joB : Slot "bytes" "join" "bytes.join" :=
  .of (owner := "bytes") (n := "join") (by rw [typeLookup_type, builtinLookup_eq_fast]; kernel_rfl) (by decide +kernel) (by decide +kernel) (by decide +kernel)
    (by first | exact .inl (by decide +kernel) | exact .inr (by decide +kernel)) (by rw [isSubtype_type]; kernel_rfl)
theorem entry_spB : entryFor table "bytes.split" = some Builtin.«bytes.split» := entryFor_of_tree (by kernel_rfl)
theorem entry_joB : entryFor table "bytes.join" = some Builtin.«bytes.join» := entryFor_of_tree (by kernel_rfl)
theorem args_spB (a b : Value) : argsOk "bytes.split" ⟨[a, b], []⟩ := by unfold argsOk; kernel_rfl
theorem args_joB (a b : Value) : argsOk "bytes.join" ⟨[a, b], []⟩ := by unfold argsOk; kernel_rfl

def headIs (c : Nat) (l : List Nat) : Bool := l.head? == some c
def lastIs (c : Nat) (l : List Nat) : Bool := l.getLast? == some c

section
variable {prog : Program} {w : World} {k : Nat} {o : Bool} {a : List Nat} {c : Nat}
theorem u8_beq (x u : UInt8) : (x == u) = (x.toNat == u.toNat) := by
  by_cases h : x = u
  · subst h; simp
  · have h2 : x.toNat ≠ u.toNat := fun e => h (UInt8.toNat_inj.mp e)
    rw [beq_eq_false_iff_ne.mpr h, beq_eq_false_iff_ne.mpr h2]
theorem one_byte {x : Array UInt8} (h : [c] = x.toList.map UInt8.toNat) : ∃ u : UInt8, x = #[u] ∧ u.toNat = c := by
  obtain ⟨l⟩ := x
  cases l with
  | nil => simp at h
  | cons u r =>
    cases r with
    | nil => simp at h; exact ⟨u, rfl, h.symm⟩
    | cons _ _ => simp at h
theorem m_startswith : Mth prog w k (Str.ofString "startswith") (.txt o a) [.txt o [c]] (.bool (headIs c a)) := by
  cases o
  · refine ⟨"str", "str.startswith", F.plainAttrs_str, F.slot_str_startswith, PySem.F.type_str_startswith, fun Z s v r => ⟨r.txt_type, r.txt_ref⟩, fun A Z s v vs R al r rs => ?_⟩
    obtain ⟨t, rfl⟩ := r
    obtain ⟨u, rest, rfl, ⟨t', rfl⟩, rr⟩ := rs
    cases rr
    refine SC.startswith ⟨.refl, ?_⟩
    show _ = _
    congr 1
    unfold Txt.startswith
    rw [StrLaws.subAt_eq]
    cases a <;> simp [headIs, Str.length]
  · refine ⟨"bytes", "bytes.startswith", W.FB.plainAttrs_bytes, W.FB.slot_bytes_startswith, W.FB.type_bytes_startswith, fun Z s v r => ⟨r.txt_type, r.txt_ref⟩, fun A Z s v vs R al r rs => ?_⟩
    obtain ⟨x, t, rfl, rfl⟩ := r
    obtain ⟨u, rest, rfl, ⟨y, t', rfl, hy⟩, rr⟩ := rs
    cases rr
    obtain ⟨u, rfl, rfl⟩ := one_byte hy
    refine call_gives W.FB.slot_bytes_startswith (W.typeIs_bytes _ _ _) W.FB.entry_bytes_startswith (W.FB.args_bytes_startswith_2 _ _) (gives_bytes_sw x #[u] t t') ⟨.refl, ?_⟩
    show _ = _
    congr 1
    obtain ⟨l⟩ := x
    cases l <;> simp [headIs, u8_beq]
theorem m_endswith : Mth prog w k (Str.ofString "endswith") (.txt o a) [.txt o [c]] (.bool (lastIs c a)) := by
  cases o
  · refine ⟨"str", "str.endswith", F.plainAttrs_str, F.slot_str_endswith, PySem.F.type_str_endswith, fun Z s v r => ⟨r.txt_type, r.txt_ref⟩, fun A Z s v vs R al r rs => ?_⟩
    obtain ⟨t, rfl⟩ := r
    obtain ⟨u, rest, rfl, ⟨t', rfl⟩, rr⟩ := rs
    cases rr
    refine SC.endswith ⟨.refl, ?_⟩
    show _ = _
    congr 1
    unfold Txt.endswith
    rw [StrLaws.subAt_eq]
    rcases List.eq_nil_or_concat a with rfl | ⟨l, x, rfl⟩
    · simp [lastIs, Str.length]
    · simp [lastIs, Str.length]
  · refine ⟨"bytes", "bytes.endswith", W.FB.plainAttrs_bytes, W.FB.slot_bytes_endswith, W.FB.type_bytes_endswith, fun Z s v r => ⟨r.txt_type, r.txt_ref⟩, fun A Z s v vs R al r rs => ?_⟩
    obtain ⟨x, t, rfl, rfl⟩ := r
    obtain ⟨u, rest, rfl, ⟨y, t', rfl, hy⟩, rr⟩ := rs
    cases rr
    obtain ⟨u, rfl, rfl⟩ := one_byte hy
    refine call_gives W.FB.slot_bytes_endswith (W.typeIs_bytes _ _ _) W.FB.entry_bytes_endswith (W.FB.args_bytes_endswith_2 _ _) (gives_bytes_ew x #[u] t t') ⟨.refl, ?_⟩
    show _ = _
    congr 1
    obtain ⟨l⟩ := x
    rcases List.eq_nil_or_concat l with rfl | ⟨l, x, rfl⟩
    · simp [lastIs]
    · simp [lastIs, u8_beq]
/-- a list of texts -/
def txts (o : Bool) (ps : List (List Nat)) : List D := ps.map fun p => .txt o p
theorem reps_strs {Z : List Addr} {h : Heap} : ∀ (l : List (Str × Tok)), Reps Z h (txts false (l.map fun p => p.1.cps.toList)) (strValues l)
  | [] => rfl
  | (x, t) :: r => Reps.cons (rep_str rfl) (reps_strs r)
theorem strs_of {Z : List Addr} {h : Heap} : ∀ {ps : List (List Nat)} {vs : List Value}, Reps Z h (txts false ps) vs → ∃ l : List (Str × Tok), vs = strValues l ∧ l.map (fun p => p.1.cps.toList) = ps
  | [], vs, r => by cases r; exact ⟨[], rfl, rfl⟩
  | p :: ps, vs, ⟨v, rest, e, ⟨t, hv⟩, r⟩ => by
    subst e hv
    obtain ⟨l, rfl, rfl⟩ := strs_of r
    exact ⟨(⟨p.toArray⟩, t) :: l, rfl, by simp⟩
theorem m_splitS (ha : a.length ≤ 100000) : Mth prog w k (Str.ofString "split") (.txt false a) [.txt false [c]] (.list (txts false (splitL c a))) := by
  refine ⟨"str", "str.split", F.plainAttrs_str, F.slot_str_split, PySem.F.type_str_split, fun Z s v r => ⟨r.txt_type, r.txt_ref⟩, fun A Z s v vs R al r rs => ?_⟩
  obtain ⟨t, rfl⟩ := r
  obtain ⟨u, rest, rfl, ⟨t', rfl⟩, rr⟩ := rs
  cases rr
  have fin : ∀ (l : List (Str × Tok)) (tk : Nat), l.map (·.1) = Txt.split ⟨a.toArray⟩ ⟨#[c]⟩ → Ext [] s { s with heap := s.heap.push { cls := .type "list", data := .seq (strValues l).toArray }, toks := tk } ∧
      Rep Z (s.heap.push { cls := .type "list", data := .seq (strValues l).toArray }) (.list (txts false (splitL c a))) (.ref s.heap.objs.size) := fun l tk hl => by
    refine ⟨Ext.heap fun _ _ _ e => Heap.get?_push_of_some _ e, ?_⟩
    have e : splitL c a = l.map (fun p => p.1.cps.toList) := by
      have := str_split_cps ⟨a.toArray⟩ c
      rw [← hl] at this
      simpa [Function.comp_def] using this.symm
    rw [e]
    exact Rep.new_list (s := s) (reps_strs l) al
  have hlen : (Str.mk a.toArray).length ≤ sizeLine := by simp [Str.length]; unfold sizeLine; omega
  have hparts : (Builtin.Str.partsBetween ⟨a.toArray⟩ (Builtin.Str.occurrences ⟨a.toArray⟩ ⟨#[c]⟩ 0 (Str.mk a.toArray).length ((Str.mk a.toArray).length + 1)) (Str.mk #[c]).length).length ≤ sizeLine := by
    have h1 := StrLaws.occ_length_le ⟨a.toArray⟩ ⟨#[c]⟩ 0 (Str.mk a.toArray).length ((Str.mk a.toArray).length + 1)
    unfold Builtin.Str.partsBetween
    simp [Str.length] at h1 ⊢
    unfold sizeLine
    omega
  have hy : ((Str.mk #[c]).length == 0) = false := by simp [Str.length]
  cases h1 : (decide ((Str.mk a.toArray).length < (Str.mk #[c]).length) || decide (Builtin.Str.strKind ⟨a.toArray⟩ < Builtin.Str.strKind ⟨#[c]⟩))
  · cases hf : (Builtin.Str.occurrences ⟨a.toArray⟩ ⟨#[c]⟩ 0 (Str.mk a.toArray).length ((Str.mk a.toArray).length + 1)).isEmpty
    · refine call_meets F.slot_str_split (typeIs_str _ _ _) F.entry_str_split (F.args_str_split_2 _ _) (meets_str_split_sep ⟨a.toArray⟩ ⟨#[c]⟩ t t' h1 hy hf hlen hparts) ?_
      show wants _ _ _ { s with toks := _, heap := s.heap.push { cls := .type "list", data := .seq (strsFrom s.toks _).toArray } }
      rw [strsFrom_eq]
      refine fin (numbered s.toks _) _ ((numbered_texts _ _).trans ?_)
      unfold Txt.split
      rw [if_neg (by rw [h1]; simp), if_neg (by rw [hf]; simp)]
    · exact call_meets F.slot_str_split (typeIs_str _ _ _) F.entry_str_split (F.args_str_split_2 _ _) (meets_str_split_not_found ⟨a.toArray⟩ ⟨#[c]⟩ t t' h1 hy hf)
        (fin [(⟨a.toArray⟩, t)] s.toks (by unfold Txt.split; rw [if_neg (by rw [h1]; simp), if_pos hf]; rfl))
  · exact call_meets F.slot_str_split (typeIs_str _ _ _) F.entry_str_split (F.args_str_split_2 _ _) (meets_str_split_cannot_occur ⟨a.toArray⟩ ⟨#[c]⟩ t t' h1)
      (fin [(⟨a.toArray⟩, t)] s.toks (by unfold Txt.split; rw [if_pos h1]; rfl))
theorem m_joinS {ps : List (List Nat)} (h : (ps.map List.length).sum + ps.length ≤ 1000000) : Mth prog w k (Str.ofString "join") (.txt false [c]) [.list (txts false ps)] (.txt false (joinL c ps)) := by
  refine ⟨"str", "str.join", F.plainAttrs_str, F.slot_str_join, PySem.F.type_str_join, fun Z s v r => ⟨r.txt_type, r.txt_ref⟩, fun A Z s v vs R al r rs => ?_⟩
  obtain ⟨t, rfl⟩ := r
  obtain ⟨u, rest, rfl, ⟨D, ws, rfl, hn, hl, hr⟩, rr⟩ := rs
  cases rr
  obtain ⟨l, rfl, rfl⟩ := strs_of hr
  refine SC.join hl.isList rfl ?_ fun t' k => ⟨.toks, rep_str ?_⟩
  · unfold JoinOk
    rw [StrLaws.joinTotal, Bool.not_eq_true']
    have : (List.map Str.length (List.map (fun x => x.1) l)).sum = (List.map List.length (List.map (fun p => p.1.cps.toList) l)).sum := by
      congr 1; simp [Str.length, Function.comp_def]
    rw [this]
    unfold Builtin.Str.tooLong
    refine decide_eq_false ?_
    simp [Str.length] at h ⊢
    unfold sizeLine
    simp [Function.comp_def] at h ⊢
    omega
  · show (Builtin.Str.glued _ _).cps.toList = _
    rw [StrLaws.glued_eq_join, str_join_cps]
    simp [Function.comp_def]
end
end Mine
end
section
open PySem PyProof.Rows
set_option maxRecDepth 100000
set_option linter.unusedVariables false
namespace Mine
section
variable {prog : Program} {w : World} {k : Nat} {o : Bool} {ds es : List D} {d : D}

theorem tup_getitem_lookup : typeLookup (.type "tuple") "__getitem__" = pure (some (.builtin "tuple.__getitem__")) := F.slot_tuple_getitem.lookup

theorem t_list (h : ds.length ≤ 1000000) : Tru prog w k (.list ds) (!ds.isEmpty) := fun A Z s v R al r => by
  obtain ⟨a, vs, rfl, hn, hl, hr⟩ := r
  have e := hr.length
  refine wpAny_truthy_list hl.isList (by simp; omega) ⟨.toks, ?_⟩
  cases ds <;> cases vs <;> simp_all
theorem t_tup (h : ds.length ≤ 1000000) : Tru prog w k (.tup ds) (!ds.isEmpty) := fun A Z s v R al r => by
  obtain ⟨a, vs, rfl, hn, hl, hr⟩ := r
  have e := hr.length
  refine truthy_tuple hl.isTuple (by simp; omega) ⟨.toks, ?_⟩
  cases ds <;> cases vs <;> simp_all
theorem i_list {i : Nat} (hd : ds[i]? = some d) (hi : i ≤ 1000000) : Itm prog w k (.list ds) (.int i) d := fun A Z s v u R al r ⟨t, e⟩ => by
  subst e
  obtain ⟨a, vs, rfl, hn, hl, hr⟩ := r
  obtain ⟨x, hx, rx⟩ := hr.get hd
  refine ⟨"list", "list.__getitem__", PySem.list_getitem_lookup, hl.isList.typeIs, ?_⟩
  exact wpAny_getItem_list hl.isList (by omega) (by omega) (x := x) (by simpa using hx) ⟨.refl, rx⟩
theorem i_last (hd : ds.getLast? = some d) (hi : ds.length ≤ 1000000) : Itm prog w k (.list ds) (.int (-1)) d := fun A Z s v u R al r ⟨t, e⟩ => by
  subst e
  obtain ⟨a, vs, rfl, hn, hl, hr⟩ := r
  have e := hr.length
  have hne : 0 < ds.length := by cases ds <;> simp_all
  have hd' : ds[ds.length - 1]? = some d := by rw [List.getLast?_eq_getElem?] at hd; exact hd
  obtain ⟨x, hx, rx⟩ := hr.get hd'
  refine ⟨"list", "list.__getitem__", PySem.list_getitem_lookup, hl.isList.typeIs, ?_⟩
  refine wpAny_getItem_list_neg hl.isList (by omega) (by simp; omega) (by omega) (x := x) ?_ ⟨.refl, rx⟩
  have : ((-1 : Int) + ((List.toArray vs).size : Int)).toNat = ds.length - 1 := by simp; omega
  rw [this]; simpa using hx
theorem i_tup {i : Nat} (hd : ds[i]? = some d) (hi : i ≤ 1000000) : Itm prog w k (.tup ds) (.int i) d := fun A Z s v u R al r ⟨t, e⟩ => by
  subst e
  obtain ⟨a, vs, rfl, hn, ⟨n, hl⟩, hr⟩ := r
  obtain ⟨x, hx, rx⟩ := hr.get hd
  have hlt : i < vs.length := (List.getElem?_eq_some_iff.mp hx).1
  refine ⟨"tuple", "tuple.__getitem__", tup_getitem_lookup, ⟨_, hl, rfl⟩, ?_⟩
  refine P.getItem_tuple (k := i) (y := x) hl (by omega) (by omega) ?_ (by simpa using hx) ⟨.refl, rx⟩
  unfold seqIndex?
  have h0 : ¬ ((i : Int) < 0) := by omega
  simp only [h0, if_false]
  rw [if_pos (by simp; omega)]; simp

theorem o_addL (h : ds.length + es.length ≤ 1000000) : Op2 prog w k .Add (.list ds) (.list es) (.list (ds ++ es)) := fun A Z s v u R al r r' => by
  obtain ⟨a, vs, rfl, hn, ⟨n, hl⟩, hr⟩ := r
  obtain ⟨b, ws, rfl, hn', ⟨n', hl'⟩, hr'⟩ := r'
  have e1 := hr.length; have e2 := hr'.length
  refine concat_meets ⟨_, hl, rfl⟩ ⟨_, hl', rfl⟩ noFill_list_add seq_list_add PySem.F.slot_list_add PySem.F.entry_list_add (PySem.F.args_list_add_2 _ _) (list_addW a b vs.toArray ws.toArray n n' none none #[] #[] (by simp; unfold sizeLine; omega)) ⟨hl, hl', ?_⟩
  have e : vs.toArray ++ ws.toArray = (vs ++ ws).toArray := by simp
  rw [e]
  exact ⟨.push, Rep.new_list (s := s) (Reps.append hr hr') al⟩
theorem Reps.replicate {Z : List Addr} {h : Heap} {v : Value} (r : Rep Z h d v) : ∀ n, Reps Z h (List.replicate n d) (List.replicate n v)
  | 0 => rfl
  | n + 1 => Reps.cons r (Reps.replicate r n)
theorem o_mulL {n : Int} (hn : n ≤ 100000) (h0 : -100000 ≤ n) : Op2 prog w k .Mult (.list [d]) (.int n) (.list (List.replicate n.toNat d)) := fun A Z s v u R al r ⟨t, e⟩ => by
  subst e
  obtain ⟨a, vs, rfl, hn', ⟨m, hl⟩, ⟨x, rest, rfl, rx, rr⟩⟩ := r
  cases rr
  refine wpAny_binaryOp_repeat_ref (T := "list") (U := "int") (by decide) ⟨_, hl, rfl⟩ (fun s' => typeIs_int s' n t) noFill_list_mul F.fills_int_mul F.slot_int_rmul repeat_list F.slot_int_index.lookup
    (call_meets F.slot_int_rmul (typeIs_int s n t) F.entry_int_rmul (F.args_int_rmul_2 _ _) (int___rmul___int_list n t a _ m)
      ⟨hl, rfl, ⟨_, hl, rfl⟩, call_meets F.slot_list_mul ⟨_, hl, rfl⟩ F.entry_list_mul (F.args_list_mul_2 _ _)
        (AutoListH.list___mul___list_int_3 a _ m n t (by simp [Builtin.List.listFitsIndex]; omega) (by simp; omega) (by simp [Builtin.List.listTooLong, sizeLine]; omega))
        ⟨hl, ?_⟩⟩)
  have e : List.foldl (fun x1 x2 => x1 ++ x2) #[] (List.replicate (if ([x] : List Value).toArray.isEmpty = true then 0 else n.toNat) [x].toArray) = (List.replicate n.toNat x).toArray := by
    rw [if_neg (by simp), listMul_foldl]
    simp
  rw [e]
  exact ⟨.push, Rep.new_list (s := s) (Reps.replicate rx _) al⟩

theorem part_of {Z : List Addr} {h : Heap} {b : D} {x : Value} {i : Option Int} (p : Part b i) (r : Rep Z h b x) : IsPart x i := by
  cases i with
  | none => cases p; cases r; exact .none
  | some j => cases p; obtain ⟨t, rfl⟩ := r; exact .int j t
theorem cut_list {lo hi st : Option Int} (hst : st ≠ some 0) {out : List D} (hsz : ds.length ≤ 1000000)
    (h : ∀ (Z : List Addr) (h : Heap) (vs : List Value), Reps Z h ds vs → Reps Z h out (slicePick vs.toArray lo hi st).toList) : Cut prog w k (.list ds) lo hi st (.list out) := fun A Z s v u R al r hu => by
  obtain ⟨sl, b, c, x, y, z, rfl, hs, pb, pc, rb, rc, e, pe, re⟩ := hu
  obtain ⟨a, vs, rfl, hn, hl, hr⟩ := r
  have el := hr.length
  refine ⟨"list", "list.__getitem__", PySem.list_getitem_lookup, hl.isList.typeIs, ?_⟩
  refine wpAny_getItem_list_slice hl.isList ⟨_, hs, rfl, rfl⟩ (part_of pb rb) (part_of pc rc) (part_of pe re) hst ?_ (by simp; unfold sizeLine; omega)
  have := Rep.new_list (s := s) (h Z s.heap vs hr) al
  simp only [Array.toArray_toList] at this
  exact ⟨.push, this⟩
theorem pick_nat (items : Array Value) {lo hi : Option Int} {a b : Nat} (e : sliceBounds lo hi none items.size = ((a : Int), (b : Int), 1)) : (slicePick items lo hi none).toList = (items.toList.drop a).take (b - a) := by
  rw [PySem.W.kmk_pick_nat items e]
theorem bounds_to (n m : Nat) : sliceBounds none (some (n : Int)) none m = (((0 : Nat) : Int), ((min n m : Nat) : Int), 1) := by
  have h1 : ¬ ((n : Int) < 0) := by omega
  simp only [sliceBounds, Option.getD_none, h1, if_false]
  simp; omega
theorem bounds_from (n m : Nat) : sliceBounds (some (n : Int)) none none m = (((min n m : Nat) : Int), ((m : Nat) : Int), 1) := by
  have h1 : ¬ ((n : Int) < 0) := by omega
  simp only [sliceBounds, Option.getD_none, h1, if_false]
  simp; omega
theorem bounds_init (m : Nat) : sliceBounds none (some (-1)) none m = (((0 : Nat) : Int), ((m - 1 : Nat) : Int), 1) := by
  have h1 : ((-1 : Int) < 0) := by omega
  simp only [sliceBounds, Option.getD_none, h1, if_true]
  simp; omega
theorem cut_to (n : Nat) (hsz : ds.length ≤ 1000000) : Cut prog w k (.list ds) none (some (n : Int)) none (.list (ds.take n)) := cut_list (by simp) hsz fun Z h vs hr => by
  rw [pick_nat vs.toArray (bounds_to n _)]
  have : (List.drop 0 vs).take (min n vs.length - 0) = vs.take n := by simp [List.take_eq_take_iff]
  simp only [List.size_toArray]
  rw [this]; exact hr.take n
theorem cut_from (n : Nat) (hsz : ds.length ≤ 1000000) : Cut prog w k (.list ds) (some (n : Int)) none none (.list (ds.drop n)) := cut_list (by simp) hsz fun Z h vs hr => by
  rw [pick_nat vs.toArray (bounds_from n _)]
  have : (vs.drop (min n vs.length)).take (vs.length - min n vs.length) = vs.drop n := by
    by_cases h : n ≤ vs.length
    · rw [Nat.min_eq_left h]; rw [List.take_of_length_le (by simp)]
    · rw [Nat.min_eq_right (by omega)]; simp; omega
  simp only [List.size_toArray]
  rw [this]; exact hr.drop n
theorem cut_init (hsz : ds.length ≤ 1000000) : Cut prog w k (.list ds) none (some (-1)) none (.list ds.dropLast) := cut_list (by simp) hsz fun Z h vs hr => by
  rw [pick_nat vs.toArray (bounds_init _)]
  have : (List.drop 0 vs).take (vs.length - 1 - 0) = vs.take (vs.length - 1) := by simp
  simp only [List.size_toArray]
  rw [this, hr.length, List.dropLast_eq_take]; exact hr.take _
theorem cut_rev (hsz : ds.length ≤ 1000000) : Cut prog w k (.list ds) none none (some (-1)) (.list ds.reverse) := cut_list (by simp) hsz fun Z h vs hr => by
  rw [PySem.W.krv_pick]; simpa using hr.reverse
end
end Mine
end
section
open PySem PyProof.Rows PySem.SeqAt
set_option maxRecDepth 100000
set_option linter.unusedVariables false
namespace Mine

/-- equality of data of one kind: f tells the datum; u: the room -/
structure Eqs {α : Type} [DecidableEq α] (f : α → D) (u : Nat) : Prop where
  eq : ∀ {A : Around} {Z : List Addr} {s : Shared} {x y : α} {v v' : Value}, A.units + u < cLine → Rep Z s.heap (f x) v → Rep Z s.heap (f y) v' → EqAt A s v v' (decide (x = y))
  inj : ∀ {Z : List Addr} {h : Heap} {x y : α} {v : Value}, Rep Z h (f x) v → Rep Z h (f y) v → x = y

theorem Eqs.txt {o : Bool} : Eqs (fun x : List Nat => D.txt o x) 0 where
  eq := fun {A Z s x y v v'} hu r r' => by
    cases o
    · obtain ⟨t, rfl⟩ := r; obtain ⟨t', rfl⟩ := r'
      have := EqAt.str_str (A := A) (s := s) ⟨x.toArray⟩ t ⟨y.toArray⟩ t'
      have e : ((Str.mk x.toArray) == ⟨y.toArray⟩) = decide (x = y) := by
        by_cases h : x = y
        · subst h; simp
        · rw [decide_eq_false h, beq_eq_false_iff_ne]; intro e; injection e with e; exact h (by simpa using e)
      rw [e] at this; exact this
    · obtain ⟨b, t, rfl, rfl⟩ := r; obtain ⟨c, t', rfl, rfl⟩ := r'
      intro prog w E Q hq
      refine W.eqBool_bytes ?_
      have e : decide (b.toList = c.toList) = decide (b.toList.map UInt8.toNat = c.toList.map UInt8.toNat) := by
        by_cases h : b.toList = c.toList
        · rw [h]; simp
        · rw [decide_eq_false h, decide_eq_false fun e => h (toNat_inj e)]
      rw [e]; exact hq
  inj := fun {Z h x y v} r r' => by
    cases o
    · obtain ⟨t, rfl⟩ := r; obtain ⟨t', e⟩ := r'
      injection e with e _; injection e with e; simpa using e
    · obtain ⟨b, t, rfl, rfl⟩ := r; obtain ⟨c, t', e, rfl⟩ := r'
      injection e with e _; rw [e]

section
variable {α : Type} [DecidableEq α] {f : α → D} {u : Nat}
theorem Eqs.injs (E : Eqs f u) {Z : List Addr} {h : Heap} : ∀ {X Y : List α} {vs : List Value}, Reps Z h (X.map f) vs → Reps Z h (Y.map f) vs → X = Y
  | [], [], _, _, _ => rfl
  | [], _ :: _, _, r, ⟨_, _, e, _, _⟩ => by cases r; cases e
  | _ :: _, [], _, ⟨_, _, e, _, _⟩, r => by cases r; cases e
  | x :: X, y :: Y, _, ⟨v, rest, rfl, a, b⟩, ⟨v', rest', e, a', b'⟩ => by
    cases e; rw [E.inj a a', E.injs b b']

theorem all_eq {β : Type} [DecidableEq β] : ∀ {X Y : List β}, X.length = Y.length → ((List.range X.length).all fun j => decide (X[j]? = Y[j]?)) = decide (X = Y) := fun {X Y} hl => by
  by_cases h : X = Y
  · subst h; simp
  · rw [decide_eq_false h]
    have : ∃ j, j < X.length ∧ X[j]? ≠ Y[j]? := by
      refine Classical.byContradiction fun q => h ?_
      refine List.ext_getElem? fun j => ?_
      by_cases hj : j < X.length
      · exact Classical.byContradiction fun q' => q ⟨j, hj, q'⟩
      · rw [List.getElem?_eq_none (by omega), List.getElem?_eq_none (by omega)]
    obtain ⟨j, hj, hne⟩ := this
    rw [Bool.eq_false_iff]
    intro q
    have := List.all_eq_true.mp q j (by simpa using hj)
    exact hne (by simpa using this)

section
variable {A : Around} {Z : List Addr} {s : Shared} {X Y : List α} {vs ws : List Value}
theorem Eqs.items (E : Eqs f u) (hu : A.units + u < cLine) (r : Reps Z s.heap (X.map f) vs) (r' : Reps Z s.heap (Y.map f) ws) :
    ∀ j (h1 : j < (List.toArray vs).size) (h2 : j < (List.toArray ws).size), EqAt A s (List.toArray vs)[j] (List.toArray ws)[j] (decide (X[j]? = Y[j]?)) := fun j h1 h2 => by
  have l1 := r.length; have l2 := r'.length
  simp at h1 h2 l1 l2
  have hx : X[j]? = some X[j] := List.getElem?_eq_getElem (by omega)
  have hy : Y[j]? = some Y[j] := List.getElem?_eq_getElem (by omega)
  obtain ⟨v, hv, rv⟩ := r.get (i := j) (d := f X[j]) (by rw [List.getElem?_map, hx]; rfl)
  obtain ⟨v', hv', rv'⟩ := r'.get (i := j) (d := f Y[j]) (by rw [List.getElem?_map, hy]; rfl)
  have e1 : (List.toArray vs)[j] = v := by
    have := List.getElem?_eq_getElem (l := vs) h1; rw [this] at hv; simpa using hv
  have e2 : (List.toArray ws)[j] = v' := by
    have := List.getElem?_eq_getElem (l := ws) h2; rw [this] at hv'; simpa using hv'
  rw [e1, e2, hx, hy]
  have := E.eq hu rv rv'
  simpa using this
theorem Eqs.rc (E : Eqs f u) {v v' : Value} (hu : A.units + (u + 1) < cLine) (r : Rep Z s.heap (.list (X.map f)) v) (r' : Rep Z s.heap (.list (Y.map f)) v') : RcAt A s v v' (decide (X = Y)) := by
  obtain ⟨a, vs, rfl, _, hl, hr⟩ := r
  obtain ⟨b, ws, rfl, _, hl', hr'⟩ := r'
  have l1 := hr.length; have l2 := hr'.length
  simp at l1 l2
  by_cases h : X.length = Y.length
  · have := RcAt.lists hl.isList hl'.isList (by simp [l1, l2, h]) (by omega) (E.items (A := A.in1) (by simp; omega) hr hr')
    rw [show (List.toArray vs).size = X.length by simp [l1], all_eq h] at this
    exact this
  · have := RcAt.lists_lengths (A := A) hl.isList hl'.isList (by simp [l1, l2, h]) (by omega)
    rw [decide_eq_false fun e => h (by rw [e])]; exact this
theorem Eqs.rcNe (E : Eqs f u) {v v' : Value} (hu : A.units + (u + 1) < cLine) (r : Rep Z s.heap (.list (X.map f)) v) (r' : Rep Z s.heap (.list (Y.map f)) v') : RcNeAt A s v v' (!decide (X = Y)) := by
  obtain ⟨a, vs, rfl, _, hl, hr⟩ := r
  obtain ⟨b, ws, rfl, _, hl', hr'⟩ := r'
  have l1 := hr.length; have l2 := hr'.length
  simp at l1 l2
  by_cases h : X.length = Y.length
  · have := RcNeAt.lists hl.isList hl'.isList (by simp [l1, l2, h]) (by omega) (E.items (A := A.in1) (by simp; omega) hr hr')
    rw [show (List.toArray vs).size = X.length by simp [l1], all_eq h] at this
    exact this
  · have := RcNeAt.lists_lengths (A := A) hl.isList hl'.isList (by simp [l1, l2, h]) (by omega)
    rw [decide_eq_false fun e => h (by rw [e])]; exact this
end
theorem Eqs.list (E : Eqs f u) : Eqs (fun X : List α => D.list (X.map f)) (u + 1) where
  eq := fun {A Z s x y v v'} hu r r' => by
    have q := E.rc hu r r'
    obtain ⟨a, vs, rfl, _, hl, hr⟩ := id r
    obtain ⟨b, ws, rfl, _, hl', hr'⟩ := id r'
    by_cases h : a = b
    · subst h
      obtain ⟨n, e⟩ := hl; obtain ⟨m, e'⟩ := hl'
      rw [e] at e'; simp at e'
      rw [e'.1] at hr
      rw [E.injs hr hr']
      have := EqAt.same (A := A) (s := s) (.ref a)
      simpa using this
    · exact EqAt.of_refs h q
  inj := fun {Z h x y v} r r' => by
    obtain ⟨a, vs, rfl, _, ⟨n, e⟩, hr⟩ := r
    obtain ⟨b, ws, q, _, ⟨m, e'⟩, hr'⟩ := r'
    cases q
    rw [e] at e'; simp at e'
    rw [e'.1] at hr
    exact E.injs hr hr'
section
variable {prog : Program} {w : World} {k : Nat} {X Y : List α}
theorem c_eqL (E : Eqs f u) (hu : u ≤ 50) : Cmp prog w k .Eq (.list (X.map f)) (.list (Y.map f)) (decide (X = Y)) := fun A Z s v v' R al r r' =>
  E.rc (by have := R.line64; omega) r r' prog w _ _ ⟨.refl, rfl⟩
theorem c_neL (E : Eqs f u) (hu : u ≤ 50) : Cmp prog w k .NotEq (.list (X.map f)) (.list (Y.map f)) (!decide (X = Y)) := fun A Z s v v' R al r r' =>
  E.rcNe (by have := R.line64; omega) r r' prog w _ _ ⟨.refl, rfl⟩
end
end
section
variable {prog : Program} {w : World} {k : Nat} {ds : List D}
theorem c_eqNil : Cmp prog w k .Eq (.list ds) (.list []) ds.isEmpty := fun A Z s v v' R al r r' => by
  obtain ⟨a, vs, rfl, _, hl, hr⟩ := r
  obtain ⟨b, ws, rfl, _, hl', hr'⟩ := r'
  cases hr'
  have l1 := hr.length
  have hu := R.line
  cases vs with
  | nil =>
    have h0 : ds = [] := by cases ds <;> simp_all
    subst h0
    exact RcAt.lists (e := fun _ => true) hl.isList hl'.isList rfl hu (fun j h1 => by simp at h1) prog w _ _ ⟨.refl, rfl⟩
  | cons v vs =>
    have h0 : ds.isEmpty = false := by cases ds <;> simp_all
    rw [h0]
    exact RcAt.lists_lengths hl.isList hl'.isList (by simp) hu prog w _ _ ⟨.refl, rfl⟩
theorem c_neNil : Cmp prog w k .NotEq (.list ds) (.list []) (!ds.isEmpty) := fun A Z s v v' R al r r' => by
  obtain ⟨a, vs, rfl, _, hl, hr⟩ := r
  obtain ⟨b, ws, rfl, _, hl', hr'⟩ := r'
  cases hr'
  have l1 := hr.length
  have hu := R.line
  cases vs with
  | nil =>
    have h0 : ds = [] := by cases ds <;> simp_all
    subst h0
    exact RcNeAt.lists (e := fun _ => true) hl.isList hl'.isList rfl hu (fun j h1 => by simp at h1) prog w _ _ ⟨.refl, rfl⟩
  | cons v vs =>
    have h0 : ds.isEmpty = false := by cases ds <;> simp_all
    rw [h0]
    exact RcNeAt.lists_lengths hl.isList hl'.isList (by simp) hu prog w _ _ ⟨.refl, rfl⟩
/-- a text in a tuple of texts -/
theorem c_notInT {o : Bool} {x : List Nat} {X : List (List Nat)} : Cmp prog w k .NotIn (.txt o x) (.tup (txts o X)) (!X.contains x) := fun A Z s v v' R al r r' => by
  obtain ⟨a, vs, rfl, _, hl, hr⟩ := r'
  let f : Value → Bool := fun y => match y with
    | .str y _ => decide (y.cps.toList = x)
    | .bytes y _ => decide (y.toList.map UInt8.toNat = x)
    | _ => false
  have key : ∀ (X : List (List Nat)) (vs : List Value), Reps Z s.heap (txts o X) vs → (∀ y ∈ vs, EqAt A.in1 s y v (f y)) ∧ vs.any f = X.contains x := by
    intro X
    induction X with
    | nil => intro vs h; cases h; simp
    | cons p X ih =>
      rintro vs ⟨y, rest, rfl, ry, rr⟩
      obtain ⟨h1, h2⟩ := ih rest rr
      have hf : f y = decide (p = x) := by
        cases o
        · obtain ⟨t, rfl⟩ := ry; rfl
        · obtain ⟨b, t, rfl, rfl⟩ := ry; rfl
      refine ⟨fun z hz => ?_, ?_⟩
      · rcases List.mem_cons.mp hz with rfl | hz
        · rw [hf]; exact Eqs.txt.eq (by have := R.line64; simp; omega) ry r
        · exact h1 z hz
      · rw [List.any_cons, h2, hf, List.contains_cons]
        congr 1
        by_cases q : p = x
        · subst q; simp
        · rw [decide_eq_false q, beq_eq_false_iff_ne.mpr (Ne.symm q)]
  obtain ⟨h1, h2⟩ := key X vs hr
  refine notIn_tupleAt f hl.isTuple (fun y hy => h1 y (by simpa using hy)) ⟨.refl, ?_⟩
  show _ = _
  congr 2
  simpa using h2
end
end Mine
end
section
open PySem PyProof.Rows PySem.SeqAt
set_option maxRecDepth 100000
set_option linter.unusedVariables false
namespace Mine
open Builtin

/-- lists of texts in order -/
def ltLL : List (List Nat) → List (List Nat) → Bool
  | _, [] => false
  | [], _ :: _ => true
  | x :: xs, y :: ys => if x = y then ltLL xs ys else decide (x < y)

theorem slot_bytes_lt : Slot "bytes" (cmpInfo .Lt).2.1 "bytes.__lt__" :=
  .of (owner := "bytes") (n := "__lt__") (by rw [typeLookup_type, builtinLookup_eq_fast]; kernel_rfl) (by decide +kernel) (by decide +kernel) (by decide +kernel)
    (by first | exact .inl (by decide +kernel) | exact .inr (by decide +kernel)) (by rw [isSubtype_type]; kernel_rfl)
theorem slot_bytes_gt : Slot "bytes" (cmpInfo .Gt).2.1 "bytes.__gt__" :=
  .of (owner := "bytes") (n := "__gt__") (by rw [typeLookup_type, builtinLookup_eq_fast]; kernel_rfl) (by decide +kernel) (by decide +kernel) (by decide +kernel)
    (by first | exact .inl (by decide +kernel) | exact .inr (by decide +kernel)) (by rw [isSubtype_type]; kernel_rfl)
theorem entry_bytes_lt : entryFor table "bytes.__lt__" = some Builtin.«bytes.__lt__» := entryFor_of_tree (by kernel_rfl)
theorem entry_bytes_gt : entryFor table "bytes.__gt__" = some Builtin.«bytes.__gt__» := entryFor_of_tree (by kernel_rfl)
theorem args_bytes_lt (a b : Value) : argsOk "bytes.__lt__" ⟨[a, b], []⟩ := by unfold argsOk; kernel_rfl
theorem args_bytes_gt (a b : Value) : argsOk "bytes.__gt__" ⟨[a, b], []⟩ := by unfold argsOk; kernel_rfl

theorem order_lt : ∀ (a b : List UInt8), (Bytes.order a b == .lt) = decide (a.map UInt8.toNat < b.map UInt8.toNat)
  | [], [] => by simp [Bytes.order]
  | [], _ :: _ => by simp [Bytes.order]
  | _ :: _, [] => by simp [Bytes.order]
  | x :: a, y :: b => by
    have ih := order_lt a b
    rw [Bytes.order, List.map_cons, List.map_cons]
    by_cases h : x < y
    · rw [if_pos h]
      have h' : x.toNat < y.toNat := h
      simp [List.cons_lt_cons_iff, h']
    · rw [if_neg h]
      have h' : ¬ x.toNat < y.toNat := h
      by_cases g : y < x
      · rw [if_pos g]
        have g' : y.toNat < x.toNat := g
        have e : ¬ x.toNat = y.toNat := by omega
        simp [List.cons_lt_cons_iff, h', e]
      · rw [if_neg g, ih]
        have g' : ¬ y.toNat < x.toNat := g
        have e : x.toNat = y.toNat := by omega
        simp [List.cons_lt_cons_iff, e]
theorem order_gt : ∀ (a b : List UInt8), (Bytes.order a b == .gt) = decide (b.map UInt8.toNat < a.map UInt8.toNat)
  | [], [] => by simp [Bytes.order]
  | [], _ :: _ => by simp [Bytes.order]
  | _ :: _, [] => by simp [Bytes.order]
  | x :: a, y :: b => by
    have ih := order_gt a b
    rw [Bytes.order, List.map_cons, List.map_cons]
    by_cases h : x < y
    · rw [if_pos h]
      have h' : x.toNat < y.toNat := h
      have e : ¬ y.toNat = x.toNat := by omega
      have e2 : ¬ y.toNat < x.toNat := by omega
      simp [List.cons_lt_cons_iff, e, e2]
    · rw [if_neg h]
      have h' : ¬ x.toNat < y.toNat := h
      by_cases g : y < x
      · rw [if_pos g]
        have g' : y.toNat < x.toNat := g
        simp [List.cons_lt_cons_iff, g']
      · rw [if_neg g, ih]
        have g' : ¬ y.toNat < x.toNat := g
        have e : x.toNat = y.toNat := by omega
        simp [List.cons_lt_cons_iff, e]

theorem gives_bytes_lt (b c : Array UInt8) (t u : Tok) : PySem.Gives («bytes.__lt__» ⟨[.bytes b t, .bytes c u], []⟩) (.val (.bool (decide (b.toList.map UInt8.toNat < c.toList.map UInt8.toNat)))) := by
  refine .of_wp fun M A E s Q hq => ?_
  show wpAny M A (isInstance (.bytes c u) (.type "bytes") >>= fun r => _) _ E s
  refine wpAny_bind (wpAny_isInstance (W.typeIs_bytes s c u) PySem.F.bm_sub ?_)
  exact wpAny_pure ⟨_, rfl, by rw [← order_lt] at hq; exact hq⟩
theorem gives_bytes_gt (b c : Array UInt8) (t u : Tok) : PySem.Gives («bytes.__gt__» ⟨[.bytes b t, .bytes c u], []⟩) (.val (.bool (decide (c.toList.map UInt8.toNat < b.toList.map UInt8.toNat)))) := by
  refine .of_wp fun M A E s Q hq => ?_
  show wpAny M A (isInstance (.bytes c u) (.type "bytes") >>= fun r => _) _ E s
  refine wpAny_bind (wpAny_isInstance (W.typeIs_bytes s c u) PySem.F.bm_sub ?_)
  exact wpAny_pure ⟨_, rfl, by rw [← order_gt] at hq; exact hq⟩

section
variable {prog : Program} {w : World} {A : Around} {E : Value → Shared → Prop} {s : Shared} {Z : List Addr} {o : Bool} {a b : List Nat} {v u : Value} {Q : Value → Shared → Prop}
theorem rc_ltT (r : Rep Z s.heap (.txt o a) v) (r' : Rep Z s.heap (.txt o b) u) (h : Q (.bool (decide (a < b))) s) : wpAny (model prog w) A (richCompare .Lt v u) Q E s := by
  cases o
  · obtain ⟨t, rfl⟩ := r; obtain ⟨t', rfl⟩ := r'
    exact richCompare_gives (op := .Lt) (typeIs_str s _ t) (typeIs_str s _ t') F.slot_str_lt F.entry_str_lt (F.args_str_lt_2 _ _) (gives_str_lt _ _ t t') (fun e => nomatch e) h
  · obtain ⟨x, t, rfl, rfl⟩ := r; obtain ⟨y, t', rfl, rfl⟩ := r'
    exact richCompare_gives (op := .Lt) (W.typeIs_bytes s _ t) (W.typeIs_bytes s _ t') slot_bytes_lt entry_bytes_lt (args_bytes_lt _ _) (gives_bytes_lt _ _ t t') (fun e => nomatch e) h
theorem rc_gtT (r : Rep Z s.heap (.txt o a) v) (r' : Rep Z s.heap (.txt o b) u) (h : Q (.bool (decide (b < a))) s) : wpAny (model prog w) A (richCompare .Gt v u) Q E s := by
  cases o
  · obtain ⟨t, rfl⟩ := r; obtain ⟨t', rfl⟩ := r'
    exact richCompare_gives (op := .Gt) (typeIs_str s _ t) (typeIs_str s _ t') F.slot_str_gt F.entry_str_gt (F.args_str_gt_2 _ _) (gives_str_gt _ _ t t') (fun e => nomatch e) h
  · obtain ⟨x, t, rfl, rfl⟩ := r; obtain ⟨y, t', rfl, rfl⟩ := r'
    exact richCompare_gives (op := .Gt) (W.typeIs_bytes s _ t) (W.typeIs_bytes s _ t') slot_bytes_gt entry_bytes_gt (args_bytes_gt _ _) (gives_bytes_gt _ _ t t') (fun e => nomatch e) h
end

open AutoSeq1 (wpAny_loadPart')
open MeetsSeq MeetsSeq2 MeetsSeq3 SeqRoads2
/-- a rich comparison of two values that gives b -/
def RoAt (A : Around) (s : Shared) (op : CmpOp) (y x : Value) (b : Bool) : Prop :=
  ∀ (prog : Program) (w : World) (E : Value → Shared → Prop) (Q : Value → Shared → Prop), Q (.bool b) s → wpAny (model prog w) A (richCompare op y x) Q E s

theorem lt_loop (l b : Addr) (items items2 : Array Value) (n n2 : Nat) (e c res : Nat → Bool) (hres : ∀ i, i < items.size → i < items2.size → res i = if e i then res (i + 1) else c i)
    (hend : ∀ i, i ≤ items.size → i ≤ items2.size → (i = items.size ∨ i = items2.size) → res i = decide (items.size < items2.size)) (k : Nat) :
    ∀ i : Nat, items.size - i = k → i ≤ items.size → i ≤ items2.size → Meets (Builtin.«list.__eq__.loop» ⟨[.ref l, .ref b, rawInt i, rawInt 0], []⟩)
      (fun A R s => s.heap.get? l = some { cls := .type "list", data := .seq items n } ∧ s.heap.get? b = some { cls := .type "list", data := .seq items2 n2 } ∧
        (∀ j (h1 : j < items.size) (h2 : j < items2.size), EqAt A.in1 s items[j] items2[j] (e j)) ∧ (∀ j (h1 : j < items.size) (h2 : j < items2.size), RoAt A.in1 s .Lt items[j] items2[j] (c j)) ∧
        R (.ok (.ret (.bool (res i)))) s) := by
  induction k with
  | zero =>
    intro i hk hi1' hi2' prog w A R s h
    obtain ⟨hp, g, d, tk, os⟩ := s; obtain ⟨hl, hb, he, hc, h⟩ := h
    wp_walk using wpAny_loadPart' hl, wpAny_loadPart' hb
    have hi1 : items[((i : Nat) : Int).toNat]? = none := by simp; omega
    rw [hi1]
    rw [hend i hi1' hi2' (.inl (by omega))] at h
    wp_walk using wpAny_loadPart' hl, wpAny_loadPart' hb
    exact h
  | succ k ih =>
    intro i hk hi1' hi2' prog w A R s h
    obtain ⟨hp, g, d, tk, os⟩ := s; obtain ⟨hl, hb, he, hc, h⟩ := h
    wp_walk using wpAny_loadPart' hl, wpAny_loadPart' hb
    have hlt : i < items.size := by omega
    have hi1 : items[((i : Nat) : Int).toNat]? = some items[i] := by simp [hlt]
    by_cases hlt2 : i < items2.size
    · have hi2 : items2[((i : Nat) : Int).toNat]? = some items2[i] := by simp [hlt2]
      have hcc : ((i : Int) + 1) = ((i + 1 : Nat) : Int) := by push_cast; rfl
      rw [hi1, hi2]
      refine wpAny_bind (he i hlt hlt2 prog w _ _ ?_)
      rw [hres i hlt hlt2] at h
      cases hb' : e i with
      | true =>
        rw [hb'] at h
        wp_walk
        rw [hcc]
        exact ⟨plainId_quiet plain_eq_loop _, codeAny_builtin entry_eq_loop (by
          rw [Around.under_plainId plain_eq_loop _]
          exact ih (i + 1) (by omega) (by omega) (by omega) prog w A R _ ⟨hl, hb, he, hc, by simpa using h⟩)⟩
      | false =>
        rw [hb'] at h
        wp_walk using wpAny_loadPart' hl, wpAny_loadPart' hb
        rw [hi1, hi2]
        refine wpAny_bind (hc i hlt hlt2 prog w _ _ (wpAny_pure ?_))
        simpa using h
    · have hi2 : items2[((i : Nat) : Int).toNat]? = none := by simp; omega
      rw [hi1, hi2]
      rw [hend i hi1' hi2' (.inr (by omega))] at h
      wp_walk using wpAny_loadPart' hl, wpAny_loadPart' hb
      exact h
theorem gt_loop (l b : Addr) (items items2 : Array Value) (n n2 : Nat) (e c res : Nat → Bool) (hres : ∀ i, i < items.size → i < items2.size → res i = if e i then res (i + 1) else c i)
    (hend : ∀ i, i ≤ items.size → i ≤ items2.size → (i = items.size ∨ i = items2.size) → res i = decide (items.size > items2.size)) (k : Nat) :
    ∀ i : Nat, items.size - i = k → i ≤ items.size → i ≤ items2.size → Meets (Builtin.«list.__eq__.loop» ⟨[.ref l, .ref b, rawInt i, rawInt 4], []⟩)
      (fun A R s => s.heap.get? l = some { cls := .type "list", data := .seq items n } ∧ s.heap.get? b = some { cls := .type "list", data := .seq items2 n2 } ∧
        (∀ j (h1 : j < items.size) (h2 : j < items2.size), EqAt A.in1 s items[j] items2[j] (e j)) ∧ (∀ j (h1 : j < items.size) (h2 : j < items2.size), RoAt A.in1 s .Gt items[j] items2[j] (c j)) ∧
        R (.ok (.ret (.bool (res i)))) s) := by
  induction k with
  | zero =>
    intro i hk hi1' hi2' prog w A R s h
    obtain ⟨hp, g, d, tk, os⟩ := s; obtain ⟨hl, hb, he, hc, h⟩ := h
    wp_walk using wpAny_loadPart' hl, wpAny_loadPart' hb
    have hi1 : items[((i : Nat) : Int).toNat]? = none := by simp; omega
    rw [hi1]
    rw [hend i hi1' hi2' (.inl (by omega))] at h
    wp_walk using wpAny_loadPart' hl, wpAny_loadPart' hb
    exact h
  | succ k ih =>
    intro i hk hi1' hi2' prog w A R s h
    obtain ⟨hp, g, d, tk, os⟩ := s; obtain ⟨hl, hb, he, hc, h⟩ := h
    wp_walk using wpAny_loadPart' hl, wpAny_loadPart' hb
    have hlt : i < items.size := by omega
    have hi1 : items[((i : Nat) : Int).toNat]? = some items[i] := by simp [hlt]
    by_cases hlt2 : i < items2.size
    · have hi2 : items2[((i : Nat) : Int).toNat]? = some items2[i] := by simp [hlt2]
      have hcc : ((i : Int) + 1) = ((i + 1 : Nat) : Int) := by push_cast; rfl
      rw [hi1, hi2]
      refine wpAny_bind (he i hlt hlt2 prog w _ _ ?_)
      rw [hres i hlt hlt2] at h
      cases hb' : e i with
      | true =>
        rw [hb'] at h
        wp_walk
        rw [hcc]
        exact ⟨plainId_quiet plain_eq_loop _, codeAny_builtin entry_eq_loop (by
          rw [Around.under_plainId plain_eq_loop _]
          exact ih (i + 1) (by omega) (by omega) (by omega) prog w A R _ ⟨hl, hb, he, hc, by simpa using h⟩)⟩
      | false =>
        rw [hb'] at h
        wp_walk using wpAny_loadPart' hl, wpAny_loadPart' hb
        rw [hi1, hi2]
        refine wpAny_bind (hc i hlt hlt2 prog w _ _ (wpAny_pure ?_))
        simpa using h
    · have hi2 : items2[((i : Nat) : Int).toNat]? = none := by simp; omega
      rw [hi1, hi2]
      rw [hend i hi1' hi2' (.inr (by omega))] at h
      wp_walk using wpAny_loadPart' hl, wpAny_loadPart' hb
      exact h

theorem ltLL_drop {X Y : List (List Nat)} {i : Nat} (h1 : i < X.length) (h2 : i < Y.length) : ltLL (X.drop i) (Y.drop i) = if decide (X[i]? = Y[i]?) then ltLL (X.drop (i + 1)) (Y.drop (i + 1)) else decide (X[i] < Y[i]) := by
  rw [List.drop_eq_getElem_cons h1, List.drop_eq_getElem_cons h2, ltLL]
  simp [h1, h2]
theorem ltLL_end {X Y : List (List Nat)} {i : Nat} (h1 : i ≤ X.length) (h2 : i ≤ Y.length) (h : i = X.length ∨ i = Y.length) : ltLL (X.drop i) (Y.drop i) = decide (X.length < Y.length) := by
  rcases h with rfl | rfl
  · rw [List.drop_length]
    by_cases q : X.length < Y.length
    · rw [List.drop_eq_getElem_cons q, ltLL, decide_eq_true q]
    · have : Y.length = X.length := by omega
      rw [← this, List.drop_length, ltLL]; simp
  · rw [List.drop_length]
    have : ¬ X.length < Y.length := by omega
    rw [decide_eq_false this]
    cases X.drop Y.length <;> rfl

section
variable {A : Around} {Z : List Addr} {s : Shared} {o : Bool} {X Y : List (List Nat)} {v v' : Value}
theorem item_of {vs : List Value} (r : Reps Z s.heap (txts o X) vs) {j : Nat} (h1 : j < (List.toArray vs).size) (h2 : j < X.length) : Rep Z s.heap (.txt o X[j]) (List.toArray vs)[j] := by
  have hx : X[j]? = some X[j] := List.getElem?_eq_getElem h2
  obtain ⟨v, hv, rv⟩ := r.get (i := j) (d := .txt o X[j]) (by rw [txts, List.getElem?_map, hx]; rfl)
  have h1' : j < vs.length := by simpa using h1
  have e1 : (List.toArray vs)[j] = v := by
    have := List.getElem?_eq_getElem (l := vs) h1'; rw [this] at hv; simpa using hv
  rw [e1]; exact rv
theorem ro_lt (hu : A.units + 8 < cLine) (r : Rep Z s.heap (.list (txts o X)) v) (r' : Rep Z s.heap (.list (txts o Y)) v') : RoAt A s .Lt v v' (ltLL X Y) := by
  obtain ⟨a, vs, rfl, _, ⟨n, hl⟩, hr⟩ := r
  obtain ⟨b, ws, rfl, _, ⟨n', hl'⟩, hr'⟩ := r'
  have l1 := hr.length; have l2 := hr'.length
  simp [txts] at l1 l2
  intro prog w E Q hq
  refine richCompare_meets_room (op := .Lt) ⟨_, hl, rfl⟩ ⟨_, hl', rfl⟩ F.slot_list_lt F.entry_list_lt (F.args_list_lt_2 _ _) (S := fun A R s => s.heap.get? a = some { cls := .type "list", data := .seq (List.toArray vs) n } ∧ s.heap.get? b = some { cls := .type "list", data := .seq (List.toArray ws) n' } ∧
        (∀ j (h1 : j < (List.toArray vs).size) (h2 : j < (List.toArray ws).size), EqAt A.in1 s (List.toArray vs)[j] (List.toArray ws)[j] (decide (X[j]? = Y[j]?))) ∧ (∀ j (h1 : j < (List.toArray vs).size) (h2 : j < (List.toArray ws).size), RoAt A.in1 s .Lt (List.toArray vs)[j] (List.toArray ws)[j] (decide (X.getD j [] < Y.getD j []))) ∧
        R (.ok (.ret (.bool (ltLL X Y)))) s) ?_ ⟨hl, hl', ?_, ?_, ?_⟩ (by omega)
  · intro prog w A R s h
    obtain ⟨hp, g, d, tk, os⟩ := s; obtain ⟨hl, hb, he, hc, h⟩ := h
    have f3 := AutoSeq1.sub_list_list
    wp_walk using wpAny_loadPart' hl, wpAny_loadPart' hb
    refine ⟨plainId_quiet plain_eq_loop _, codeAny_builtin entry_eq_loop ?_⟩
    rw [Around.under_plainId plain_eq_loop _]
    refine lt_loop a b (List.toArray vs) (List.toArray ws) n n' (fun j => decide (X[j]? = Y[j]?)) (fun j => decide (X.getD j [] < Y.getD j [])) (fun i => ltLL (X.drop i) (Y.drop i)) (fun i h1 h2 => ?_) (fun i h1 h2 h3 => ?_) _ 0 rfl (Nat.zero_le _) (Nat.zero_le _) prog w A R _ ⟨hl, hb, he, hc, by simpa using h⟩
    · simp [l1, l2] at h1 h2
      rw [ltLL_drop h1 h2]; simp [h1, h2]
    · simp [l1, l2] at h1 h2 h3
      rw [ltLL_end h1 h2 h3]; simp [l1, l2]
  · exact Eqs.items (f := fun x : List Nat => D.txt o x) Eqs.txt (by simp; omega) hr hr'
  · intro j h1 h2 prog w E Q hq
    have h1' : j < X.length := by simpa [l1] using h1
    have h2' : j < Y.length := by simpa [l2] using h2
    refine rc_ltT (item_of hr h1 h1') (item_of hr' h2 h2') ?_
    simpa [h1', h2'] using hq
  · exact ⟨(fun x => nomatch x), hq⟩
theorem ro_gt (hu : A.units + 8 < cLine) (r : Rep Z s.heap (.list (txts o X)) v) (r' : Rep Z s.heap (.list (txts o Y)) v') : RoAt A s .Gt v v' (ltLL Y X) := by
  obtain ⟨a, vs, rfl, _, ⟨n, hl⟩, hr⟩ := r
  obtain ⟨b, ws, rfl, _, ⟨n', hl'⟩, hr'⟩ := r'
  have l1 := hr.length; have l2 := hr'.length
  simp [txts] at l1 l2
  intro prog w E Q hq
  refine richCompare_meets_room (op := .Gt) ⟨_, hl, rfl⟩ ⟨_, hl', rfl⟩ F.slot_list_gt F.entry_list_gt (F.args_list_gt_2 _ _) (S := fun A R s => s.heap.get? a = some { cls := .type "list", data := .seq (List.toArray vs) n } ∧ s.heap.get? b = some { cls := .type "list", data := .seq (List.toArray ws) n' } ∧
        (∀ j (h1 : j < (List.toArray vs).size) (h2 : j < (List.toArray ws).size), EqAt A.in1 s (List.toArray vs)[j] (List.toArray ws)[j] (decide (X[j]? = Y[j]?))) ∧ (∀ j (h1 : j < (List.toArray vs).size) (h2 : j < (List.toArray ws).size), RoAt A.in1 s .Gt (List.toArray vs)[j] (List.toArray ws)[j] (decide (Y.getD j [] < X.getD j []))) ∧
        R (.ok (.ret (.bool (ltLL Y X)))) s) ?_ ⟨hl, hl', ?_, ?_, ?_⟩ (by omega)
  · intro prog w A R s h
    obtain ⟨hp, g, d, tk, os⟩ := s; obtain ⟨hl, hb, he, hc, h⟩ := h
    have f3 := AutoSeq1.sub_list_list
    wp_walk using wpAny_loadPart' hl, wpAny_loadPart' hb
    refine ⟨plainId_quiet plain_eq_loop _, codeAny_builtin entry_eq_loop ?_⟩
    rw [Around.under_plainId plain_eq_loop _]
    refine gt_loop a b (List.toArray vs) (List.toArray ws) n n' (fun j => decide (X[j]? = Y[j]?)) (fun j => decide (Y.getD j [] < X.getD j [])) (fun i => ltLL (Y.drop i) (X.drop i)) (fun i h1 h2 => ?_) (fun i h1 h2 h3 => ?_) _ 0 rfl (Nat.zero_le _) (Nat.zero_le _) prog w A R _ ⟨hl, hb, he, hc, by simpa using h⟩
    · simp [l1, l2] at h1 h2
      rw [ltLL_drop h2 h1]; simp only [eq_comm (a := Y[i]?)]; simp [h1, h2]
    · simp [l1, l2] at h1 h2 h3
      rw [ltLL_end h2 h1 h3.symm]; simp [l1, l2]
  · exact Eqs.items (f := fun x : List Nat => D.txt o x) Eqs.txt (by simp; omega) hr hr'
  · intro j h1 h2 prog w E Q hq
    have h1' : j < X.length := by simpa [l1] using h1
    have h2' : j < Y.length := by simpa [l2] using h2
    refine rc_gtT (item_of hr h1 h1') (item_of hr' h2 h2') ?_
    simpa [h1', h2'] using hq
  · exact ⟨(fun x => nomatch x), hq⟩
end
end Mine
end
section
open PySem PyProof.Rows PySem.SeqAt
set_option maxRecDepth 100000
set_option linter.unusedVariables false
set_option linter.unusedSimpArgs false
namespace Mine
open Builtin Builtin.Str

theorem idx_clip (l u : Option Nat) (len : Nat) : strSliceIndices (l.map Int.ofNat) (u.map Int.ofNat) 1 len = strSliceIndices (some ((min (l.getD 0) len : Nat) : Int)) (some ((min (u.getD len) len : Nat) : Int)) 1 len := by
  have h0 : ∀ n : Nat, ¬ ((n : Int) < 0) := fun n => by omega
  have h1 : ∀ n : Nat, max (0 : Int) (min (n : Int) (len : Int)) = ((min n len : Nat) : Int) := fun n => by omega
  have h2 : ∀ n : Nat, min (min n len) len = min n len := fun n => by omega
  cases l <;> cases u <;> simp [strSliceIndices, h0] <;> congr 1 <;> omega
theorem slice_txt (a : List Nat) (l u : Option Nat) (hlu : l.getD 0 ≤ u.getD a.length ∨ u = none) : (Txt.slice ⟨a.toArray⟩ (l.map Int.ofNat) (u.map Int.ofNat)).cps.toList = (a.drop (l.getD 0)).take (u.getD a.length - l.getD 0) := by
  have e : Txt.slice ⟨a.toArray⟩ (l.map Int.ofNat) (u.map Int.ofNat) = StrLaws.sliceText ⟨a.toArray⟩ (some ((min (l.getD 0) a.length : Nat) : Int)) (some ((min (u.getD a.length) a.length : Nat) : Int)) := by
    unfold Txt.slice StrLaws.sliceText
    have := idx_clip l u a.length
    have hl : (Str.mk a.toArray).length = a.length := by simp [Str.length]
    rw [hl, this]
  rw [e, StrLaws.sliceText_nat ⟨a.toArray⟩ (a := min (l.getD 0) a.length) (b := min (u.getD a.length) a.length) (by rcases hlu with h | h; omega; subst h; simp; omega) (by simp [Str.length]; omega)]
  simp only [List.toList_toArray]
  by_cases h : l.getD 0 ≤ a.length
  · rw [Nat.min_eq_left h]
    have : min (u.getD a.length) a.length - l.getD 0 = min (u.getD a.length - l.getD 0) (a.drop (l.getD 0)).length := by simp; omega
    rw [this, List.take_eq_take_iff]; simp
  · rw [List.drop_eq_nil_of_le (i := l.getD 0) (by omega), List.drop_eq_nil_of_le (i := min (l.getD 0) a.length) (by omega)]; simp

section
variable {prog : Program} {w : World} {k : Nat} {o : Bool} {a : List Nat}
theorem part_val {Z : List Addr} {h : Heap} {b : D} {x : Value} {i : Option Int} (p : Part b i) (r : Rep Z h b x) : ∃ q : Option (Int × Tok), x = partValue q ∧ q.map (·.1) = i := by
  cases i with
  | none => cases p; cases r; exact ⟨none, rfl, rfl⟩
  | some j => cases p; obtain ⟨t, rfl⟩ := r; exact ⟨some (j, t), rfl, rfl⟩
theorem cut_txt (l u : Option Nat) (hlu : l.getD 0 ≤ u.getD a.length ∨ u = none) (ha : a.length ≤ 1000000) : Cut prog w k (.txt o a) (l.map Int.ofNat) (u.map Int.ofNat) none (.txt o ((a.drop (l.getD 0)).take (u.getD a.length - l.getD 0))) := fun A Z s v i R al r hu => by
  obtain ⟨sl, b, c, x, y, z, rfl, hs, pb, pc, rb, rc, e, pe, re⟩ := hu
  cases pe
  cases re
  cases o
  · obtain ⟨t, rfl⟩ := r
    obtain ⟨qx, rfl, hx⟩ := part_val pb rb
    obtain ⟨qy, rfl, hy⟩ := part_val pc rc
    refine ⟨"str", _, F.slot_str_getitem.lookup, typeIs_str _ _ _, wpAny_getItem_str_slice (l := qx) (u := qy) (st := none) ⟨_, hs, rfl, rfl⟩ rfl ?_⟩
    unfold sliceMade slicePicked
    rw [hx, hy]
    refine post_val_or_str ⟨?_, fun t' k => ⟨.toks, rep_str (slice_txt a l u hlu)⟩⟩
    have := Txt.slice_le ⟨a.toArray⟩ (l.map Int.ofNat) (u.map Int.ofNat)
    refine Nat.le_trans this ?_
    simp [Str.length]; unfold sizeLine; omega
  · obtain ⟨x', t, rfl, rfl⟩ := r
    have key : ((W.KBy.picked x' (l.map Int.ofNat) (u.map Int.ofNat)).toList.map UInt8.toNat) = (((x'.toList.map UInt8.toNat).drop (l.getD 0)).take (u.getD (x'.toList.map UInt8.toNat).length - l.getD 0)) := by
      rw [W.KBc.picked_eq]
      have e1 : (l.map Int.ofNat).elim 0 (clipAt x'.size) = min (l.getD 0) x'.size := by cases l <;> simp [clipAt_nat]
      have e2 : (u.map Int.ofNat).elim x'.size (clipAt x'.size) = min (u.getD x'.size) x'.size := by cases u <;> simp [clipAt_nat]
      rw [e1, e2]
      simp only [List.toList_toArray, List.map_take, List.map_drop, List.length_map, Array.length_toList]
      by_cases h : l.getD 0 ≤ x'.size
      · rw [Nat.min_eq_left h]
        have : min (u.getD x'.size) x'.size - l.getD 0 = min (u.getD x'.size - l.getD 0) ((x'.toList.map UInt8.toNat).drop (l.getD 0)).length := by simp; omega
        rw [this, List.take_eq_take_iff]; simp
      · rw [List.drop_eq_nil_of_le (i := l.getD 0) (by simp; omega), List.drop_eq_nil_of_le (i := min (l.getD 0) x'.size) (by simp; omega)]; simp
    refine ⟨"bytes", _, W.FB.slot_bytes_getitem.lookup, W.typeIs_bytes _ _ _, getItem_meets (W.typeIs_bytes _ _ _) (by decide) W.FB.slot_bytes_getitem W.FB.entry_bytes_getitem (W.FB.args_bytes_getitem_2 _ _) (W.KBc.meets_slice2 x' t _ (part_of pb rb) (part_of pc rc))
      ⟨⟨_, hs, rfl, rfl⟩, ?_, fun t' k => ⟨.toks, rep_bytes key⟩⟩⟩
    refine Nat.le_trans (W.KBc.size_picked_le _ _ _) ?_
    simp at ha; unfold sizeLine; omega

theorem c_inDots {c : Nat} : Cmp prog w k .In (.txt false [c]) (.txt false [46, 47]) (c == 46 || c == 47) := fun A Z s v u R al r r' => by
  obtain ⟨t, rfl⟩ := r; obtain ⟨t', rfl⟩ := r'
  refine P.in_str ⟨.refl, ?_⟩
  show _ = _
  congr 1
  by_cases h1 : c = 46
  · subst h1; decide +kernel
  · by_cases h2 : c = 47
    · subst h2; decide +kernel
    · have e : ∀ i, subAt ⟨#[46, 47]⟩ ⟨#[c]⟩ i = false := fun i => by
        rw [StrLaws.subAt_eq]
        match i with
        | 0 => simp [PySem.Str.length, Ne.symm h1]
        | 1 => simp [PySem.Str.length, Ne.symm h2]
        | i + 2 => simp [PySem.Str.length]
      have b1 : (c == 46) = false := by simp [h1]
      have b2 : (c == 47) = false := by simp [h2]
      simp only [b1, b2]
      simp [occurrences, e]
      rfl
theorem ints_are {Z : List Addr} {h : Heap} : ∀ {ns : List Int} {vs : List Value}, Reps Z h (ns.map D.int) vs → IntsAre vs ns
  | [], _, r => by cases r; exact .nil
  | _ :: _, _, ⟨_, _, e, ⟨t, q⟩, r⟩ => by subst e q; exact .cons _ _ (ints_are r)
theorem ints_items {Z : List Addr} {h : Heap} : ∀ {ns : List Int} {vs : List Value}, Reps Z h (ns.map D.int) vs → ∃ l : List (Int × Tok), vs.toArray = intItems l.toArray ∧ l.map (·.1) = ns
  | [], _, r => by cases r; exact ⟨[], by simp [intItems], rfl⟩
  | n :: _, _, ⟨_, _, e, ⟨t, q⟩, r⟩ => by
    subst e q
    obtain ⟨l, e1, e2⟩ := ints_items r
    refine ⟨(n, t) :: l, ?_, by simp [e2]⟩
    have : (intItems l.toArray).toList = _ := congrArg Array.toList e1.symm
    simp [intItems] at e1 ⊢
    exact e1
theorem preSum_take (l : List (Int × Tok)) : ∀ j, j ≤ l.length → preSum (numAt l.toArray) j = ((l.map (·.1)).take j).sum
  | 0, _ => by simp [preSum]
  | j + 1, h => by
    rw [preSum, preSum_take l j (by omega), List.take_add_one]
    have : (l.map (·.1))[j]? = some (l[j]'(by omega)).1 := by simp [show j < l.length by omega]
    rw [this]
    simp [numAt, show j < l.length by omega]
theorem sum_le : ∀ (ns : List Int), (∀ n ∈ ns, 0 ≤ n ∧ n < 65536) → 0 ≤ ns.sum ∧ ns.sum ≤ 65536 * ns.length
  | [], _ => by simp
  | n :: ns, h => by
    have h1 := h n List.mem_cons_self
    have h2 := sum_le ns fun x hx => h x (List.mem_cons_of_mem _ hx)
    simp only [List.sum_cons, List.length_cons]; omega
theorem cl_sum {ns : List Int} (hn : ∀ n ∈ ns, 0 ≤ n ∧ n < 65536) (hl : ns.length ≤ 100) : Cl prog w k (PySem.Str.ofString "sum") [.list (ns.map D.int)] (.int ns.sum) := by
  intro A Z s f vs R top al g r
  have ef := Glb.uniq g (glbT "sum" (.builtin "sum") (by decide) top)
  subst ef
  obtain ⟨v, r1, rfl, ⟨x, ws, rfl, hn', hpl, hr⟩, rr⟩ := r
  cases rr
  obtain ⟨l, e1, e2⟩ := ints_items hr
  have hl' := hpl.isList
  rw [e1] at hl'
  subst e2
  have hlen : l.length ≤ 100 := by simpa using hl
  refine sum_intList R.handled hl' (fun j hj => ?_) fun h' tk t' hk => ⟨Ext.heap fun a o _ e => hk a o e, rep_int ?_⟩
  · have hj' : j < l.length := by simpa using hj
    rw [preSum_take l (j + 1) (by omega)]
    have h1 := sum_le ((l.map (·.1)).take (j + 1)) fun n hm => hn n (List.mem_of_mem_take hm)
    have h2 := hn (l[j].1) (List.mem_map.mpr ⟨l[j], List.getElem_mem hj', rfl⟩)
    have h3 : numAt l.toArray j = l[j].1 := by simp [numAt, hj']
    rw [h3]
    have h4 : ((l.map (·.1)).take (j + 1)).length ≤ 100 := by simp; omega
    unfold InLong
    omega
  · rw [preSum_take l _ (by simp)]
    rw [List.take_of_length_le (by simp)]
theorem cl_bytes {cs : List Nat} (hn : ∀ n ∈ cs, n < 256) (hl : cs.length ≤ 100000) : Cl prog w k (PySem.Str.ofString "bytes") [.list (cs.map fun (n : Nat) => D.int (n : Int))] (.txt true cs) := by
  intro A Z s f vs R top al g r
  have ef := Glb.uniq g (glbT "bytes" (.type "bytes") (by decide) top)
  subst ef
  obtain ⟨v, r1, rfl, ⟨x, ws, rfl, hn', hpl, hr⟩, rr⟩ := r
  cases rr
  have e0 : (cs.map fun (n : Nat) => D.int (n : Int)) = (cs.map fun (n : Nat) => (n : Int)).map D.int := by simp
  rw [e0] at hr
  have hlen := hr.length
  simp at hlen
  refine call_bytes_ints hpl.isList (ints_are hr) (fun n hm => ?_) (by unfold sizeLine; omega) R.handled fun h' t k hk => ⟨Ext.heap fun a o _ e => hk a o e, rep_bytes ?_⟩
  · obtain ⟨c, hc, rfl⟩ := List.mem_map.mp hm
    have := hn c hc
    omega
  · simp only [byteArr, List.toList_toArray, List.map_map]
    conv => rhs; rw [← List.map_id cs]
    refine List.map_congr_left fun n hm => ?_
    have := hn n hm
    simp
    omega
end
end Mine
end
section
open PySem PyProof.Rows PySem.SeqAt
set_option maxRecDepth 100000
set_option linter.unusedVariables false
set_option linter.unusedSimpArgs false
namespace Mine
open Builtin
/-- a list of texts as a datum -/
abbrev LT (o : Bool) (X : List (List Nat)) : D := .list (txts o X)
section
variable {prog : Program} {w : World} {k : Nat} {A : Around} {Z : List Addr} {o : Bool}
theorem max_loop {R : Result → Shared → Prop} {h₀ : Heap} {I S : Addr} {St : Nat → Heap → Prop} {Xs : List (List (List Nat))} (W : Its prog w A.in1 Z h₀ (Xs.map (LT o)) I St) (hu : A.units + 20 < cLine) (hSI : S ≠ I) (hSZ : S ∉ Z) (hS0 : h₀.get? S = none) (hI0 : h₀.get? I = none) :
    ∀ (k i : Nat) (s : Shared) (vb : Value) (c : Nat) (b : List (List Nat)), Xs.length - i = k → i ≤ Xs.length → St i s.heap → Rep Z h₀ (LT o b) vb →
      s.heap.get? S = some { cls := .type "list", dict := none, data := .seq #[vb, vb] c, slots := #[] } →
      (∀ v h' tk, Rep Z h₀ (LT o ((Xs.drop i).foldl (fun b y => if ltLL b y then y else b) b)) v → (∀ a o, a ≠ I → a ≠ S → s.heap.get? a = some o → h'.get? a = some o) → R (.ok (.ret v)) { s with heap := h', toks := tk }) →
      codeAny (model prog w) A (.builtin "max.loop" ⟨[.ref I, .none, .ref S], []⟩) R s := by
  have hname : (toString "max" ++ toString ".loop" : String) = "max.loop" := by decide
  intro k
  induction k with
  | zero =>
    intro i s vb c b hk hi hst hb hS hR
    have hin : i = (Xs.map (LT o)).length := by simp; omega
    refine codeAny_builtin F.entry_max_loop ?_
    rw [Around.under_plainId F.plain_max_loop _]
    show wpAny _ A.in1 (seqItems? (.ref S) >>= _) _ _ s
    refine wpAny_bind (wpAny_seqItems hS rfl ?_)
    show wpAny _ A.in1 (tryCatch (pyNext (.ref I)) _ >>= _) _ _ s
    refine wpAny_bind (wpAny_tryCatch (W.done s _ _ (hin ▸ hst) fun h' tk hk' => ?_))
    have hS' := hk' S _ hSI hS
    show wpAny _ A.in1 (updateSeq S (fun _ => #[]) >>= _) _ _ _
    refine wpAny_bind ?_
    refine wpAny_updateSeq hS' rfl (wpAny_bind (wpAny_letGo (wpAny_pure ?_)))
    refine hR vb _ tk (by rw [List.drop_eq_nil_of_le (by omega)]; exact hb) fun a o' haI haS e => (Heap.get?_update_other _ _ (Ne.symm haS)).trans (hk' a o' haI e)
  | succ k ih =>
    intro i s vb c b hk hi hst hb hS hR
    have hlt : i < Xs.length := by omega
    have hdi : (Xs.map (LT o))[i]? = some (LT o Xs[i]) := by rw [List.getElem?_map, List.getElem?_eq_getElem hlt]; rfl
    refine codeAny_builtin F.entry_max_loop ?_
    rw [Around.under_plainId F.plain_max_loop _]
    show wpAny _ A.in1 (seqItems? (.ref S) >>= _) _ _ s
    refine wpAny_bind (wpAny_seqItems hS rfl ?_)
    show wpAny _ A.in1 (tryCatch (pyNext (.ref I)) _ >>= _) _ _ s
    refine wpAny_bind (wpAny_tryCatch (W.item i _ s _ _ hdi hst fun v h' tk hP hst' hk' => ?_))
    have hS' := hk' S _ hSI hS
    show wpAny _ A.in1 (tryCatch (holding [v, v] (richCompare .Gt v vb >>= _)) _ >>= _) _ _ _
    have kp := W.kept _ _ hst'
    refine wpAny_bind (wpAny_tryCatch (wpAny_holding (wpAny_bind (ro_gt (s := { s with heap := h', toks := tk }) (A := A.in1) (by simp; omega) (hP.kp kp) (hb.kp kp) prog w _ _ ?_))))
    refine wpAny_bind (wpAny_holding (wpAny_truthy_bool ?_))
    refine wpAny_bind (wpAny_letGo (wpAny_pure ?_))
    have hdr : Xs.drop i = Xs[i] :: Xs.drop (i + 1) := List.drop_eq_getElem_cons hlt
    rw [hdr] at hR
    simp only [List.foldl_cons] at hR
    cases hbt : ltLL b Xs[i] with
    | true =>
      rw [hbt] at hR
      simp only [if_true] at hR ⊢
      refine wpAny_bind ?_
      refine wpAny_updateSeq hS' rfl (wpAny_bind (wpAny_letGo ?_))
      rw [hname]
      refine wpAny_pure ⟨plainId_quiet F.plain_max_loop _, ih (i + 1) _ v _ Xs[i] (by omega) hlt (W.frame _ _ _ hst' (fun o' e => (Heap.get?_update_other _ _ hSI).trans e) (fun a o' n e => (Heap.get?_update_other _ _ (fun q => by rw [q, e] at hS0; cases hS0)).trans (kp a o' n e))) hP (Heap.get?_update_self _ hS' rfl) fun v' h'' tk'' hP' hk'' => ?_⟩
      exact hR v' h'' tk'' hP' fun a o' haI haS e => hk'' a o' haI haS ((Heap.get?_update_other _ _ (Ne.symm haS)).trans (hk' a o' haI e))
    | false =>
      rw [hbt] at hR
      simp only [Bool.false_eq_true, if_false] at hR ⊢
      refine wpAny_bind (wpAny_letGo ?_)
      rw [hname]
      refine wpAny_pure ⟨plainId_quiet F.plain_max_loop _, ih (i + 1) _ vb c b (by omega) hlt hst' hb hS' fun v' h'' tk'' hP' hk'' => ?_⟩
      exact hR v' h'' tk'' hP' fun a o' haI haS e => hk'' a o' haI haS (hk' a o' haI e)
theorem cl_max {X : List (List Nat)} {Xs : List (List (List Nat))} : Cl prog w k (PySem.Str.ofString "max") [.list ((X :: Xs).map (LT o))] (LT o (Xs.foldl (fun b y => if ltLL b y then y else b) X)) := by
  intro A Z s f vs R top al g r
  have ef := Glb.uniq g (glbT "max" (.builtin "max") (by decide) top)
  subst ef
  obtain ⟨v, r1, rfl, rv, rr⟩ := r
  cases rr
  have hname : (toString "max" ++ toString ".loop" : String) = "max.loop" := by decide
  refine call_function_tree F.kind_max F.plain_max F.entry_max (F.args_max1 _) ?_
  show wpAny _ A.in1 (Builtin.Builtins.bindParams "max" ["key", "default"] 0 ⟨[], []⟩ >>= _) _ _ s
  refine wpAny_bind (wpAny_of_eq (show Builtin.Builtins.bindParams "max" ["key", "default"] 0 ⟨[], []⟩ = pure [none, none] from rfl) ?_)
  refine wpAny_bind (wpAny_pure ?_)
  refine wpAny_bind (wp_no (iter_ok (A := A.in1) R.handled al rv rfl) fun it s₂ h₂ => ?_)
  obtain ⟨x₂, I, St, rfl, hI, st0, W⟩ := h₂
  refine wpAny_bind (wpAny_newObj_type ?_)
  rw [hname]
  have hoI := W.at_ _ _ st0
  have hIs : I ≠ s₂.heap.objs.size := by
    obtain ⟨oI, e⟩ := hoI
    exact Nat.ne_of_lt (Heap.lt_size e)
  have hS0 : s.heap.get? s₂.heap.objs.size = none := by
    cases q : s.heap.get? s₂.heap.objs.size with
    | none => rfl
    | some o' => exact absurd (Heap.lt_size (x₂.keep _ _ q)) (Nat.lt_irrefl _)
  have hSZ : s₂.heap.objs.size ∉ Z := al.new hS0
  have hu := R.line64
  have hds : ((X :: Xs).map (LT o))[0]? = some (LT o X) := rfl
  have hname : (toString "max" ++ toString ".loop" : String) = "max.loop" := by decide
  have st1 : St 0 (s₂.heap.push { cls := .type "list", data := .seq ([] : List Value).toArray }) := W.frame _ _ _ st0 (fun o' e => Heap.get?_push_of_some _ e) fun a o' n e => Heap.get?_push_of_some _ (W.kept _ _ st0 a o' n e)
  refine wpAny_pure ⟨plainId_quiet F.plain_max_loop _, ?_⟩
  have hS : (s₂.heap.push { cls := .type "list", data := .seq ([] : List Value).toArray }).get? s₂.heap.objs.size = some { cls := .type "list", data := .seq ([] : List Value).toArray } := Heap.get?_push_size _ rfl
  refine codeAny_builtin F.entry_max_loop ?_
  rw [Around.under_plainId F.plain_max_loop _]
  show wpAny _ A.in1 (seqItems? (.ref s₂.heap.objs.size) >>= _) _ _ _
  refine wpAny_bind (wpAny_seqItems hS rfl ?_)
  show wpAny _ A.in1 (tryCatch (pyNext (.ref I)) _ >>= _) _ _ _
  refine wpAny_bind (wpAny_tryCatch (W.item 0 _ _ _ _ hds st1 fun v' h' tk hP hst' hk' => ?_))
  have hS' := hk' s₂.heap.objs.size _ (Ne.symm hIs) hS
  show wpAny _ A.in1 (updateSeq s₂.heap.objs.size (fun _ => #[v', v']) >>= _) _ _ _
  refine wpAny_bind ?_
  refine wpAny_updateSeq hS' rfl ?_
  rw [hname]
  refine wpAny_pure ⟨plainId_quiet F.plain_max_loop _, max_loop (A := A) W (by omega) (Ne.symm hIs) hSZ hS0 hI _ 1 _ v' _ X rfl (by simp) (W.frame _ _ _ hst' (fun o' e => (Heap.get?_update_other _ _ (Ne.symm hIs)).trans e) (fun a o' n e => (Heap.get?_update_other _ _ (fun q => by rw [q, e] at hS0; cases hS0)).trans (W.kept _ _ hst' a o' n e))) hP (Heap.get?_update_self _ hS' rfl) fun v'' h'' tk'' hP'' hk'' => ?_⟩
  have keep : ∀ a o', s.heap.get? a = some o' → h''.get? a = some o' := fun a o' e => by
    have haI : a ≠ I := fun q => by rw [q, hI] at e; cases e
    have haS : a ≠ s₂.heap.objs.size := fun q => by rw [q, hS0] at e; cases e
    exact hk'' a o' haI haS ((Heap.get?_update_other _ _ (Ne.symm haS)).trans (hk' a o' haI (Heap.get?_push_of_some _ (x₂.keep _ _ e))))
  exact ⟨⟨fun a o' _ e => keep a o' e, x₂.os, x₂.gens⟩, hP''.kp fun a o' _ e => keep a o' e⟩
theorem min_loop {R : Result → Shared → Prop} {h₀ : Heap} {I S : Addr} {St : Nat → Heap → Prop} {Xs : List (List (List Nat))} (W : Its prog w A.in1 Z h₀ (Xs.map (LT o)) I St) (hu : A.units + 20 < cLine) (hSI : S ≠ I) (hSZ : S ∉ Z) (hS0 : h₀.get? S = none) (hI0 : h₀.get? I = none) :
    ∀ (k i : Nat) (s : Shared) (vb : Value) (c : Nat) (b : List (List Nat)), Xs.length - i = k → i ≤ Xs.length → St i s.heap → Rep Z h₀ (LT o b) vb →
      s.heap.get? S = some { cls := .type "list", dict := none, data := .seq #[vb, vb] c, slots := #[] } →
      (∀ v h' tk, Rep Z h₀ (LT o ((Xs.drop i).foldl (fun b y => if ltLL y b then y else b) b)) v → (∀ a o, a ≠ I → a ≠ S → s.heap.get? a = some o → h'.get? a = some o) → R (.ok (.ret v)) { s with heap := h', toks := tk }) →
      codeAny (model prog w) A (.builtin "min.loop" ⟨[.ref I, .none, .ref S], []⟩) R s := by
  have hname : (toString "min" ++ toString ".loop" : String) = "min.loop" := by decide
  intro k
  induction k with
  | zero =>
    intro i s vb c b hk hi hst hb hS hR
    have hin : i = (Xs.map (LT o)).length := by simp; omega
    refine codeAny_builtin F.entry_min_loop ?_
    rw [Around.under_plainId F.plain_min_loop _]
    show wpAny _ A.in1 (seqItems? (.ref S) >>= _) _ _ s
    refine wpAny_bind (wpAny_seqItems hS rfl ?_)
    show wpAny _ A.in1 (tryCatch (pyNext (.ref I)) _ >>= _) _ _ s
    refine wpAny_bind (wpAny_tryCatch (W.done s _ _ (hin ▸ hst) fun h' tk hk' => ?_))
    have hS' := hk' S _ hSI hS
    show wpAny _ A.in1 (updateSeq S (fun _ => #[]) >>= _) _ _ _
    refine wpAny_bind ?_
    refine wpAny_updateSeq hS' rfl (wpAny_bind (wpAny_letGo (wpAny_pure ?_)))
    refine hR vb _ tk (by rw [List.drop_eq_nil_of_le (by omega)]; exact hb) fun a o' haI haS e => (Heap.get?_update_other _ _ (Ne.symm haS)).trans (hk' a o' haI e)
  | succ k ih =>
    intro i s vb c b hk hi hst hb hS hR
    have hlt : i < Xs.length := by omega
    have hdi : (Xs.map (LT o))[i]? = some (LT o Xs[i]) := by rw [List.getElem?_map, List.getElem?_eq_getElem hlt]; rfl
    refine codeAny_builtin F.entry_min_loop ?_
    rw [Around.under_plainId F.plain_min_loop _]
    show wpAny _ A.in1 (seqItems? (.ref S) >>= _) _ _ s
    refine wpAny_bind (wpAny_seqItems hS rfl ?_)
    show wpAny _ A.in1 (tryCatch (pyNext (.ref I)) _ >>= _) _ _ s
    refine wpAny_bind (wpAny_tryCatch (W.item i _ s _ _ hdi hst fun v h' tk hP hst' hk' => ?_))
    have hS' := hk' S _ hSI hS
    show wpAny _ A.in1 (tryCatch (holding [v, v] (richCompare .Lt v vb >>= _)) _ >>= _) _ _ _
    have kp := W.kept _ _ hst'
    refine wpAny_bind (wpAny_tryCatch (wpAny_holding (wpAny_bind (ro_lt (s := { s with heap := h', toks := tk }) (A := A.in1) (by simp; omega) (hP.kp kp) (hb.kp kp) prog w _ _ ?_))))
    refine wpAny_bind (wpAny_holding (wpAny_truthy_bool ?_))
    refine wpAny_bind (wpAny_letGo (wpAny_pure ?_))
    have hdr : Xs.drop i = Xs[i] :: Xs.drop (i + 1) := List.drop_eq_getElem_cons hlt
    rw [hdr] at hR
    simp only [List.foldl_cons] at hR
    cases hbt : ltLL Xs[i] b with
    | true =>
      rw [hbt] at hR
      simp only [if_true] at hR ⊢
      refine wpAny_bind ?_
      refine wpAny_updateSeq hS' rfl (wpAny_bind (wpAny_letGo ?_))
      rw [hname]
      refine wpAny_pure ⟨plainId_quiet F.plain_min_loop _, ih (i + 1) _ v _ Xs[i] (by omega) hlt (W.frame _ _ _ hst' (fun o' e => (Heap.get?_update_other _ _ hSI).trans e) (fun a o' n e => (Heap.get?_update_other _ _ (fun q => by rw [q, e] at hS0; cases hS0)).trans (kp a o' n e))) hP (Heap.get?_update_self _ hS' rfl) fun v' h'' tk'' hP' hk'' => ?_⟩
      exact hR v' h'' tk'' hP' fun a o' haI haS e => hk'' a o' haI haS ((Heap.get?_update_other _ _ (Ne.symm haS)).trans (hk' a o' haI e))
    | false =>
      rw [hbt] at hR
      simp only [Bool.false_eq_true, if_false] at hR ⊢
      refine wpAny_bind (wpAny_letGo ?_)
      rw [hname]
      refine wpAny_pure ⟨plainId_quiet F.plain_min_loop _, ih (i + 1) _ vb c b (by omega) hlt hst' hb hS' fun v' h'' tk'' hP' hk'' => ?_⟩
      exact hR v' h'' tk'' hP' fun a o' haI haS e => hk'' a o' haI haS (hk' a o' haI e)
theorem cl_min {X : List (List Nat)} {Xs : List (List (List Nat))} : Cl prog w k (PySem.Str.ofString "min") [.list ((X :: Xs).map (LT o))] (LT o (Xs.foldl (fun b y => if ltLL y b then y else b) X)) := by
  intro A Z s f vs R top al g r
  have ef := Glb.uniq g (glbT "min" (.builtin "min") (by decide) top)
  subst ef
  obtain ⟨v, r1, rfl, rv, rr⟩ := r
  cases rr
  have hname : (toString "min" ++ toString ".loop" : String) = "min.loop" := by decide
  refine call_function_tree F.kind_min F.plain_min F.entry_min (F.args_min1 _) ?_
  show wpAny _ A.in1 (Builtin.Builtins.bindParams "min" ["key", "default"] 0 ⟨[], []⟩ >>= _) _ _ s
  refine wpAny_bind (wpAny_of_eq (show Builtin.Builtins.bindParams "min" ["key", "default"] 0 ⟨[], []⟩ = pure [none, none] from rfl) ?_)
  refine wpAny_bind (wpAny_pure ?_)
  refine wpAny_bind (wp_no (iter_ok (A := A.in1) R.handled al rv rfl) fun it s₂ h₂ => ?_)
  obtain ⟨x₂, I, St, rfl, hI, st0, W⟩ := h₂
  refine wpAny_bind (wpAny_newObj_type ?_)
  rw [hname]
  have hoI := W.at_ _ _ st0
  have hIs : I ≠ s₂.heap.objs.size := by
    obtain ⟨oI, e⟩ := hoI
    exact Nat.ne_of_lt (Heap.lt_size e)
  have hS0 : s.heap.get? s₂.heap.objs.size = none := by
    cases q : s.heap.get? s₂.heap.objs.size with
    | none => rfl
    | some o' => exact absurd (Heap.lt_size (x₂.keep _ _ q)) (Nat.lt_irrefl _)
  have hSZ : s₂.heap.objs.size ∉ Z := al.new hS0
  have hu := R.line64
  have hds : ((X :: Xs).map (LT o))[0]? = some (LT o X) := rfl
  have hname : (toString "min" ++ toString ".loop" : String) = "min.loop" := by decide
  have st1 : St 0 (s₂.heap.push { cls := .type "list", data := .seq ([] : List Value).toArray }) := W.frame _ _ _ st0 (fun o' e => Heap.get?_push_of_some _ e) fun a o' n e => Heap.get?_push_of_some _ (W.kept _ _ st0 a o' n e)
  refine wpAny_pure ⟨plainId_quiet F.plain_min_loop _, ?_⟩
  have hS : (s₂.heap.push { cls := .type "list", data := .seq ([] : List Value).toArray }).get? s₂.heap.objs.size = some { cls := .type "list", data := .seq ([] : List Value).toArray } := Heap.get?_push_size _ rfl
  refine codeAny_builtin F.entry_min_loop ?_
  rw [Around.under_plainId F.plain_min_loop _]
  show wpAny _ A.in1 (seqItems? (.ref s₂.heap.objs.size) >>= _) _ _ _
  refine wpAny_bind (wpAny_seqItems hS rfl ?_)
  show wpAny _ A.in1 (tryCatch (pyNext (.ref I)) _ >>= _) _ _ _
  refine wpAny_bind (wpAny_tryCatch (W.item 0 _ _ _ _ hds st1 fun v' h' tk hP hst' hk' => ?_))
  have hS' := hk' s₂.heap.objs.size _ (Ne.symm hIs) hS
  show wpAny _ A.in1 (updateSeq s₂.heap.objs.size (fun _ => #[v', v']) >>= _) _ _ _
  refine wpAny_bind ?_
  refine wpAny_updateSeq hS' rfl ?_
  rw [hname]
  refine wpAny_pure ⟨plainId_quiet F.plain_min_loop _, min_loop (A := A) W (by omega) (Ne.symm hIs) hSZ hS0 hI _ 1 _ v' _ X rfl (by simp) (W.frame _ _ _ hst' (fun o' e => (Heap.get?_update_other _ _ (Ne.symm hIs)).trans e) (fun a o' n e => (Heap.get?_update_other _ _ (fun q => by rw [q, e] at hS0; cases hS0)).trans (W.kept _ _ hst' a o' n e))) hP (Heap.get?_update_self _ hS' rfl) fun v'' h'' tk'' hP'' hk'' => ?_⟩
  have keep : ∀ a o', s.heap.get? a = some o' → h''.get? a = some o' := fun a o' e => by
    have haI : a ≠ I := fun q => by rw [q, hI] at e; cases e
    have haS : a ≠ s₂.heap.objs.size := fun q => by rw [q, hS0] at e; cases e
    exact hk'' a o' haI haS ((Heap.get?_update_other _ _ (Ne.symm haS)).trans (hk' a o' haI (Heap.get?_push_of_some _ (x₂.keep _ _ e))))
  exact ⟨⟨fun a o' _ e => keep a o' e, x₂.os, x₂.gens⟩, hP''.kp fun a o' _ e => keep a o' e⟩
end
end Mine
end
section
open PySem PyProof.Rows PySem.SeqAt
set_option maxRecDepth 100000
set_option linter.unusedVariables false
set_option linter.unusedSimpArgs false
namespace Mine
open Builtin
section
variable {prog : Program} {w : World} {k : Nat} {env : Env} {ρ : List (Str × B)}

theorem RG.own {Z : List Addr} {h : Heap} {x : Str} {a : Addr} {ds : List D} (g : RG env Z ρ h) (hx : ρ.lookup x = some (.own a ds)) : RG env (Z.filter (· ≠ a)) ((x, .dat (.list ds)) :: ρ) h := by
  have hz : ∀ b ∈ Z.filter (· ≠ a), b ∈ Z := fun b hb => (List.mem_filter.mp hb).1
  refine ⟨g.top, g.fn, g.gl, g.bi, fun b hb => g.alive b (hz b hb), g.cels, fun y b e => ?_⟩
  by_cases q : y = x
  · subst q
    rw [lookup_self] at e; cases e
    obtain ⟨bd, vs, pl, rs⟩ := g.vars y _ hx
    exact ⟨_, bd, a, vs, rfl, by simp, pl, rs.weak hz⟩
  · rw [lookup_ne q] at e
    have H := g.vars y b e
    cases b with
    | dat d => obtain ⟨v, p, q⟩ := H; exact ⟨v, p, q.weak hz⟩
    | own b ds => obtain ⟨p, vs, q, r⟩ := H; exact ⟨p, vs, q, r.weak hz⟩
/-- a test that only reads a list of the frame's own -/
theorem Tb.own {x : Str} {a : Addr} {ds : List D} {e : Expr} {b : Bool} (hx : ρ.lookup x = some (.own a ds)) (t : Tb prog w k env ((x, .dat (.list ds)) :: ρ) e b) : Tb prog w k env ρ e b := fun A Z s R g => t A _ s R (g.own hx)
def D.flat : D → Bool
  | .list _ | .tup _ | .range .. => false
  | _ => true
theorem Rep.flat {Z Z' : List Addr} {h h' : Heap} {d : D} {v : Value} (hd : d.flat = true) (r : Rep Z h d v) : Rep Z' h' d v := by
  cases d with
  | none => exact r
  | bool b => exact r
  | int i => exact r
  | txt o cs => cases o <;> exact r
  | ty n => exact r
  | list ds => cases hd
  | tup ds => cases hd
  | range a b c => cases hd
theorem Ev.own {x : Str} {a : Addr} {ds : List D} {e : Expr} {d : D} (hx : ρ.lookup x = some (.own a ds)) (hd : d.flat = true) (t : Ev prog w k env ((x, .dat (.list ds)) :: ρ) e d) : Ev prog w k env ρ e d := fun A Z s R g =>
  wp_no (t A _ s R (g.own hx)) fun v s' ⟨e, r⟩ => ⟨e, r.flat hd⟩
/-- the last item of a list of the frame's own -/
theorem Ev.ownLast {x : Str} {a : Addr} {ds : List D} {d : D} {i : Expr} {p pos : Pos} (hx : ρ.lookup x = some (.own a ds)) (hn : plainName x = true) (hi : Ev prog w k env ρ i (.int (-1))) (hd : ds.getLast? = some d) (hsz : ds.length ≤ 1000000) :
    Ev prog w k env ρ (.Subscript (.Name x p) i pos) d := fun A Z s R g => by
  obtain ⟨bd, vs, pl, rs⟩ := g.vars x _ hx
  simp only [plainName, Bool.and_eq_true, Bool.not_eq_true'] at hn
  refine subscript_any (wpAny_Name (bd.load g.fn (wp_no (hi A Z s R g) fun u s₁ ⟨x₁, ⟨t, e⟩⟩ => ?_) hn.2) hn.1)
  subst e
  have pl1 := pl.at fun o e => x₁.keep _ o e
  have rs1 := rs.ext x₁
  have e := rs1.length
  have hne : 0 < ds.length := by cases ds <;> simp_all
  have hd' : ds[ds.length - 1]? = some d := by rw [List.getLast?_eq_getElem?] at hd; exact hd
  obtain ⟨y, hy, ry⟩ := rs1.get hd'
  refine ⟨"list", "list.__getitem__", PySem.list_getitem_lookup, pl1.isList.typeIs, ?_⟩
  refine wpAny_getItem_list_neg pl1.isList (by omega) (by simp; omega) (by omega) (x := y) ?_ ⟨x₁, ry⟩
  have : ((-1 : Int) + ((List.toArray vs).size : Int)).toNat = ds.length - 1 := by simp; omega
  rw [this]; simpa using hy

variable {A : Around} {s₀ sb : Shared} {Y X : List Addr} {rest : List Stmt} {Q : Flow → Shared → Prop}
theorem G.setOwn {s₁ : Shared} {x : Str} {a : Addr} {ds ds' : List D} {vs vs' : List Value} {h' : Heap} {t : Nat} (g1 : G s₀ sb Y env X ρ s₁) (hx : ρ.lookup x = some (.own a ds)) (hd : ∀ y b es, ρ.lookup y = some (.own b es) → y ≠ x → b ≠ a)
    (pl1 : s₁.heap.PlainList a (List.toArray vs)) (hs : Heap.SameBut a s₁.heap h') (pl' : h'.PlainList a (List.toArray vs')) (rs' : Reps (X ++ Y) s₁.heap ds' vs') : G s₀ sb Y env X ((x, .own a ds') :: ρ) { s₁ with heap := h', toks := t } := by
  have haX := g1.owns x a ds hx
  obtain ⟨bd, _⟩ := g1.vars x _ hx
  refine g1.poke haX hs ⟨_, pl'.choose_spec⟩ ?_ (fun n c e => ?_) (fun y b e => ?_) fun y b es e => ?_
  · obtain ⟨m, hm⟩ := g1.loc.2; exact ⟨m, hm.sameBut hs (g1.loc_ne_list pl1)⟩
  · obtain ⟨v', q⟩ := (g1.cel n c e).2; exact ⟨v', q.sameBut hs (g1.cell_ne_list e pl1)⟩
  · have bdk : ∀ y v', Bd env s₁.heap y v' → Bd env h' y v' := fun y v' bd => bd.kp (c := a) (fun b o n e => (hs.2 b n).trans e) (g1.loc_ne_list pl1) fun n en => g1.cell_ne_list en pl1
    by_cases q : y = x
    · subst q
      rw [lookup_self] at e; cases e
      exact ⟨bdk _ _ bd, vs', pl', rs'.kp fun b o n e => (hs.2 b fun q => n (List.mem_append.mpr (.inl (q ▸ haX)))).trans e⟩
    · rw [lookup_ne q] at e
      exact g1.other haX hs e (bdk y) fun b es eb => by subst eb; exact hd y b es e q
  · by_cases q : y = x
    · subst q; rw [lookup_self] at e; cases e; exact haX
    · rw [lookup_ne q] at e; exact g1.owns _ _ _ e
/-- x.pop() -/
theorem Run.pop {x : Str} {p apos pos pos' : Pos} {a : Addr} {ds : List D} (hx : ρ.lookup x = some (.own a ds)) (hn : plainName x = true) (hd : ∀ y b es, ρ.lookup y = some (.own b es) → y ≠ x → b ≠ a) (hne : ds ≠ []) (hsz : ds.length ≤ 10000)
    (hr : Run prog w A s₀ sb Y env X ((x, .own a ds.dropLast) :: ρ) rest Q) (hline : (apos.endLine == pos.line) = true := by rfl) :
    Run prog w A s₀ sb Y env X ρ (.Expr (.Call (.Attribute (.Name x p) (Str.ofString "pop") apos) [] [] pos) pos' :: rest) Q :=
  Run.stmt fun s g => by
    refine wpAny_Expr_any ?_ (by exact notInteractive g.fn) rfl
    obtain ⟨bd, vs, pl, rs⟩ := g.vars x _ hx
    have hl := rs.length
    simp only [plainName, Bool.and_eq_true, Bool.not_eq_true'] at hn
    refine wpAny_Call_method (T := "list") (id := "list.pop") rfl rfl hline F.plainAttrs_list F.slot_list_pop F.type_list_pop (wpAny_Name (bd.load g.fn ⟨pl.isList.typeIs, fun b e => ?_, ?_⟩ hn.2) hn.1)
    · cases e; obtain ⟨n, q⟩ := pl; exact ⟨_, q, rfl⟩
    · obtain ⟨n, q⟩ := id pl
      have hpos : 0 < vs.length := by rw [hl]; cases ds <;> simp_all
      refine P.pop_list (y := vs[vs.length - 1]) q (by simp [hpos]) ?_ (by simp; unfold sizeLine; omega)
      refine hr _ (g.setOwn (t := s.toks) (vs' := vs.dropLast) hx hd pl (Heap.SameBut.update ..) ?_ ?_)
      · have := get?_update_seq q (fun xs => xs.eraseIdxIfInBounds ((List.toArray vs).size - 1))
        have e : (List.toArray vs).eraseIdxIfInBounds ((List.toArray vs).size - 1) = List.toArray vs.dropLast := by
          simp [Array.eraseIdxIfInBounds, hpos]
          intro h; omega
        rw [e] at this
        exact ⟨_, by rw [← e] at this ⊢; exact this⟩
      · rw [List.dropLast_eq_take, List.dropLast_eq_take, hl]; exact rs.take _
end
end Mine
end
section
open PySem PyProof.Rows PySem.SeqAt
set_option maxRecDepth 100000
set_option linter.unusedVariables false
set_option linter.unusedSimpArgs false
namespace Mine
open Builtin

/-- the places of u, from k on -/
def placesU (u : UInt8) : List UInt8 → Nat → List Nat
  | [], _ => []
  | x :: xs, k => if x = u then k :: placesU u xs (k + 1) else placesU u xs (k + 1)
theorem placesU_append (u : UInt8) : ∀ (l r : List UInt8) (k : Nat), placesU u (l ++ r) k = placesU u l k ++ placesU u r (k + l.length)
  | [], r, k => by simp [placesU]
  | x :: l, r, k => by
    have := placesU_append u l r (k + 1)
    simp only [List.cons_append, placesU, this, List.length_cons]
    have e : k + 1 + l.length = k + (l.length + 1) := by omega
    split <;> simp [e]
theorem placesU_length (u : UInt8) : ∀ (l : List UInt8) (k : Nat), (placesU u l k).length ≤ l.length
  | [], _ => by simp [placesU]
  | x :: l, k => by
    have := placesU_length u l (k + 1)
    simp only [placesU]
    split <;> simp <;> omega
theorem occ_bytes (b : Array UInt8) (u : UInt8) : Bytes.occurrences b #[u] 0 b.size = placesU u b.toList 0 := by
  have key : ∀ n, n ≤ b.size → ∃ m, m ≤ n ∧ ((List.range n).map (· + 0)).foldl (fun (acc : List Nat × Nat) (i : Nat) => if i ≥ acc.2 && b.extract i (i + (#[u] : Array UInt8).size) == #[u] then (i :: acc.1, i + (#[u] : Array UInt8).size) else acc) ([], 0) = ((placesU u (b.toList.take n) 0).reverse, m) := by
    intro n
    induction n with
    | zero => intro _; exact ⟨0, Nat.le_refl _, by simp [placesU]⟩
    | succ n ih =>
      intro hn
      obtain ⟨m, hm, e⟩ := ih (by omega)
      rw [List.range_succ, List.map_append, List.foldl_append, e]
      simp only [List.map_cons, List.map_nil, List.foldl_cons, List.foldl_nil, Nat.add_zero]
      have hx : b.toList[n]? = some b[n] := by rw [List.getElem?_eq_getElem (by simp; omega)]; simp
      have htk : b.toList.take (n + 1) = b.toList.take n ++ [b[n]] := by rw [List.take_add_one, hx]; rfl
      have hlen : (b.toList.take n).length = n := by simp; omega
      have hex : b.extract n (n + 1) = #[b[n]] := by
        apply Array.ext
        · simp; omega
        · intro i h1 h2
          have : i = 0 := by simp at h2; exact h2
          subst this; simp
      have hsz : (#[u] : Array UInt8).size = 1 := rfl
      rw [hsz, hex, htk, placesU_append, hlen]
      by_cases h : b[n] = u
      · refine ⟨n + 1, Nat.le_refl _, ?_⟩
        rw [if_pos (by simp [h]; omega)]
        simp [placesU, h]
      · refine ⟨m, by omega, ?_⟩
        rw [if_neg (by simp [h])]
        simp [placesU, h]
  obtain ⟨m, _, e⟩ := key b.size (Nat.le_refl _)
  unfold Bytes.occurrences
  have h1 : b.size + 1 - (0 + (#[u] : Array UInt8).size) = b.size := by simp
  simp only [h1]
  rw [e]
  simp [List.take_of_length_le]
abbrev nums (a : Array UInt8) : List Nat := a.toList.map UInt8.toNat
theorem between_bytes (b : Array UInt8) (u : UInt8) : ∀ (xs : List UInt8) (k last : Nat) (parts : Array (Array UInt8)), b.toList.drop k = xs → last ≤ k → k ≤ b.size →
    (((placesU u xs k).foldl (fun (x : Array (Array UInt8) × Nat) p => (x.1.push (b.extract x.2 p), p + 1)) (parts, last)).1.push (b.extract ((placesU u xs k).foldl (fun (x : Array (Array UInt8) × Nat) p => (x.1.push (b.extract x.2 p), p + 1)) (parts, last)).2 b.size)).toList.map nums =
      parts.toList.map nums ++ (match splitL u.toNat (xs.map UInt8.toNat) with | p :: ps => (((b.toList.drop last).take (k - last)).map UInt8.toNat ++ p) :: ps | [] => [])
  | [], k, last, parts, hd, hl, hk => by
    have hkk : k = b.size := by
      have := congrArg List.length hd
      simp at this; omega
    subst hkk
    simp [placesU, splitL, nums, Array.toList_extract, List.take_drop]
  | x :: xs, k, last, parts, hd, hl, hk => by
    have hk' : k < b.size := by
      have := congrArg List.length hd
      simp at this; omega
    have hd' : b.toList.drop (k + 1) = xs := by
      have := congrArg List.tail hd
      simpa [List.tail_drop] using this
    have hx : b.toList[k]? = some x := by
      have := congrArg List.head? hd
      simpa [List.head?_drop] using this
    by_cases h : x = u
    · subst h
      have ih := between_bytes b x xs (k + 1) (k + 1) (parts.push (b.extract last k)) hd' (Nat.le_refl _) hk'
      simp only [placesU, if_true, List.foldl_cons, List.map_cons, splitL]
      rw [ih]
      cases q : splitL x.toNat (xs.map UInt8.toNat) with
      | nil => exact absurd q (splitL_ne _ _)
      | cons p ps => simp [nums, List.extract_eq_take_drop]
    · have hne : x.toNat ≠ u.toNat := fun e => h (UInt8.toNat_inj.mp e)
      have ih := between_bytes b u xs (k + 1) last parts hd' (by omega) hk'
      simp only [placesU, h, if_false, List.map_cons, splitL, hne]
      rw [ih]
      cases q : splitL u.toNat (xs.map UInt8.toNat) with
      | nil => exact absurd q (splitL_ne _ _)
      | cons p ps =>
        have e1 : k + 1 - last = (k - last) + 1 := by omega
        have e2 : (b.toList.drop last)[k - last]? = some x := by rw [List.getElem?_drop, ← hx]; congr 1; omega
        simp only [e1, List.take_add_one, e2]
        simp
theorem between_split (b : Array UInt8) (u : UInt8) : (Bytes.between b 1 (placesU u b.toList 0)).map nums = splitL u.toNat (nums b) := by
  have := between_bytes b u b.toList 0 0 #[] (by simp) (Nat.le_refl _) (Nat.zero_le _)
  unfold Bytes.between
  have e : (fun (x : Array (Array UInt8) × Nat) (p : Nat) => match x with | (parts, last) => (parts.push (b.extract last p), p + 1)) = fun x p => (x.1.push (b.extract x.2 p), p + 1) := by funext x p; rfl
  rw [e]
  rw [this]
  cases q : splitL u.toNat (b.toList.map UInt8.toNat) with
  | nil => exact absurd q (splitL_ne _ _)
  | cons p ps => simp [nums, q]
theorem placesU_nil {u : UInt8} : ∀ {l : List UInt8} {k : Nat}, placesU u l k = [] → splitL u.toNat (l.map UInt8.toNat) = [l.map UInt8.toNat]
  | [], _, _ => rfl
  | x :: l, k, h => by
    simp only [placesU] at h
    split at h
    · simp at h
    · rename_i hx
      have hne : x.toNat ≠ u.toNat := fun e => hx (UInt8.toNat_inj.mp e)
      have ih := placesU_nil h
      simp only [List.map_cons, splitL, hne, if_false, ih]

section
variable {M : Model} {A : Around} {E : Value → Shared → Prop} {Z : List Addr}
/-- bytes made one after the other -/
theorem mapM_bytes : ∀ {l : List (Array UInt8)} {s : Shared} {Q : List Value → Shared → Prop}, (∀ p ∈ l, p.size ≤ sizeLine) →
    (∀ vs tk, (∀ h, Reps Z h (txts true (l.map nums)) vs) → Q vs { s with toks := tk }) → wpAny M A (l.mapM Bytes.Kind.bytes.new) Q E s
  | [], s, Q, _, h => by rw [List.mapM_nil]; exact wpAny_pure (h [] s.toks fun _ => rfl)
  | p :: l, s, Q, hp, h => by
    rw [List.mapM_cons]
    refine wpAny_bind (show wpAny M A (mkBytes p) _ E s from wpAny_mkBytes ?_ (hp p List.mem_cons_self))
    refine wpAny_bind (mapM_bytes (fun q hq => hp q (List.mem_cons_of_mem _ hq)) fun vs tk hr => ?_)
    exact wpAny_pure (h _ tk fun h' => Reps.cons (rep_bytes rfl) (hr h'))
end
theorem size_between (b : Array UInt8) (places : List Nat) : ∀ p ∈ Bytes.between b 1 places, p.size ≤ b.size := by
  have key : ∀ (places : List Nat) (acc : Array (Array UInt8) × Nat), (∀ p ∈ acc.1.toList, p.size ≤ b.size) → ∀ p ∈ (places.foldl (fun (x : Array (Array UInt8) × Nat) p => (x.1.push (b.extract x.2 p), p + 1)) acc).1.toList, p.size ≤ b.size := by
    intro places
    induction places with
    | nil => intro acc h p hp; exact h p hp
    | cons q places ih =>
      intro acc h p hp
      refine ih _ (fun r hr => ?_) p hp
      simp at hr
      rcases hr with hr | rfl
      · exact h r (by simpa using hr)
      · simp; omega
  intro p hp
  unfold Bytes.between at hp
  have e : (fun (x : Array (Array UInt8) × Nat) (p : Nat) => match x with | (parts, last) => (parts.push (b.extract last p), p + 1)) = fun x p => (x.1.push (b.extract x.2 p), p + 1) := by funext x p; rfl
  rw [e] at hp
  simp at hp
  rcases hp with hp | rfl
  · exact key places (#[], 0) (by simp) p (by simpa using hp)
  · simp

section
variable {prog : Program} {w : World} {k : Nat} {a : List Nat} {c : Nat}
theorem m_splitB (ha : a.length ≤ 100000) : Mth prog w k (PySem.Str.ofString "split") (.txt true a) [.txt true [c]] (.list (txts true (splitL c a))) := by
  refine ⟨"bytes", "bytes.split", W.FB.plainAttrs_bytes, slot_spB, ty_spB, fun Z s v r => ⟨r.txt_type, r.txt_ref⟩, fun A Z s v vs R al r rs => ?_⟩
  obtain ⟨b, t, rfl, rfl⟩ := r
  obtain ⟨v2, rest, rfl, ⟨y, t', rfl, hy⟩, rr⟩ := rs
  cases rr
  obtain ⟨u, rfl, rfl⟩ := one_byte hy
  refine wpAny_call_entry slot_spB (W.typeIs_bytes s b t) entry_spB ?_ (args_spB _ _)
  simp at ha
  show wpAny _ A.in1 (Bytes.bindOptional "bytes.split" "split" ["sep", "maxsplit"] [.bytes #[u] t'] [] >>= _) _ _ s
  refine wpAny_bind (wpAny_of_eq (show Bytes.bindOptional "bytes.split" "split" ["sep", "maxsplit"] [.bytes #[u] t'] [] = pure [some (.bytes #[u] t'), none] from rfl) ?_)
  show wpAny _ A.in1 ((pure (-1) : Sem Int) >>= _) _ _ s
  refine wpAny_bind (wpAny_pure ?_)
  show wpAny _ A.in1 (Bytes.payload (.bytes b t) >>= _) _ _ s
  refine wpAny_bind (wpAny_of_eq (show Bytes.payload (.bytes b t) = pure b from rfl) ?_)
  show wpAny _ A.in1 (Bytes.bytesLike _ (.bytes #[u] t') >>= _) _ _ s
  refine wpAny_bind ?_
  unfold Bytes.bytesLike
  refine wpAny_bind (wpAny_of_eq W.KBy.buffer_eq (wpAny_pure ?_))
  show wpAny _ A.in1 (if (((Bytes.occurrences b #[u] 0 b.size).take (b.size + 1)).isEmpty) = true then _ else _) _ _ s
  have hpl : (Bytes.occurrences b #[u] 0 b.size).take (b.size + 1) = placesU u b.toList 0 := by
    rw [occ_bytes, List.take_of_length_le]
    have := placesU_length u b.toList 0
    simp at this; omega
  rw [hpl]
  have hlen : (splitL u.toNat (nums b)).length ≤ 100001 := by
    have := splitL_length u.toNat (nums b)
    simp [nums] at this ⊢; omega
  cases hq : placesU u b.toList 0 with
  | nil =>
    simp only [List.isEmpty_nil, if_true]
    refine wpAny_bind (wpAny_rule ?_)
    refine wpAny_bind ?_
    show wpAny _ A.in1 (typeOf (.bytes b t) >>= _) _ _ s
    refine wpAny_bind (wpAny_typeOf (W.typeIs_bytes s b t) (wpAny_pure ?_))
    refine wpAny_bind (wpAny_newList ?_ (by show 1 ≤ sizeLine; unfold sizeLine; omega))
    rw [placesU_nil hq]
    exact wpAny_pure ⟨_, rfl, .push, Rep.new_list (s := s) (Reps.cons (rep_bytes rfl) Reps.nil) al⟩
  | cons p ps =>
    simp only [List.isEmpty_cons, Bool.false_eq_true, if_false]
    show wpAny _ _ (List.mapM Bytes.Kind.bytes.new (Bytes.between b 1 ((Bytes.occurrences b #[u] 0 b.size).take (b.size + 1))) >>= _) _ _ _
    rw [hpl]
    refine wpAny_bind (mapM_bytes (Z := Z) (fun q hq => ?_) fun vs tk hr => ?_)
    · have := size_between b _ q hq; unfold sizeLine; omega
    · have hrl := (hr s.heap).length
      rw [between_split] at hr hrl
      refine wpAny_bind (wpAny_newList ?_ (by simp [txts] at hrl; rw [hrl]; unfold sizeLine; omega))
      exact wpAny_pure ⟨_, rfl, Ext.heap fun _ _ _ e => Heap.get?_push_of_some _ e, Rep.new_list (s := { s with toks := tk }) (hr _) al⟩
end
end Mine
end
section
open PySem PyProof.Rows PySem.SeqAt
set_option maxRecDepth 100000
set_option linter.unusedVariables false
set_option linter.unusedSimpArgs false
namespace Mine
open Builtin
theorem take_eq {id : String} {b : Array UInt8} {t : Tok} : Bytes.takeBufferQuiet? id (.bytes b t) 0 = pure (some (b, none)) := by
  unfold Bytes.takeBufferQuiet? Bytes.takeBuffer?
  rw [W.KBy.special_eq W.KBy.look_buffer, W.KBy.own_buffer]
  have : Bytes.buffer? id (.bytes b t) (full := (0 == Bytes.fullReadOnly)) = pure (some b) := W.KBy.buffer_eq
  simp only [pure_bind]
  rw [show (Bytes.buffer? id (Value.bytes b t) (full := (0 == Bytes.fullReadOnly))) = pure (some b) from this]
  kernel_rfl

def joinB (sep : Array UInt8) : List (Array UInt8) → Nat → Array UInt8 → Array UInt8
  | [], _, out => out
  | p :: ps, i, out => joinB sep ps (i + 1) ((if i > 0 then out ++ sep else out) ++ p)
theorem joinB_eq (sep : Array UInt8) : ∀ (l : List (Array UInt8)) (i : Nat) (out : Array UInt8), (l.zipIdx i).foldl (fun out x => (if x.2 > 0 then out ++ sep else out) ++ x.1) out = joinB sep l i out
  | [], _, _ => rfl
  | p :: l, i, out => by
    rw [List.zipIdx_cons, List.foldl_cons, joinB_eq]; rfl
theorem joinB_nums (u : UInt8) : ∀ (l : List (Array UInt8)) (i : Nat) (out : Array UInt8), nums (joinB #[u] l (i + 1) out) = nums out ++ (l.map fun p => u.toNat :: nums p).flatten
  | [], _, out => by simp [joinB]
  | p :: l, i, out => by
    rw [joinB, if_pos (by omega), joinB_nums u l (i + 1)]
    simp [nums]
theorem joinL_flat (c : Nat) : ∀ (p : List Nat) (l : List (List Nat)), joinL c (p :: l) = p ++ (l.map fun q => c :: q).flatten
  | p, [] => by simp [joinL]
  | p, q :: l => by rw [joinL, joinL_flat c q l]; simp
theorem joined_nums (u : UInt8) (l : List (Array UInt8)) : nums (Bytes.joined #[u] l) = joinL u.toNat (l.map nums) := by
  have e : Bytes.joined #[u] l = joinB #[u] l 0 #[] := by
    rw [← joinB_eq]; rfl
  rw [e]
  cases l with
  | nil => rfl
  | cons p l =>
    rw [joinB, if_neg (by omega), joinB_nums]
    simp only [List.map_cons, joinL_flat]
    simp [nums, Function.comp_def]
theorem size_fold (l : List (Array UInt8)) : ∀ k, l.foldl (fun x1 x2 => x1 + x2.size) k = k + ((l.map nums).map List.length).sum := by
  induction l with
  | nil => intro k; simp
  | cons p l ih => intro k; rw [List.foldl_cons, ih]; simp [nums]; omega
theorem joinL_le (c : Nat) (ps : List (List Nat)) : (joinL c ps).length ≤ (ps.map List.length).sum + ps.length := joinL_length c ps
section
variable {M : Model} {A : Around} {E : Value → Shared → Prop}
theorem joinLetGo_ok : ∀ {taken : List (Value × Option Value)} {keep : List Value} {s : Shared} {Q : Unit → Shared → Prop}, (∀ p ∈ taken, p.2 = none) → Q () s → wpAny M A (Bytes.joinLetGo taken keep) Q E s
  | [], _, _, _, _, h => wpAny_pure h
  | (x, none) :: rest, keep, s, Q, hp, h => by
    show wpAny M A (letGo [x] _ >>= fun _ => Bytes.joinLetGo rest keep) Q E s
    exact wpAny_bind (wpAny_letGo (joinLetGo_ok (fun p hq => hp p (List.mem_cons_of_mem _ hq)) h))
  | (x, some w) :: rest, _, _, _, hp, _ => by have := hp _ List.mem_cons_self; cases this
end
section
variable {prog : Program} {w : World} {k : Nat} {a : List Nat} {c : Nat}
theorem m_joinB {ps : List (List Nat)} (h : (ps.map List.length).sum + ps.length ≤ 1000000) : Mth prog w k (PySem.Str.ofString "join") (.txt true [c]) [.list (txts true ps)] (.txt true (joinL c ps)) := by
  refine ⟨"bytes", "bytes.join", W.FB.plainAttrs_bytes, slot_joB, ty_joB, fun Z s v r => ⟨r.txt_type, r.txt_ref⟩, fun A Z s v vs R al r rs => ?_⟩
  obtain ⟨b, t, rfl, hy⟩ := r
  obtain ⟨u, rfl, rfl⟩ := one_byte hy
  obtain ⟨v2, rest, rfl, ⟨D, ws, rfl, hn, hl, hr⟩, rr⟩ := rs
  cases rr
  refine wpAny_call_entry slot_joB (W.typeIs_bytes s #[u] t) entry_joB ?_ (args_joB _ _)
  obtain ⟨n, ho⟩ := id hl
  show wpAny _ A.in1 (Bytes.joinItems (.ref D) >>= _) _ _ s
  refine wpAny_bind ?_
  unfold Bytes.joinItems
  refine wpAny_bind (wpAny_typeOf hl.isList.typeIs ?_)
  show wpAny _ A.in1 (pure (Value.ref D)) _ _ s
  refine wpAny_pure ?_
  show wpAny _ A.in1 (seqItems? (.ref D) >>= _) _ _ s
  refine wpAny_bind (wpAny_seqItems ho rfl ?_)
  have hlen := hr.length
  simp [txts] at hlen
  have one : ∀ x, ws = [x] → ∃ b t, x = .bytes b t ∧ ps = [nums b] := fun x hx => by
    subst hx
    cases ps with
    | nil => simp at hlen
    | cons p ps =>
      obtain ⟨v', r', e, ⟨b, t', hv, hb⟩, r2⟩ := hr
      cases e; subst hv
      cases ps with
      | nil => exact ⟨b, t', rfl, by rw [hb]⟩
      | cons _ _ => simp at hlen
  have main : ∀ jp : Unit → Sem PySem.Fin, (jp = fun __r => do
        let __s ← forIn [:ws.toArray.size] ((#[] : Array (Array UInt8)), ([] : List (Value × Option Value))) fun i __s => do
              let __x ← seqItems? (Value.ref D)
              match __x with
                | some now =>
                  let x := now.getD i Value.none;
                  let jp := fun (_ : Unit) => do
                    let __x ← holding (x :: (Value.ref D :: List.flatMap (fun x => match x with | (y, u) => y :: u.toList) __s.snd)) (Bytes.takeBufferQuiet? (toString Bytes.Kind.bytes.name ++ toString ".join") x 0)
                    match __x with
                      | some (b, w) => do
                        let __x ← seqItems? (Value.ref D)
                        match __x with
                          | some after =>
                            if (after.size != ws.toArray.size) = true then do
                              rule (toString (toString Bytes.Kind.bytes.name ++ toString ".join") ++ toString ".changed-size")
                              Bytes.joinLetGo (__s.snd ++ [(x, w)]) []
                              raiseErrorWords "RuntimeError" "sequence changed size during iteration"
                              pure (ForInStep.yield (__s.fst.push b, __s.snd ++ [(x, w)]))
                            else pure (ForInStep.yield (__s.fst.push b, __s.snd ++ [(x, w)]))
                          | _ => do
                            unsupported (toString "internal:" ++ toString (toString Bytes.Kind.bytes.name ++ toString ".join"))
                            pure (ForInStep.yield (__s.fst.push b, __s.snd ++ [(x, w)]))
                      | _ => do
                        rule (toString (toString Bytes.Kind.bytes.name ++ toString ".join") ++ toString ".item-not-bytes-like")
                        holding (x :: List.drop 1 (Value.ref D :: List.flatMap (fun x => match x with | (y, u) => y :: u.toList) __s.snd)) point
                        Bytes.joinLetGo __s.snd [x]
                        let __do_lift ← typeNameOf x
                        raiseErrorMade "TypeError" (toString "sequence item " ++ toString i ++ toString ": expected a bytes-like object, " ++ toString __do_lift ++ toString " found")
                        pure (ForInStep.yield (__s.fst, __s.snd))
                  if (Bytes.Kind.bytes == Bytes.Kind.bytearray || __s.snd.any fun x => x.fst.onHeap) = true then do
                    let __do_lift ← specialOf x (PySem.Str.ofString "__buffer__")
                    match __do_lift with
                      | none => jp ()
                      | some (Value.builtin iid) => jp ()
                      | some val => do
                        let __r ← unsupported (toString (toString Bytes.Kind.bytes.name ++ toString ".join") ++ toString ":buffer")
                        jp __r
                  else jp ()
                | _ => do
                  unsupported (toString "internal:" ++ toString (toString Bytes.Kind.bytes.name ++ toString ".join"))
                  pure (ForInStep.yield (__s.fst, __s.snd))
        let sep ← Bytes.payload (Value.bytes #[u] t)
        let jp2 : Unit → Sem PySem.Fin := fun _ => do
          let result ← Bytes.Kind.bytes.new (Bytes.joined sep __s.fst.toList)
          holding (result :: List.flatMap (fun x => match x with | (y, u) => y :: u.toList) __s.snd) point
          Bytes.joinLetGo __s.snd [result]
          ret result
        if Bytes.tooLong (Array.foldl (fun x1 x2 => x1 + x2.size) (sep.size * (__s.fst.size - 1)) __s.fst) = true then do
            let __r ← unsupported (toString (toString Bytes.Kind.bytes.name ++ toString ".join") ++ toString ":memory")
            jp2 __r
          else jp2 ()) → wpAny (model prog w) A.in1 (jp ()) (fun fin s' => ∃ v, fin = PySem.Fin.done (Flow.ret v) ∧ Ext [] s s' ∧ Rep Z s'.heap (Mine.D.txt true (joinL u.toNat ps)) v) No s := by
    rintro jp rfl
    refine wpAny_bind ?_
    rw [Std.Legacy.Range.forIn_eq_forIn_range']
    refine wpAny_forIn_list _ (fun rest b s' => ∃ i, i ≤ ws.length ∧ rest = List.range' i (ws.length - i) ∧ s' = s ∧ b.1.toList.map nums = ps.take i ∧ ∀ p ∈ b.2, (∃ x t, p.1 = .bytes x t) ∧ p.2 = none) _ ?turn ?fin _ _ ⟨0, Nat.zero_le _, by simp [Std.Legacy.Range.size], rfl, by simp, by simp⟩
    case turn =>
      rintro x rest ⟨parts, taken⟩ s' ⟨i, hi, hrest, rfl, hpp, htk⟩
      have hlt : i < ws.length := by
        refine Classical.byContradiction fun q => ?_
        have : ws.length - i = 0 := by omega
        rw [this] at hrest; simp at hrest
      have hsplit : ws.length - i = (ws.length - (i + 1)) + 1 := by omega
      rw [hsplit, List.range'_succ] at hrest
      injection hrest with hx hrest
      subst hx
      have hps : x < ps.length := by omega
      obtain ⟨v', hv', b, t', rfl, hb⟩ := hr.get (i := x) (d := .txt true ps[x]) (by simp [txts, List.getElem?_eq_getElem hps])
      dsimp only
      refine wpAny_bind (wpAny_seqItems ho rfl ?_)
      dsimp only
      have hx' : (ws.toArray).getD x Value.none = .bytes b t' := by
        have : ws[x] = .bytes b t' := by rw [List.getElem?_eq_getElem hlt] at hv'; exact Option.some.inj hv'
        simp [hlt, this]
      rw [hx']
      have hany : (taken.any fun x => x.fst.onHeap) = false := by
        rw [List.any_eq_false]
        intro p hp
        obtain ⟨⟨y, t2, e⟩, _⟩ := htk p hp
        rw [e]; simp [Value.onHeap]
      rw [hany]
      rw [if_neg (by decide)]
      refine wpAny_bind (wpAny_holding ?_)
      rw [take_eq]
      refine wpAny_pure ?_
      dsimp only
      refine wpAny_bind (wpAny_seqItems ho rfl ?_)
      dsimp only
      rw [if_neg (by simp)]
      refine wpAny_pure ⟨x + 1, hlt, hrest, rfl, ?_, ?_⟩
      · rw [List.take_add_one, List.getElem?_eq_getElem hps]
        simp [hpp, ← hb, nums]
      · intro p hp
        rcases List.mem_append.mp hp with hp | hp
        · exact htk p hp
        · rw [List.mem_singleton.mp hp]; exact ⟨⟨b, t', rfl⟩, rfl⟩
    case fin =>
      rintro ⟨parts, taken⟩ s' ⟨i, hi, hrest, rfl, hpp, htk⟩
      have hin : i = ws.length := by
        refine Classical.byContradiction fun q => ?_
        have hsplit : ws.length - i = (ws.length - (i + 1)) + 1 := by omega
        rw [hsplit, List.range'_succ] at hrest
        simp at hrest
      subst hin
      rw [List.take_of_length_le (by omega)] at hpp
      dsimp only
      refine wpAny_bind (wpAny_of_eq (show Bytes.payload (.bytes #[u] t) = pure #[u] from rfl) ?_)
      have hpl : parts.size = ps.length := by rw [← hpp]; simp
      have hsz : Array.foldl (fun x1 x2 => x1 + x2.size) ((#[u] : Array UInt8).size * (parts.size - 1)) parts ≤ 1000000 := by
        rw [← Array.foldl_toList, size_fold, hpp, hpl]
        simp; omega
      rw [if_neg (by unfold Bytes.tooLong sizeLine; rw [decide_eq_true_eq]; omega)]
      have hj : nums (Bytes.joined #[u] parts.toList) = joinL u.toNat ps := by rw [joined_nums, hpp]
      have hjs : (Bytes.joined #[u] parts.toList).size ≤ 1000000 := by
        have h1 : (nums (Bytes.joined #[u] parts.toList)).length ≤ (ps.map List.length).sum + ps.length := by rw [hj]; exact joinL_le u.toNat ps
        simp [nums] at h1; omega
      refine wpAny_bind (wpAny_mkBytes ?_ (by unfold sizeLine; omega))
      refine wpAny_bind (wpAny_holding (wpAny_point ?_))
      refine wpAny_bind (joinLetGo_ok (fun p hp => (htk p hp).2) ?_)
      exact wpAny_pure ⟨_, rfl, .toks, rep_bytes hj⟩
  by_cases hone : ∃ x, ws = [x]
  · obtain ⟨x, rfl⟩ := hone
    obtain ⟨b, t', rfl, rfl⟩ := one x rfl
    show wpAny _ _ (typeOf (.bytes b t') >>= _) _ _ _
    refine wpAny_bind (wpAny_typeOf (W.typeIs_bytes s b t') ?_)
    show wpAny _ _ (rule _ >>= _) _ _ _
    refine wpAny_bind (wpAny_rule (wpAny_pure ⟨_, rfl, .refl, ?_⟩))
    exact rep_bytes (by simp [joinL])
  · cases ws with
    | nil => exact main _ rfl
    | cons x ws =>
      cases ws with
      | nil => exact absurd ⟨x, rfl⟩ hone
      | cons y r => exact main _ rfl
end
end Mine
end
section
open PySem PyProof.Rows PySem.SeqAt
set_option maxRecDepth 100000
set_option linter.unusedVariables false
set_option linter.unusedSimpArgs false
namespace Mine
open Builtin

def hashB (b : Bool) : Int := if b then 1 else 0
def setObj0 (led : Bool) : Obj := { cls := .type "set", data := .set #[] 0 (.fresh 0 0 led) }
def tab1 (led b : Bool) : SetTable := { mask := 7, place := #[if b then 1 else 0], dummies := #[], finger := 0, led := led, moves := 0, plain := true }
def setObj1 (led b : Bool) : Obj := { cls := .type "set", data := .set #[(hashB b, .bool b)] 1 (tab1 led b) }
theorem layNew_1 (led b : Bool) : layNew (.fresh 0 0 led) #[] (hashB b) (.bool b) = (#[(hashB b, .bool b)], tab1 led b, false, false) := by cases led <;> cases b <;> kernel_rfl
theorem tooFull_1 (led b : Bool) : (tab1 led b).tooFull = false := by cases led <;> cases b <;> kernel_rfl
theorem fits_0 (led : Bool) : (SetTable.fresh 0 0 led).fits (#[] : Array (Int × Value)).size = true := by cases led <;> kernel_rfl
theorem fits_1 (led b : Bool) : (tab1 led b).fits (#[(hashB b, Value.bool b)] : Array (Int × Value)).size = true := by cases led <;> cases b <;> kernel_rfl
theorem plain_1 (led b : Bool) : (tab1 led b).plain = true := rfl
theorem byScan_0 (b : Bool) : byScan (.bool b) #[] = true := by cases b <;> kernel_rfl
theorem byScan_1 (b : Bool) : byScan (.bool b) #[(hashB b, Value.bool b)] = true := by cases b <;> kernel_rfl

section
variable {prog : Program} {w : World} {A : Around} {E : Value → Shared → Prop} {s : Shared} {a : Addr} {led b : Bool}
theorem pyHash_bool {Q : Int → Shared → Prop} (h : Q (hashB b) { s with toks := s.toks + 1 }) : wpAny (model prog w) A (pyHash (.bool b)) Q E s := by
  have hT : s.TypeIs (.bool b) "bool" := rfl
  unfold pyHash
  have hv : [Value.bool b].any Value.onHeap = false := rfl
  refine wpAny_bind ?_
  rw [cRoomFor, if_neg (by rw [hv]; exact Bool.false_ne_true)]; refine wpAny_pure ?_
  refine wpAny_bind (wpAny_specialOf hT F.slot_bool_hash.lookup ?_)
  show wpAny _ _ (if (some (Value.builtin "int.__hash__") == some Value.none) = true then _ else _) Q E s
  rw [if_neg (by rw [beq_builtin_none]; exact Bool.false_ne_true)]
  refine wpAny_bind (wpAny_specialOf hT F.slot_bool_hash.lookup ?_)
  show wpAny _ _ (callSpecialIfBoundUnlessNone? (.bool b) "__hash__" _ >>= _) Q E s
  have key : wpAny (model prog w) A.in1 («int.__hash__» { pos := [Value.bool b] }) (fun fin s' => ∃ v, fin = PySem.Fin.done (Flow.ret v) ∧ ∃ t, v = .int (hashB b) t ∧ s' = { s with toks := s.toks + 1 }) E s := by
    cases b
    · exact (show wpAny (model prog w) A.in1 (do ret (← mkInt 0)) _ _ s from wpAny_ret_mkInt ⟨_, rfl, rfl⟩)
    · exact (show wpAny (model prog w) A.in1 (do ret (← mkInt 1)) _ _ s from wpAny_ret_mkInt ⟨_, rfl, rfl⟩)
  refine wpAny_bind (wpAny_callSpecialIfBoundUnlessNone?_slot hT F.slot_bool_hash (wpAny_call_entry F.slot_bool_hash hT F.entry_int_hash (wpAny_mono key (fun fin s' hf => ?_) fun _ _ e => e) (F.args_int_hash_1 _)))
  obtain ⟨v, hv, t, rfl, rfl⟩ := hf
  refine ⟨_, hv, ?_⟩
  cases b
  · exact wpAny_pure h
  · exact wpAny_pure h
theorem add_first {Q : Value → Shared → Prop} (ho : s.heap.get? a = some (setObj0 led)) (h : ∀ h', Heap.SameBut a s.heap h' → h'.get? a = some (setObj1 led b) → Q .none { s with heap := h', toks := s.toks + 1 }) :
    wpAny (model prog w) A (call (.builtin "set.add") [.ref a, .bool b]) Q E s := by
  have hT : s.TypeIs (.ref a) "set" := ⟨_, ho, rfl⟩
  refine wpAny_call_entry F.slot_set_add hT F.entry_set_add ?_ (F.args_set_add_2 _ _)
  unfold Builtin.«set.add» Builtin.Frozenset.oneOther
  simp only [List.isEmpty_nil, bind_assoc]
  unfold Builtin.Frozenset.addrOf setAdd
  refine wpAny_bind (wpAny_pure ?_)
  try dsimp only
  refine wpAny_bind (wpAny_pure ?_)
  try dsimp only
  refine wpAny_bind ?_
  refine wpAny_holding ?_
  refine wpAny_bind (pyHash_bool ?_)
  unfold setAddHashed setAddHashedIn
  refine wpAny_holding (wpAny_bind (wpAny_setState_of (s := { s with toks := s.toks + 1 }) ho rfl (fits_0 led) ?_))
  dsimp only
  rw [byScan_0]
  simp only [↓reduceIte]
  unfold setAddByScan
  refine wpAny_bind ?_
  refine wpAny_bind (wpAny_rule ?_)
  refine wpAny_bind (m := setScan a (.bool b) (hashB b) true #[]) ?_
  show wpAny _ _ (pure ScanMet.absent) _ _ _
  refine wpAny_pure ?_
  dsimp only
  rw [layNew_1]
  dsimp only
  refine wpAny_bind (wpAny_pure ?_)
  rw [if_pos (plain_1 led b)]
  refine wpAny_bind ?_
  rw [hashByValue_scannable 8 (show (Value.bool b).scannable = true from rfl)]
  refine wpAny_pure ?_
  simp only [show plainKind (Value.bool b) = true from rfl, if_true]
  refine wpAny_bind (wpAny_storeSet_of (s := { s with toks := s.toks + 1 }) ho rfl ?_ (by show 1 ≤ sizeLine; unfold sizeLine; omega))
  rw [tooFull_1]
  simp only [Bool.and_false, Bool.false_eq_true, if_false]
  refine wpAny_pure (wpAny_pure (wpAny_pure ⟨_, rfl, h _ (Heap.SameBut.update ..) ?_⟩))
  have := Heap.get?_update_self (Obj.putSet #[(hashB b, .bool b)] (tab1 led b)) ho rfl
  exact this
theorem add_again {Q : Value → Shared → Prop} (ho : s.heap.get? a = some (setObj1 led b)) (h : Q .none { s with toks := s.toks + 1 }) :
    wpAny (model prog w) A (call (.builtin "set.add") [.ref a, .bool b]) Q E s := by
  have hT : s.TypeIs (.ref a) "set" := ⟨_, ho, rfl⟩
  refine wpAny_call_entry F.slot_set_add hT F.entry_set_add ?_ (F.args_set_add_2 _ _)
  unfold Builtin.«set.add» Builtin.Frozenset.oneOther
  simp only [List.isEmpty_nil, bind_assoc]
  unfold Builtin.Frozenset.addrOf setAdd
  refine wpAny_bind (wpAny_pure ?_)
  try dsimp only
  refine wpAny_bind (wpAny_pure ?_)
  try dsimp only
  refine wpAny_bind ?_
  refine wpAny_holding ?_
  refine wpAny_bind (pyHash_bool ?_)
  unfold setAddHashed setAddHashedIn
  refine wpAny_holding (wpAny_bind (wpAny_setState_of (s := { s with toks := s.toks + 1 }) ho rfl (fits_1 led b) ?_))
  dsimp only
  rw [byScan_1]
  simp only [↓reduceIte]
  unfold setAddByScan
  refine wpAny_bind ?_
  refine wpAny_bind (wpAny_rule ?_)
  refine wpAny_bind (m := setScan a (.bool b) (hashB b) true #[(hashB b, .bool b)]) ?_
  show wpAny _ _ (if (hashB b == hashB b) = true then _ else _) _ _ _
  rw [if_pos (by simp)]
  refine wpAny_bind (wpAny_setEpoch_of (s := { s with toks := s.toks + 1 }) ho rfl (fits_1 led b) ?_)
  refine wpAny_bind (EqAt.same (A := A.in1) (s := { s with toks := s.toks + 1 }) (.bool b) prog w _ _ ?_)
  simp only [Bool.and_self, if_true]
  exact wpAny_pure (wpAny_pure (wpAny_pure (wpAny_pure ⟨_, rfl, h⟩)))

/-- the iterator of a set -/
def IsSetIter (h : Heap) (it a : Addr) (slot i : Nat) (s : Value) : Prop := h.get? it = some { cls := .type "set_iterator", data := .fields #[rawInt slot, rawInt i, s, rawInt 1, rawInt 1] }
end
theorem entry_set_iter : entryFor table "set.__iter__" = some Builtin.«frozenset.__iter__» :=
  entryFor_alias (id' := "frozenset.__iter__") (by kernel_rfl) rfl (by decide +kernel) (by kernel_rfl)
theorem slot_setiter_next : Slot "set_iterator" "__next__" "set_iterator.__next__" :=
  .of (owner := "set_iterator") (n := "__next__") (by rw [typeLookup_type, builtinLookup_eq_fast]; kernel_rfl) (by decide +kernel) (by decide +kernel) (by decide +kernel)
    (by first | exact .inl (by decide +kernel) | exact .inr (by decide +kernel)) (by rw [isSubtype_type]; kernel_rfl)
theorem entry_setiter_next : entryFor table "set_iterator.__next__" = some Builtin.«set_iterator.__next__» := entryFor_of_tree (by kernel_rfl)
theorem args_setiter_next (a : Value) : argsOk "set_iterator.__next__" ⟨[a], []⟩ := by unfold argsOk; kernel_rfl
section
variable {prog : Program} {w : World} {A : Around} {E : Value → Shared → Prop} {s : Shared} {a : Addr} {b : Bool}
theorem iter_set {led : Bool} {Q : Value → Shared → Prop} (ho : s.heap.get? a = some (setObj1 led b))
    (hQ : Q (.ref s.heap.objs.size) { s with heap := s.heap.push { cls := .type "set_iterator", data := .fields #[rawInt 0, rawInt 0, .ref a, rawInt 1, rawInt 1] } }) : wpAny (model prog w) A (pyIter (.ref a)) Q E s := by
  have hT : s.TypeIs (.ref a) "set" := ⟨_, ho, rfl⟩
  refine wpAny_pyIter_slot hT F.slot_set_iter (wpAny_call_entry F.slot_set_iter hT entry_set_iter ?_ (F.args_set_iter_1 _))
  show wpAny _ _ (Builtin.Frozenset.sizeOf a >>= _) _ _ s
  refine wpAny_bind (wpAny_bind (wpAny_setEntries_of ho rfl (fits_1 led b) (wpAny_pure ?_)))
  show wpAny _ _ (setDrawn a >>= _) _ _ s
  refine wpAny_bind ?_
  unfold setDrawn
  refine wpAny_bind (wpAny_setState_of ho rfl (fits_1 led b) ?_)
  dsimp only
  refine wpAny_bind ?_
  unfold setsByText
  refine wpAny_bind (wpAny_askSetting (wpAny_pure ?_))
  refine wpAny_pure ?_
  rw [if_neg (fun q => by rw [Bool.and_eq_true] at q; exact Bool.false_ne_true (show false = true from q.2))]
  refine wpAny_bind (wpAny_pure ?_)
  refine wpAny_bind (wpAny_setEpoch_of ho rfl (fits_1 led b) ?_)
  exact wpAny_bind (wpAny_newObj_type (wpAny_pure ⟨_, rfl, "set_iterator", _, ⟨_, Heap.get?_push_size _ rfl, rfl⟩, slot_setiter_next.lookup, hQ⟩))

/-- one step, or the end -/
def slotOf (byText b : Bool) (i : Nat) : Nat := if byText then 0 else if i = 0 then 0 else (if b then 2 else 1)
theorem pick_one {α : Type} (f : Nat → Nat) (x : α) : pickOrder f #[x] = #[x] := by
  unfold pickOrder
  simp [pickOrder.go, Nat.mod_one]
theorem setNext_ok {i : Nat} (hi : i ≤ 1) {Q : Option (Value × Nat) → Shared → Prop} (ho : s.heap.get? a = some (setObj1 (!w.params.followText "set-order") b))
    (h : Q (if i = 0 then some (.bool b, slotOf (w.params.followText "set-order") b 1) else none) s) : wpAny (model prog w) A (setNext a (slotOf (w.params.followText "set-order") b i) i 1) Q E s := by
  unfold setNext
  refine wpAny_bind (wpAny_setState_of ho rfl (fits_1 _ b) ?_)
  dsimp only
  refine wpAny_bind ?_
  unfold setsByText
  refine wpAny_bind (wpAny_askSetting (wpAny_pure ?_))
  show wpAny _ _ (if (w.params.followText "set-order") = true then _ else _) _ _ _
  cases hbt : w.params.followText "set-order" with
  | true =>
    rw [if_pos rfl, if_neg (by simp)]
    refine wpAny_bind ?_
    unfold setWalk
    refine wpAny_bind (wpAny_setState_of ho rfl (fits_1 _ b) ?_)
    dsimp only
    refine wpAny_bind ?_
    unfold setsByText
    refine wpAny_bind (wpAny_askSetting (wpAny_pure ?_))
    show wpAny _ _ (if (w.params.followText "set-order") = true then _ else _) _ _ _
    rw [hbt, if_pos rfl]
    refine wpAny_bind (wpAny_askSetting (wpAny_pure ?_))
    rw [pick_one]
    refine wpAny_pure ?_
    rw [hbt] at h
    have : i = 0 ∨ i = 1 := by omega
    rcases this with rfl | rfl
    · simpa [slotOf] using h
    · simpa [slotOf] using h
  | false =>
    rw [if_neg (by simp)]
    show wpAny _ _ (if false = true then _ else _) _ _ _
    rw [if_neg (by simp)]
    rw [hbt] at h
    refine wpAny_bind (m := pure ()) (wpAny_pure ?_)
    refine wpAny_pure ?_
    have : i = 0 ∨ i = 1 := by omega
    rcases this with rfl | rfl
    · cases b
      · exact h
      · exact h
    · cases b
      · exact h
      · exact h
theorem next_set_item {it : Addr} {Q : Option Value → Shared → Prop} (hne : it ≠ a) (hi : IsSetIter s.heap it a 0 0 (.ref a)) (ho : s.heap.get? a = some (setObj1 (!w.params.followText "set-order") b))
    (hQ : ∀ h', Heap.SameBut it s.heap h' → IsSetIter h' it a (slotOf (w.params.followText "set-order") b 1) 1 (.ref a) → Q (some (.bool b)) { s with heap := h' }) : wpAny (model prog w) A (pyNext (.ref it)) Q E s := by
  have hT : s.TypeIs (.ref it) "set_iterator" := ⟨_, hi, rfl⟩
  unfold pyNext
  refine wpAny_bind (wpAny_attempt (wpAny_callSpecial?_slot (name := PySem.Str.ofString "__next__") hT slot_setiter_next
    (wpAny_call_entry slot_setiter_next hT entry_setiter_next ?_ (args_setiter_next _))))
  show wpAny _ _ (fieldsOf (.ref it) >>= _) _ _ s
  refine wpAny_bind ?_
  show wpAny _ _ (load it >>= _) _ _ s
  refine wpAny_bind (wpAny_load hi (wpAny_pure ?_))
  show wpAny _ _ (setEntries a >>= _) _ _ s
  refine wpAny_bind (wpAny_setEntries_of ho rfl (fits_1 _ b) ?_)
  rw [if_neg (by simp)]
  show wpAny _ _ (setNext a 0 0 1 >>= _) _ _ s
  refine wpAny_bind ?_
  have e0 : slotOf (w.params.followText "set-order") b 0 = 0 := by unfold slotOf; simp
  have e1 : setNext a 0 0 1 = setNext a (slotOf (w.params.followText "set-order") b 0) 0 1 := by rw [e0]
  rw [e1]
  refine setNext_ok (by omega) ho ?_
  simp only [if_true]
  show wpAny _ _ (setField (.ref it) 0 _ >>= _) _ _ s
  refine wpAny_bind (wpAny_setField_rec hi (by simp) fun h₁ hi₁ hs₁ => ?_)
  refine wpAny_bind (wpAny_setField_rec hi₁ (by simp) fun h₂ hi₂ hs₂ => ?_)
  exact wpAny_pure ⟨_, rfl, wpAny_pure (hQ _ (hs₁.trans hs₂) hi₂)⟩
theorem next_set_end {it : Addr} {Q : Option Value → Shared → Prop} (hh : A.handled = none) (hi : IsSetIter s.heap it a (slotOf (w.params.followText "set-order") b 1) 1 (.ref a)) (ho : s.heap.get? a = some (setObj1 (!w.params.followText "set-order") b))
    (hQ : ∀ h', Heap.ExtBut it s.heap h' → Q none { s with heap := h' }) : wpAny (model prog w) A (pyNext (.ref it)) Q E s := by
  have hT : s.TypeIs (.ref it) "set_iterator" := ⟨_, hi, rfl⟩
  unfold pyNext
  refine wpAny_bind (wpAny_attempt (wpAny_callSpecial?_slot (name := PySem.Str.ofString "__next__") hT slot_setiter_next
    (wpAny_call_entry slot_setiter_next hT entry_setiter_next ?_ (args_setiter_next _))))
  show wpAny _ _ (fieldsOf (.ref it) >>= _) _ _ s
  refine wpAny_bind ?_
  show wpAny _ _ (load it >>= _) _ _ s
  refine wpAny_bind (wpAny_load hi (wpAny_pure ?_))
  show wpAny _ _ (setEntries a >>= _) _ _ s
  refine wpAny_bind (wpAny_setEntries_of ho rfl (fits_1 _ b) ?_)
  rw [if_neg (by simp)]
  show wpAny _ _ (setNext a (slotOf (w.params.followText "set-order") b 1) 1 1 >>= _) _ _ s
  refine wpAny_bind (setNext_ok (by omega) ho ?_)
  simp only [Nat.one_ne_zero, if_false]
  show wpAny _ _ (setField (.ref it) 2 .none >>= _) _ _ s
  refine wpAny_bind (wpAny_setField_rec hi (by simp) fun h₁ hi₁ hs₁ => ?_)
  show wpAny _ _ (newExc (.type "StopIteration") [] >>= _) _ _ _
  refine wpAny_bind ?_
  simp only [newExc, newTuple]
  refine wpAny_bind (wpAny_newObj_type ?_ (by size_fits))
  refine wpAny_bind (m := firstArgMember _ _) (wpAny_of_eq (a := Value.none) (by first | rfl | (simp only [firstArgMember]; rfl)) ?_)
  refine wpAny_newObj_type ?_ (by size_fits)
  simp only [raiseNew]
  refine wpAny_bind (wpAny_handled ?_)
  rw [show A.in1.handled = none from hh]
  refine wpAny_bind (wpAny_pure (wpAny_throw ?_))
  refine wpAny_bind (wpAny_isInstance (T := "StopIteration") (b := true) ⟨_, Heap.get?_push_size _ rfl, rfl⟩ isSubtype_stop ?_)
  exact wpAny_pure (hQ _ ((hs₁.extBut.push _).push _))
theorem unpack_set {env : Env} {elt : Expr} {x1 : Nat} {pos : Pos} {Q : Unit → Shared → Prop} (hh : A.handled = none) (ho : s.heap.get? a = some (setObj1 (!w.params.followText "set-order") b))
    (he : assignEach [elt] env = [(false, PySem.assign elt env)])
    (h : ∀ h', (∀ c o, s.heap.get? c = some o → h'.get? c = some o) → wpAny (model prog w) A (PySem.assign elt env (.bool b)) Q E { s with heap := h' }) : wpAny (model prog w) A (PySem.assign (.Tuple [elt] x1 pos) env (.ref a)) Q E s := by
  have hT : s.TypeIs (.ref a) "set" := ⟨_, ho, rfl⟩
  rw [arm_assign_Tuple, he]
  refine wpAny_bind (wpAny_standAt ?_)
  unfold unpack
  refine wpAny_bind (wpAny_holding ?_)
  show wpAny _ _ (unpackItems (.ref a) 1 none) _ _ _
  unfold unpackItems
  refine wpAny_bind ?_
  unfold notIterableAtAll
  refine wpAny_bind (wpAny_specialOf hT F.slot_set_iter.lookup ?_)
  refine wpAny_pure ?_
  simp only [Bool.false_eq_true, if_false]
  refine wpAny_bind (wpAny_holding (iter_set ho ?_))
  have hne : s.heap.objs.size ≠ a := fun e => by rw [← e, PySem.Heap.get?_none_of_le (Nat.le_refl _)] at ho; cases ho
  have ho1 := Heap.get?_push_of_some { cls := .type "set_iterator", data := .fields #[rawInt 0, rawInt 0, .ref a, rawInt 1, rawInt 1] } ho
  refine wpAny_bind (wpAny_holding ?_)
  show wpAny _ _ (pyNext (.ref s.heap.objs.size) >>= _) _ _ _
  refine wpAny_bind (next_set_item hne (Heap.get?_push_size _ rfl) ho1 fun h₁ hs₁ hi₁ => ?_)
  have ho2 := (hs₁.2 a (Ne.symm hne)).trans ho1
  refine wpAny_bind (wpAny_holding (wpAny_pure (wpAny_pure ?_)))
  rw [if_neg (by simp)]
  refine wpAny_bind (wpAny_holding (next_set_end (s := { s with heap := h₁ }) hh hi₁ ho2 fun h₂ hs₂ => ?_))
  rw [if_neg (by simp)]
  refine wpAny_pure ?_
  show wpAny _ _ (assignInOrder [PySem.assign elt env] [.bool b]) _ _ _
  refine wpAny_bind (wpAny_holding ?_)
  refine wpAny_mono (h h₂ fun c o e => ?_) (fun _ _ q => wpAny_pure q) fun _ _ e => e
  have hc : c ≠ s.heap.objs.size := Nat.ne_of_lt (Heap.lt_size e)
  exact hs₂ c o hc ((hs₁.2 c hc).trans (Heap.get?_push_of_some _ e))
end
end Mine
end
section
open PySem PyProof.Rows PySem.SeqAt
set_option maxRecDepth 100000
set_option linter.unusedVariables false
set_option linter.unusedSimpArgs false
namespace Mine
open Builtin

theorem compTurn_set (elt target iter : Expr) (scope : Scope) (pos : Pos) (it acc : Value) (env : Env) :
    compTurn (.SetComp elt [⟨target, iter, [], 0⟩] scope pos) 0 it acc env = (do
      standAt iter.pos
      match ← pyNext it with
      | none => pure (.done .next)
      | some v => do
        letOwnedTupleGo target it v
        assign target env v
        let ok ← forIn ([] : List Expr) true fun c r => if r = true then do let ok ← isTrue c env (eval c env); pure (ForInStep.yield ok) else pure (ForInStep.yield r)
        if ok then
          (do let v ← eval elt env; standAt elt.pos; let _ ← call (.builtin "set.add") [acc, v])
        again (.compLoop (.SetComp elt [⟨target, iter, [], 0⟩] scope pos) 0 it acc env)) := by rfl

section
variable {prog : Program} {w : World} {A : Around} {E : Value → Shared → Prop} {R : Result → Shared → Prop} {s : Shared}
theorem newSet_ok {Q : Value → Shared → Prop} (h : Q (.ref s.heap.objs.size) { s with heap := s.heap.push (setObj0 (!w.params.followText "set-order")) }) : wpAny (model prog w) A (newSet (.type "set")) Q E s := by
  unfold newSet setsByText
  refine wpAny_bind (wpAny_bind (wpAny_askSetting (wpAny_pure ?_)))
  dsimp only
  simp only [newObj]
  exact wpAny_bind (wpAny_alloc (wpAny_pure h))
theorem compStart_set {elt target iter : Expr} {scope : Scope} {pos : Pos} {it acc : Value} {env : Env}
    (h0 : codeAny (model prog w) A (.compLoop (.SetComp elt [⟨target, iter, [], 0⟩] scope pos) 0 it acc env) R s)
    (h : wpAny (model prog w) A (pyIter it) (fun it' s' => codeAny (model prog w) A (.compLoop (.SetComp elt [⟨target, iter, [], 0⟩] scope pos) 0 it' acc env) R s')
      (notedBy (model prog w) A env fun x s' => R (.error x) s') s) :
    codeAny (model prog w) A (.compStart (.SetComp elt [⟨target, iter, [], 0⟩] scope pos) 0 it acc env) R s := by
  refine codeAny_of_tree ?_
  show wpAny _ _ ((compStart (.SetComp elt [⟨target, iter, [], 0⟩] scope pos) 0 it acc env).onRaise (fun x => do noteFrame x env; standAt theWindowsPlace)) _ _ s
  refine wpAny_notedAt ?_
  unfold compStart
  show wpAny _ _ (ask >>= _) _ _ s
  refine wpAny_bind (wpAny_askSetting (wpAny_ite ?_))
  split
  · exact wpAny_pure ⟨rfl, h0⟩
  · refine wpAny_bind (wpAny_rule ?_)
    refine wpAny_bind (wpAny_standAt ?_)
    exact wpAny_bind (wpAny_mono h (fun _ _ q => wpAny_pure ⟨rfl, q⟩) fun _ _ e => e)
theorem compLoop_set {elt target iter : Expr} {scope : Scope} {pos : Pos} {it acc : Value} {env : Env} (I : Nat → Shared → Prop)
    (turn : ∀ n s, I n s → wpAny (model prog w) A (pyNext it) (fun r s₁ => match r with
      | none => R (.ok .next) s₁
      | some v => wpAny (model prog w) A (letOwnedTupleGo target it v) (fun _ s₁' => wpAny (model prog w) A (assign target env v) (fun _ s₂ =>
          wpAny (model prog w) A (eval elt env) (fun x s₄ =>
              wpAny (model prog w) A (call (.builtin "set.add") [acc, x]) (fun _ s₅ => ∃ m, m < n ∧ I m s₅) No s₄) No s₂) No s₁') No s₁) No s)
    (n : Nat) (h : I n s) :
    codeAny (model prog w) A (.compLoop (.SetComp elt [⟨target, iter, [], 0⟩] scope pos) 0 it acc env) R s := by
  refine codeAny_loop rfl I (fun n s hI => ?_) n h
  show wpAny _ A ((compTurn (.SetComp elt [⟨target, iter, [], 0⟩] scope pos) 0 it acc env).onRaise (fun x => do noteFrame x env; theTreesLotGoes x)) _ _ s
  refine wpAny_noted ?_
  rw [compTurn_set]
  refine wpAny_bind (wpAny_standAt (wpAny_bind (wp_no (turn n s hI) fun r s₁ h₁ => ?_)))
  cases r with
  | none => exact wpAny_pure h₁
  | some v =>
    refine wpAny_bind (wp_no h₁ fun _ s₁' h₁' => wpAny_bind (wp_no h₁' fun _ s₂ h₂ => wpAny_bind (wpAny_tests_nil ?_)))
    rw [if_pos rfl]
    exact wpAny_bind (wpAny_bind (wp_no h₂ fun x s₄ h₄ => wpAny_bind (wpAny_standAt (wpAny_bind (wp_no h₄ fun _ s₅ h₅ => wpAny_pure (wpAny_pure ⟨rfl, h₅⟩))))))
end
section
variable {prog : Program} {w : World} {k : Nat} {A : Around} {env : Env} {Z : List Addr} {s₁ : Shared} {ρ ρc : List (Str × B)}
theorem setcomp_core {elt iter : Expr} {x : Str} {p : Pos} {scope : Scope} {pos : Pos} {d : D} {ds : List D} {v : Value} {bb : Bool} {RR : Value → Addr → Result → Shared → Prop}
    (R : Rm k A) (g : RG env Z ρ s₁.heap) (r : Rep Z s₁.heap d v) (hd : itemsOf d = some ds) (hne : ds ≠ []) (hf : freeOk env scope = true) (hs : Sub ρ ρc) (hc : capOk scope ρc = true) (hdat : ∀ x b, ρc.lookup x = some b → ∃ d, b = .dat d)
    (hkind : scope.kind = .function) (hx : ∀ C, (compEnvC scope (capsOf env scope.names []) C env).kindOf x = some .local)
    (he : ∀ C (i : Nat) di, ds[i]? = some di → Ev prog w k (compEnvC scope (capsOf env scope.names []) C env) ((x, .dat di) :: ρc) elt (.bool bb))
    (hRR : ∀ D C s', s₁.heap.get? D = none → s₁.heap.get? C = none → D ≠ C → (∃ m, s'.heap.Ns C m) → s'.heap.get? D = some (setObj1 (!w.params.followText "set-order") bb) → Ext [] s₁ s' → RR (.ref D) C (.ok .next) s') :
    wpAny (model prog w) A (pyIter v) (fun it s₂ => wpAny (model prog w) A (newSet (.type "set")) (fun acc s₃ => wpAny (model prog w) A (newFunctionEnv scope env.globals (capsOf env scope.names []) [] env.qual none .none (some env)) (fun cenv s₄ =>
      codeAny (model prog w) A (.compStart (.SetComp elt [⟨.Name x p, iter, [], 0⟩] scope pos) 0 it acc { cenv with scope := relabel scope env }) (RR acc cenv.locals) s₄) No s₃) No s₂) No s₁ := by
  refine wp_no (iter_ok R.handled g.alive r hd) fun it s₂ ⟨x₂, I, St, hit, hn, st0, W⟩ => ?_
  subst hit
  have hcell : ∀ y ∈ scope.names, y.2 ≠ .cell := fun y hy q => by
    have := List.all_eq_true.mp hf y hy
    rw [q] at this; simp at this
  refine newSet_ok (wpAny_newFunctionEnv hcell (by intro y hy; simp at hy) (fun h₁ hns₁ hsb₁ => ?_) hkind)
  dsimp only at hns₁ hsb₁ ⊢
  generalize hH2 : s₂.heap.push (setObj0 (!w.params.followText "set-order")) = H2 at hns₁ hsb₁ ⊢
  generalize hDD : s₂.heap.objs.size = D₀ at *
  have hC : H2.objs.size = D₀ + 1 := by rw [← hH2, Heap.size_push, hDD]
  generalize hCC : H2.objs.size = C₀ at *
  have hDC : D₀ ≠ C₀ := by omega
  have fr2 : ∀ a, D₀ ≤ a → s₂.heap.get? a = none := fun a ha => PySem.Heap.get?_none_of_le (by omega)
  have fr1 : ∀ a, D₀ ≤ a → s₁.heap.get? a = none := fun a ha => by
    cases q : s₁.heap.get? a with
    | none => rfl
    | some o => have := x₂.keep _ _ q; rw [fr2 a ha] at this; cases this
  have hD1 := fr1 D₀ (Nat.le_refl _)
  have hC1 := fr1 C₀ (by omega)
  obtain ⟨oI, hoI⟩ := W.at_ _ _ st0
  have hID : I ≠ D₀ := fun q => by rw [q, fr2 D₀ (Nat.le_refl _)] at hoI; cases hoI
  have hIC : I ≠ C₀ := fun q => by rw [q, fr2 C₀ (by omega)] at hoI; cases hoI
  have old : ∀ b o, s₂.heap.get? b = some o → h₁.get? b = some o := fun b o e => by
    have hb : b ≠ C₀ := fun q => by rw [q, fr2 C₀ (by omega)] at e; cases e
    exact hsb₁.extBut b o hb (Heap.get?_push_of_some _ (hH2 ▸ Heap.get?_push_of_some _ e))
  have hacc : h₁.get? D₀ = some (setObj0 (!w.params.followText "set-order")) := hsb₁.extBut _ _ hDC (Heap.get?_push_of_some _ (hH2 ▸ (hDD ▸ Heap.get?_push_size _ rfl)))
  have hfree : ∀ p ∈ scope.names, p.2 = .free → (env.cells.lookup p.1).isSome = true := fun p hp h2 => by
    have := List.all_eq_true.mp hf p hp
    simp only [h2, beq_self_eq_true, if_true, Bool.and_eq_true] at this
    exact this.1
  have hcn := g.fn
  have e14 : Ext [] s₁ { s₂ with heap := h₁, toks := s₂.toks + ([] : List (Str × Value)).length } := x₂.trans (Ext.heap fun a o _ e => old a o e)
  let cenv := compEnvC scope (capsOf env scope.names []) C₀ env
  have hW : ∀ a ∈ [D₀, C₀, I], s₁.heap.get? a = none := fun a ha => by
    simp at ha; rcases ha with rfl | rfl | rfl
    · exact hD1
    · exact hC1
    · exact hn
  have cf : CF s₁ cenv ([D₀, C₀, I] ++ Z) ρc { s₂ with heap := h₁, toks := s₂.toks + ([] : List (Str × Value)).length } := by
    refine ⟨e14, g.top, hkind, g.gl, g.bi, fun a ha => ?_, by simp [cenv, compEnvC], hC1, ⟨_, hns₁⟩, fun y n e => g.cels y n (capsOf_sub hfree (by simp) e), hdat, fun y b e => ?_⟩
    · rcases List.mem_append.mp ha with ha | ha
      · simp at ha; rcases ha with rfl | rfl | rfl
        · exact ⟨_, hacc⟩
        · obtain ⟨o, _, _, q, _⟩ := hns₁; exact ⟨o, q⟩
        · exact ⟨_, old _ _ hoI⟩
      · obtain ⟨o, q⟩ := g.alive a ha; exact ⟨o, e14.keep _ _ q⟩
    · obtain ⟨d', rfl⟩ := hdat y b e
      obtain ⟨v', bd, rv⟩ := g.vars y _ (hs.get e)
      have hy : scope.names.lookup y = some .free := by
        have := List.all_eq_true.mp hc _ (mem_of_lookup e)
        simpa using this
      exact ⟨v', comp_bd hf hy (bd.keeps e14.keep), rv.more e14.keep hW⟩
  have loop : ∀ sX : Shared, sX = { s₂ with heap := h₁, toks := s₂.toks + ([] : List (Str × Value)).length } →
      codeAny (model prog w) A (.compLoop (.SetComp elt [⟨.Name x p, iter, [], 0⟩] scope pos) 0 (.ref I) (.ref D₀) cenv) (RR (.ref D₀) C₀) sX := by
    rintro sX rfl
    refine compLoop_set (fun m s' => ∃ i, m = ds.length + 1 - i ∧ i ≤ ds.length ∧ CF s₁ cenv ([D₀, C₀, I] ++ Z) ρc s' ∧ St i s'.heap ∧ s'.heap.get? D₀ = some (if i = 0 then setObj0 (!w.params.followText "set-order") else setObj1 (!w.params.followText "set-order") bb)) ?_ (ds.length + 1)
      ⟨0, rfl, Nat.zero_le _, cf, W.frame _ _ _ st0 (fun o e => old _ o e) (fun a o n e => old a o (W.kept _ _ st0 a o n e)), hacc⟩
    rintro m s' ⟨i, rfl, hi, cf', st, pl⟩
    by_cases hlt : i < ds.length
    · have hdi : ds[i]? = some ds[i] := List.getElem?_eq_getElem hlt
      refine W.item i _ s' _ _ hdi st fun v h' tk rv st' hk => ?_
      have cf2 : CF s₁ cenv ([D₀, C₀, I] ++ Z) ρc { s' with heap := h', toks := tk } := cf'.poke (c := I) (by simp) hn hIC hk (W.at_ _ _ st')
      have rv' : Rep ([D₀, C₀, I] ++ Z) h' ds[i] v := Rep.gen (W.kept _ _ st') (fun a o p q e => by
        rcases List.mem_append.mp p with p | p
        · rw [hW a p] at e; cases e
        · exact q p) rv
      have kz : ∀ {a b : Shared}, Ext [cenv.locals] a b → ∀ c o, c ∉ [D₀, C₀, I] ++ Z → a.heap.get? c = some o → b.heap.get? c = some o := fun x c o n e => x.kp c o (fun q => n (by rw [List.mem_singleton.mp q]; simp [cenv, compEnvC])) e
      have pl2 := hk _ _ (Ne.symm hID) pl
      refine wpAny_pure ?_
      refine CTgt.name (hx C₀) R.handled cf2 rv' fun s₃ e₃ cf3 => ?_
      have pl3 := e₃.kp _ _ (by simp [compEnvC, hDC]) pl2
      have nC : ∀ a o, s₁.heap.get? a = some o → a ∉ [cenv.locals] := fun a o e q => by
        have q' : a = C₀ := List.mem_singleton.mp q
        rw [q', hC1] at e; cases e
      have st3 : St (i + 1) s₃.heap := W.frame _ _ _ st' (fun o e => e₃.kp I o (fun q => hIC (List.mem_singleton.mp q)) e) fun a o n e => e₃.kp a o (nC a o e) (W.kept _ _ st' a o n e)
      have cf3' : CF s₁ cenv ([D₀, C₀, I] ++ Z) ρc s₃ := ⟨cf3.base, cf3.top, cf3.fn, cf3.gl, cf3.bi, cf3.alive, cf3.locZ, cf3.locN, cf3.ns, cf3.celB, hdat, fun y b e => by
        obtain ⟨d', rfl⟩ := hdat y b e
        obtain ⟨v', bd, rv⟩ := cf2.vars y _ e
        have hy : scope.names.lookup y = some .free := by
          have := List.all_eq_true.mp hc _ (mem_of_lookup e)
          simpa using this
        refine ⟨v', ?_, rv.kp (kz e₃)⟩
        rcases bd with ⟨k1, _⟩ | ⟨k1, n, en, ⟨o, ho, r1⟩⟩
        · have k2 : cenv.kindOf y = some .cell ∨ cenv.kindOf y = some .free := relabel_free hy
          rcases k2 with h | h <;> rw [k1] at h <;> cases h
        · refine .inr ⟨k1, n, en, ⟨o, e₃.kp n o (fun q => ?_) ho, r1⟩⟩
          obtain ⟨o', eo⟩ := cf2.celB y n en
          rw [show n = C₀ from List.mem_singleton.mp q, hC1] at eo; cases eo⟩
      refine wp_no (he C₀ i ds[i] hdi A _ s₃ R cf3.rg) fun xv s₅ ⟨e₅, rx⟩ => ?_
      cases rx
      have pl5 := e₅.keep _ _ pl3
      have st5 : St (i + 1) s₅.heap := W.frame _ _ _ st3 (fun o e => e₅.keep _ o e) fun a o n e => e₅.keep a o (W.kept _ _ st3 a o n e)
      by_cases h0 : i = 0
      · rw [if_pos h0] at pl5
        refine add_first pl5 fun h₆ hs6 pl6 => ?_
        refine ⟨ds.length + 1 - (i + 1), by omega, i + 1, rfl, hlt, (cf3'.ext e₅).poke (t := s₅.toks + 1) (c := D₀) (by simp) hD1 hDC (fun b o n e => (hs6.2 b n).trans e) ⟨_, pl6⟩, ?_, by simpa using pl6⟩
        exact W.frame _ _ _ st5 (fun o e => (hs6.2 _ hID).trans e) fun a o n e => (hs6.2 a fun q => by rw [q, hD1] at e; cases e).trans (W.kept _ _ st5 a o n e)
      · rw [if_neg h0] at pl5
        refine add_again pl5 ?_
        exact ⟨ds.length + 1 - (i + 1), by omega, i + 1, rfl, hlt, (cf3'.ext e₅).ext .toks, st5, by simpa using pl5⟩
    · have e : i = ds.length := by omega
      subst e
      refine W.done s' _ _ st fun h' tk hk => ?_
      have hl0 : ds.length ≠ 0 := fun q => hne (List.length_eq_zero_iff.mp q)
      rw [if_neg hl0] at pl
      refine hRR D₀ C₀ _ hD1 hC1 hDC ?_ (hk _ _ (Ne.symm hID) pl) ⟨fun a o _ e => hk a o (fun q => by rw [q, hn] at e; cases e) (cf'.base.keep a o e), cf'.base.os, cf'.base.gens⟩
      obtain ⟨m, o, es, ep, q, r⟩ := cf'.ns
      exact ⟨m, o, es, ep, hk _ _ (Ne.symm hIC) q, r⟩
  exact compStart_set (loop _ rfl) (W.self 0 _ _ _ (W.frame _ _ _ st0 (fun o e => old _ o e) fun a o n e => old a o (W.kept _ _ st0 a o n e)) (loop _ rfl))

/-- x, = {.. for ..}: all of one truth -/
theorem Run.setComp1 {s₀ sb : Shared} {Y X : List Addr} {rest : List Stmt} {Q : Flow → Shared → Prop} {y x : Str} {p py pos spos pt : Pos} {c : Nat} {elt iter : Expr} {scope : Scope} {d : D} {ds : List D} {bb : Bool} (R : Rm k A)
    (hkind : scope.kind = .function) (hf : freeOk env scope = true) (hnames : ∀ x ∈ scope.names, x.2 = .local → scope.names.lookup x.1 = some .local) (hfold : ∀ x, foldedSetIterable iter env x = pure x)
    (hi : Ev prog w k env ρ iter d) (hd : itemsOf d = some ds) (hne : ds ≠ []) (hs : Sub ρ ρc) (hc : capOk scope ρc = true) (hdat : ∀ x b, ρc.lookup x = some b → ∃ d, b = .dat d)
    (hx : ∀ C, (compEnvC scope (capsOf env scope.names []) C env).kindOf x = some .local)
    (he : ∀ C (i : Nat) di, ds[i]? = some di → Ev prog w k (compEnvC scope (capsOf env scope.names []) C env) ((x, .dat di) :: ρc) elt (.bool bb))
    (hy : Sto env y) (hr : Run prog w A s₀ sb Y env X ((y, .dat (.bool bb)) :: ρ) rest Q)
    (hex : ∀ (env : Env), exec (.Assign [.Tuple [.Name y py] c pt] (.SetComp elt [⟨.Name x p, iter, [], 0⟩] scope pos) spos) env = (do standAt spos; let v ← eval (.SetComp elt [⟨.Name x p, iter, [], 0⟩] scope pos) env; PySem.assign (.Tuple [.Name y py] c pt) env v; pure .next)) :
    Run prog w A s₀ sb Y env X ρ (.Assign [.Tuple [.Name y py] c pt] (.SetComp elt [⟨.Name x p, iter, [], 0⟩] scope pos) spos :: rest) Q := Run.stmt fun s g => by
  rw [hex]
  refine wpAny_bind (wpAny_standAt (wpAny_bind ?_))
  rw [arm_eval_SetComp]
  refine wpAny_comprehension_free (use := none) rfl hfold (closureFor_caps hf) hkind hnames (wp_no (hi A _ s R g.rg) fun v s₁ ⟨x₁, r₁⟩ => ?_)
  have g1 := g.ext x₁
  refine setcomp_core (bb := bb) (RR := fun acc C => compPost (model prog w) A No none _ acc C) R g1.rg r₁ hd hne hf hs hc hdat hkind hx he fun D₀ C₀ s' hD hC hDC hm pl x₂ => ?_
  obtain ⟨m, hm⟩ := hm
  refine ⟨m, hm, fun h'' hs'' => ?_⟩
  have e3 : Ext [] s₁ { s' with heap := h'' } := ⟨fun a o _ e => (hs''.2 a fun q => by rw [q, hC] at e; cases e).trans (x₂.keep a o e), x₂.os, x₂.gens⟩
  have pl3 := (hs''.2 _ hDC).trans pl
  refine wpAny_bind (unpack_set (s := { s' with heap := h'' }) R.handled pl3 rfl fun h₄ hk => ?_)
  have e4 : Ext [] s₁ { s' with heap := h₄ } := e3.trans ⟨fun a o _ e => hk a o e, rfl, rfl⟩
  refine wpAny_assign_Name ((g1.ext e4).put hy (d := .bool bb) rfl fun s₅ _ g5 => ?_)
  exact wpAny_pure (hr s₅ g5)
end
end Mine
end
section
open PySem PyProof.Rows PySem.SeqAt
set_option maxRecDepth 100000
set_option linter.unusedVariables false
set_option linter.unusedSimpArgs false
namespace Mine
open Builtin
open AutoSeq1 (wpAny_loadPart')

theorem slot_map_next : Slot "map" "__next__" "map.__next__" :=
  .of (owner := "map") (n := "__next__") (by rw [typeLookup_type, builtinLookup_eq_fast]; kernel_rfl) (by decide +kernel) (by decide +kernel) (by decide +kernel)
    (by first | exact .inl (by decide +kernel) | exact .inr (by decide +kernel)) (by rw [isSubtype_type]; kernel_rfl)
theorem entry_map_next : entryFor table "map.__next__" = some Builtin.«map.__next__» := entryFor_of_tree (by kernel_rfl)
theorem args_map_next (a : Value) : argsOk "map.__next__" ⟨[a], []⟩ := by unfold argsOk; kernel_rfl
theorem slot_map_iter : Slot "map" "__iter__" "map.__iter__" :=
  .of (owner := "map") (n := "__iter__") (by rw [typeLookup_type, builtinLookup_eq_fast]; kernel_rfl) (by decide +kernel) (by decide +kernel) (by decide +kernel)
    (by first | exact .inl (by decide +kernel) | exact .inr (by decide +kernel)) (by rw [isSubtype_type]; kernel_rfl)
theorem entry_map_iter : entryFor table "map.__iter__" = some Builtin.«dict_keyiterator.__iter__» :=
  entryFor_alias (id' := "dict_keyiterator.__iter__") (by kernel_rfl) (by first | rfl | decide +kernel | (unfold String.splitOn; simp +decide [String.splitOnAux])) (by decide +kernel) (by kernel_rfl)
theorem args_map_iter (a : Value) : argsOk "map.__iter__" ⟨[a], []⟩ := by unfold argsOk; kernel_rfl
theorem map_no_len : typeLookup (.type "map") "__len__" = pure none := by rw [typeLookup_type, builtinLookup_eq_fast]; kernel_rfl
theorem map_no_hint : typeLookup (.type "map") "__length_hint__" = pure none := by rw [typeLookup_type, builtinLookup_eq_fast]; kernel_rfl
theorem mro_map : mroOf (.type "map") = pure [.type "map", .type "object"] := by rw [mroOf_type]; kernel_rfl
theorem lookup_map_new : typeLookup (.type "map") "__new__" = pure (some (.builtin "map.__new__")) := by rw [typeLookup_type, builtinLookup_eq_fast]; kernel_rfl
theorem slot_map_init : Slot "map" "__init__" "object.__init__" :=
  .of (owner := "object") (n := "__init__") (by rw [typeLookup_type, builtinLookup_eq_fast]; kernel_rfl) (by decide +kernel) (by decide +kernel) (by decide +kernel)
    (by first | exact .inl (by decide +kernel) | exact .inr (by decide +kernel)) (by rw [isSubtype_type]; kernel_rfl)
theorem called_map : TypeCalled "map" "map.__new__" "object.__init__" :=
  ⟨by decide +kernel, by decide +kernel, ⟨_, _, mro_map⟩, madeBy_type mro_map lookup_map_new (by decide +kernel), by decide +kernel, by rw [isSubtype_type]; kernel_rfl, slot_map_init⟩
theorem typeCall_map (a b : Value) : checkTypeCall "map" ⟨[a, b], []⟩ = pure () := by kernel_rfl
theorem newCall_map (a b : Value) : checkBuiltinCall "map.__new__" ⟨[.type "map", a, b], []⟩ = pure () := by kernel_rfl
theorem entry_map_new : entryFor table "map.__new__" = some Builtin.«map.__new__» := entryFor_of_tree (by kernel_rfl)
theorem sub_map : isSubtype (.type "map") (.type "map") = pure true := by rw [isSubtype_type]; kernel_rfl

def IsMapObj (h : Heap) (m t : Addr) (f : Value) : Prop := h.get? m = some { cls := .type "map", data := .fields #[.ref t, f] }
def IsTup1 (h : Heap) (t i : Addr) : Prop := h.get? t = some { cls := .type "tuple", data := .seq #[.ref i] }

section
variable {prog : Program} {w : World} {A : Around} {E : Value → Shared → Prop} {s : Shared} {m t I l : Addr} {f : Value} {items : Array Value}
theorem map_next_item {i : Nat} {x : Value} {Q : Option Value → Shared → Prop} (hm : IsMapObj s.heap m t f) (ht : IsTup1 s.heap t I) (hit : s.heap.IsListIter I l i) (hl : s.heap.IsList l items) (hx : items[i]? = some x) (hmI : m ≠ I)
    (hQ : ∀ h', h'.IsListIter I l (i + 1) → Heap.SameBut I s.heap h' → wpAny (model prog w) A.in1 (call f [x]) (fun v s' => Q (some v) s') No { s with heap := h' }) : wpAny (model prog w) A (pyNext (.ref m)) Q E s := by
  have hT : s.TypeIs (.ref m) "map" := ⟨_, hm, rfl⟩
  unfold pyNext
  refine wpAny_bind (wpAny_attempt (wpAny_callSpecial?_slot (name := PySem.Str.ofString "__next__") hT slot_map_next
    (wpAny_call_entry slot_map_next hT entry_map_next ?_ (args_map_next _))))
  show wpAny _ _ (field (.ref m) 0 >>= _) _ _ s
  refine wpAny_bind (wpAny_field hm rfl (x := .ref t) rfl ?_)
  show wpAny _ _ (seqItems? (.ref t) >>= _) _ _ s
  refine wpAny_bind (wpAny_seqItems ht rfl ?_)
  dsimp only
  refine wpAny_bind (wpAny_arrayLoop ?_)
  rw [List.forIn_cons]
  refine wpAny_bind (wpAny_bind (wpAny_holding (wpAny_nextOf_list_item hit hl hx fun h₁ hit₁ hs₁ => ?_)))
  refine wpAny_pure ?_
  dsimp only
  rw [List.forIn_nil]
  refine wpAny_pure ?_
  have hm1 : IsMapObj h₁ m t f := (hs₁.2 m hmI).trans hm
  refine wpAny_bind (wpAny_field (s := { s with heap := h₁ }) hm1 rfl (x := f) rfl ?_)
  refine wpAny_bind (wpAny_holding (wp_no (hQ h₁ hit₁ hs₁) fun v s' hv => ?_))
  exact wpAny_bind (wpAny_letGo (wpAny_pure ⟨_, rfl, wpAny_pure hv⟩))
theorem map_next_end {i : Nat} {Q : Option Value → Shared → Prop} (hh : A.handled = none) (hm : IsMapObj s.heap m t f) (ht : IsTup1 s.heap t I) (hit : s.heap.IsListIter I l i) (hl : s.heap.IsList l items) (hx : items[i]? = none)
    (hQ : ∀ h', Heap.ExtBut I s.heap h' → Q none { s with heap := h' }) : wpAny (model prog w) A (pyNext (.ref m)) Q E s := by
  have hT : s.TypeIs (.ref m) "map" := ⟨_, hm, rfl⟩
  unfold pyNext
  refine wpAny_bind (wpAny_attempt (wpAny_callSpecial?_slot (name := PySem.Str.ofString "__next__") hT slot_map_next
    (wpAny_call_entry slot_map_next hT entry_map_next ?_ (args_map_next _))))
  show wpAny _ _ (field (.ref m) 0 >>= _) _ _ s
  refine wpAny_bind (wpAny_field hm rfl (x := .ref t) rfl ?_)
  show wpAny _ _ (seqItems? (.ref t) >>= _) _ _ s
  refine wpAny_bind (wpAny_seqItems ht rfl ?_)
  dsimp only
  refine wpAny_bind (wpAny_arrayLoop ?_)
  rw [List.forIn_cons]
  refine wpAny_bind (wpAny_bind (wpAny_holding (wpAny_nextOf_list_end hh hit hl hx fun h₁ e hs₁ he => ?_)))
  refine wpAny_bind (wpAny_isInstance (T := "StopIteration") (b := true) he isSubtype_stop ?_)
  exact wpAny_pure (hQ _ hs₁)
theorem map_iter {Q : Value → Shared → Prop} (hm : IsMapObj s.heap m t f) (h : Q (.ref m) s) : wpAny (model prog w) A (pyIter (.ref m)) Q E s := by
  have hT : s.TypeIs (.ref m) "map" := ⟨_, hm, rfl⟩
  refine wpAny_pyIter_slot hT slot_map_iter (wpAny_call_entry slot_map_iter hT entry_map_iter ?_ (args_map_iter _))
  show wpAny _ _ (ret (.ref m)) _ _ s
  exact wpAny_pure ⟨_, rfl, "map", _, hT, slot_map_next.lookup, h⟩

structure MapSt (s₀ s : Shared) (m t I l S : Addr) (f : Value) (Z : List Addr) (outs : List D) (i : Nat) (acc : Array Value) : Prop where
  ext : Ext [] s₀ s
  mo : IsMapObj s.heap m t f
  tu : IsTup1 s.heap t I
  it : s.heap.IsListIter I l i
  sq : ∃ c, s.heap.get? S = some { cls := .type "list", dict := none, data := .seq acc c, slots := #[] }
  rs : Reps ([S, I, t, m] ++ Z) s.heap outs acc.toList
structure MapFix (s₀ : Shared) (m t I l S : Addr) (vs : List Value) (Z : List Addr) (ds : List D) : Prop where
  al : Al Z s₀.heap
  top : TopF s₀.heap
  pl : s₀.heap.PlainList l (List.toArray vs)
  rs : Reps Z s₀.heap ds vs
  n1 : s₀.heap.get? S = none
  n2 : s₀.heap.get? I = none
  n3 : s₀.heap.get? t = none
  n4 : s₀.heap.get? m = none
  d1 : S ≠ I
  d2 : S ≠ t
  d3 : S ≠ m
  d4 : I ≠ t
  d5 : I ≠ m
theorem MapFix.fresh {s₀ : Shared} {m t I l S : Addr} {vs : List Value} {Z : List Addr} {ds : List D} (x : MapFix s₀ m t I l S vs Z ds) : ∀ a ∈ [S, I, t, m], s₀.heap.get? a = none := fun a ha => by
  simp at ha
  rcases ha with rfl | rfl | rfl | rfl
  · exact x.n1
  · exact x.n2
  · exact x.n3
  · exact x.n4
theorem IsListIter.al {h : Heap} {I l : Addr} {i : Nat} (x : h.IsListIter I l i) : ∃ o, h.get? I = some o := let ⟨o, e, _⟩ := x; ⟨o, e⟩
theorem map_loop {k : Nat} {R : Result → Shared → Prop} {s₀ : Shared} {S : Addr} {vs : List Value} {Z : List Addr} {ds : List D} {g : D → D} {nm : Str} {res : Value} (Rm' : Rm k A.in1.in1) (F : MapFix s₀ m t I l S vs Z ds) (hg : Glb s₀.heap nm f)
    (cl : ∀ (i : Nat) di, ds[i]? = some di → Cl prog w k nm [di] (g di)) (hsz : ds.length ≤ 10000) :
    ∀ (j i : Nat) (s : Shared) (acc : Array Value), ds.length - i = j → i ≤ ds.length → MapSt s₀ s m t I l S f Z ((ds.take i).map g) i acc →
      (∀ s' acc', (Ext [] s₀ s' ∧ (∃ c, s'.heap.get? S = some { cls := .type "list", dict := none, data := .seq acc' c, slots := #[] }) ∧ Reps ([S, I, t, m] ++ Z) s'.heap (ds.map g) acc'.toList) → R (.ok (.ret res)) s') →
      codeAny (model prog w) A (.builtin "list.extend.loop" ⟨[.ref S, .ref m, res], []⟩) R s := by
  have hvl := F.rs.length
  intro j
  induction j with
  | zero =>
    intro i s acc hj hi st hR
    have hin : i = ds.length := by omega
    subst hin
    refine codeAny_builtin PySem.F.entry_extend_loop ?_
    rw [Around.under_plainId PySem.F.plain_extend_loop _]
    show wpAny _ A.in1 (pyNext (.ref m) >>= _) _ _ s
    have pl := F.pl.at fun o e => st.ext.keep _ o e
    refine wpAny_bind (map_next_end Rm'.handled st.mo st.tu st.it pl.isList (by simp [hvl]) fun h' hs' => ?_)
    rw [List.take_length] at st
    have kp : ∀ a o, a ∉ [S, I, t, m] ++ Z → s.heap.get? a = some o → h'.get? a = some o := fun a o n e => hs' a o (fun q => n (by simp [q])) e
    refine wpAny_pure (hR _ acc ⟨⟨fun a o _ e => hs' a o (fun q => by rw [q, F.n2] at e; cases e) (st.ext.keep a o e), st.ext.os, st.ext.gens⟩, let ⟨c, e⟩ := st.sq; ⟨c, hs' _ _ F.d1 e⟩, st.rs.kp kp⟩)
  | succ j ih =>
    intro i s acc hj hi st hR
    have hlt : i < ds.length := by omega
    have hdi : ds[i]? = some ds[i] := List.getElem?_eq_getElem hlt
    refine codeAny_builtin PySem.F.entry_extend_loop ?_
    rw [Around.under_plainId PySem.F.plain_extend_loop _]
    show wpAny _ A.in1 (pyNext (.ref m) >>= _) _ _ s
    have pl := F.pl.at fun o e => st.ext.keep _ o e
    obtain ⟨x, hx, rx⟩ := F.rs.get hdi
    refine wpAny_bind (map_next_item st.mo st.tu st.it pl.isList (x := x) (by simpa using hx) (Ne.symm F.d5) fun h₁ hit₁ hs₁ => ?_)
    have e1 : Ext [] s₀ { s with heap := h₁ } := ⟨fun a o _ e => (hs₁.2 a fun q => by rw [q, F.n2] at e; cases e).trans (st.ext.keep a o e), st.ext.os, st.ext.gens⟩
    obtain ⟨c, hc⟩ := st.sq
    have hS1 : h₁.get? S = _ := (hs₁.2 S F.d1).trans hc
    have hm1 : IsMapObj h₁ m t f := (hs₁.2 m (Ne.symm F.d5)).trans st.mo
    have ht1 : IsTup1 h₁ t I := (hs₁.2 t (Ne.symm F.d4)).trans st.tu
    have al1 : Al ([S, I, t, m] ++ Z) h₁ := fun a ha => by
      rcases List.mem_append.mp ha with ha | ha
      · simp at ha
        rcases ha with rfl | rfl | rfl | rfl
        · exact ⟨_, hS1⟩
        · exact IsListIter.al hit₁
        · exact ⟨_, ht1⟩
        · exact ⟨_, hm1⟩
      · exact (F.al.ext e1) a ha
    have rx1 : Rep ([S, I, t, m] ++ Z) h₁ ds[i] x := rx.more e1.keep F.fresh
    have rs1 : Reps ([S, I, t, m] ++ Z) h₁ ((ds.take i).map g) acc.toList := st.rs.kp fun a o n e => (hs₁.2 a fun q => n (by simp [q])).trans e
    refine wp_no (cl i _ hdi A.in1.in1 _ { s with heap := h₁ } f [x] Rm' (F.top.keeps e1.keep) al1 (hg.keeps e1.keep) (Reps.cons rx1 Reps.nil)) fun v s₂ ⟨e2, r2⟩ => ?_
    have hS2 := e2.keep _ _ hS1
    have hal : acc.size = i := by
      have := st.rs.length
      simp at this; omega
    show wpAny _ A.in1 (updateSeq S (·.push v) >>= _) _ _ _
    refine wpAny_bind ?_
    have hs3 := Heap.SameBut.update s₂.heap S (Obj.mapSeq (·.push v))
    refine wpAny_updateSeq hS2 rfl (wpAny_pure ⟨plainId_quiet PySem.F.plain_extend_loop _, ih (i + 1) _ (acc.push v) (by omega) hlt ?_ hR⟩)
      (by rw [hal]; unfold sizeLine; omega) (by show (acc.push v).size ≤ sizeLine + 1; rw [Array.size_push, hal]; unfold sizeLine; omega)
    have kp3 : ∀ a o, a ∉ [S, I, t, m] ++ Z → s₂.heap.get? a = some o → (s₂.heap.update S (Obj.mapSeq (·.push v))).get? a = some o := fun a o n e => (hs3.2 a fun q => n (by simp [q])).trans e
    refine ⟨⟨fun a o _ e => (hs3.2 a fun q => by rw [q, F.n1] at e; cases e).trans (e2.keep a o (e1.keep a o e)), e2.os.trans e1.os, e2.gens.trans e1.gens⟩, (hs3.2 m (Ne.symm F.d3)).trans (e2.keep _ _ hm1), (hs3.2 t (Ne.symm F.d2)).trans (e2.keep _ _ ht1), ?_, ⟨_, Heap.get?_update_self _ hS2 rfl⟩, ?_⟩
    · obtain ⟨o, ho, q⟩ := hit₁
      exact ⟨o, (hs3.2 I (Ne.symm F.d1)).trans (e2.keep _ _ ho), q⟩
    · have tk1 : ds.take (i + 1) = ds.take i ++ [ds[i]] := by rw [List.take_add_one, hdi]; rfl
      rw [tk1, List.map_append, Array.toList_push]
      exact Reps.append ((rs1.ext e2).kp kp3) (Reps.cons (r2.kp kp3) Reps.nil)

set_option maxHeartbeats 1000000 in
theorem map_collect {k : Nat} {s₀ : Shared} {vs : List Value} {Z : List Addr} {ds : List D} {g : D → D} {nm : Str} {Q : List Value → Shared → Prop} (Rm' : Rm k A.in1.in1) (al : Al Z s₀.heap) (top : TopF s₀.heap) (pl : s₀.heap.PlainList l (List.toArray vs)) (rs : Reps Z s₀.heap ds vs)
    (n2 : s₀.heap.get? I = none) (n3 : s₀.heap.get? t = none) (n4 : s₀.heap.get? m = none) (d4 : I ≠ t) (d5 : I ≠ m) (hg : Glb s₀.heap nm f) (cl : ∀ (i : Nat) di, ds[i]? = some di → Cl prog w k nm [di] (g di)) (hsz : ds.length ≤ 10000)
    (ext : Ext [] s₀ s) (mo : IsMapObj s.heap m t f) (tu : IsTup1 s.heap t I) (it : s.heap.IsListIter I l 0)
    (hQ : ∀ s' ws, Ext [] s₀ s' → Reps Z s'.heap (ds.map g) ws → ws.length = ds.length → Q ws s') : wpAny (model prog w) A (collect (.ref m)) Q E s := by
  unfold collect
  refine wpAny_bind (wpAny_runValue (codeAny_builtin PySem.F.entry_proto_collect ?_))
  rw [Around.under_plainId PySem.F.plain_proto_collect _]
  show wpAny _ A.in1 (newList [] >>= fun l => again (.builtin "list.__iadd__" ⟨[l, .ref m], []⟩)) _ _ s
  refine wpAny_bind (wpAny_newObj_type ?_)
  refine wpAny_pure ⟨plainId_quiet PySem.F.plain_list_iadd _, codeAny_builtin PySem.F.entry_list_iadd ?_⟩
  rw [Around.under_plainId PySem.F.plain_list_iadd _]
  generalize hSS : s.heap.objs.size = S
  have fr : ∀ a o, s.heap.get? a = some o → a ≠ S := fun a o e => hSS ▸ Nat.ne_of_lt (Heap.lt_size e)
  have push : ∀ (a : Addr) (o x : Obj), s.heap.get? a = some o → (s.heap.push x).get? a = some o := fun a o x e => Heap.get?_push_of_some _ e
  have nS : s₀.heap.get? S = none := by
    cases q : s₀.heap.get? S with
    | none => rfl
    | some o => exact absurd rfl (fr _ _ (ext.keep _ _ q))
  have hoI := IsListIter.al it
  have dSI : S ≠ I := let ⟨o, e⟩ := hoI; Ne.symm (fr _ _ e)
  have dSt : S ≠ t := Ne.symm (fr _ _ tu)
  have dSm : S ≠ m := Ne.symm (fr _ _ mo)
  have X : MapFix s₀ m t I l S vs Z ds := ⟨al, top, pl, rs, nS, n2, n3, n4, dSI, dSt, dSm, d4, d5⟩
  have mo1 : IsMapObj (s.heap.push { cls := .type "list", data := .seq ([] : List Value).toArray }) m t f := push _ _ _ mo
  have hT : Shared.TypeIs { s with heap := s.heap.push { cls := .type "list", data := .seq ([] : List Value).toArray } } (.ref m) "map" := ⟨_, mo1, rfl⟩
  show wpAny _ A.in1 (Builtin.List.listExtendWith (.ref S) (.ref m) (.ref S)) _ _ _
  unfold Builtin.List.listExtendWith
  refine wpAny_bind (wpAny_typeOf hT ?_)
  have h1 : Builtin.List.listSameRef (.ref S) (.ref m) = false := by simp [Builtin.List.listSameRef, dSm]
  have h2 : (Value.type "map" == Value.type "list") = false := by decide
  have h3 : (Value.type "map" == Value.type "tuple") = false := by decide
  simp only [h1, h2, h3, Bool.or_false, Bool.false_eq_true, if_false]
  refine wpAny_bind (map_iter mo1 ?_)
  refine wpAny_bind (wpAny_holding ?_)
  unfold Builtin.List.listLengthHint
  refine wpAny_bind (wpAny_specialOf hT map_no_len ?_)
  show wpAny _ A.in1 (specialOf (Value.ref m) (PySem.Str.ofString "__length_hint__") >>= _) _ _ _
  refine wpAny_bind (wpAny_specialOf hT map_no_hint ?_)
  refine wpAny_pure ?_
  show wpAny _ A.in1 (rule "list.extend.makes-room" >>= fun _ => Builtin.List.listTouch (.ref S) >>= fun _ =>
    again (.builtin "list.extend.loop" ⟨[.ref S, .ref m, .ref S], []⟩)) _ _ _
  refine wpAny_bind (wpAny_rule ?_)
  have hS₁ : (s.heap.push { cls := .type "list", data := .seq ([] : List Value).toArray }).get? S = some { cls := .type "list", data := .seq ([] : List Value).toArray } := hSS ▸ Heap.get?_push_size _ rfl
  refine wpAny_bind ?_
  show wpAny _ A.in1 (updateSeq S (·.push .none) >>= fun _ => updateSeq S (·.pop)) _ _ _
  refine wpAny_bind (wpAny_updateSeq hS₁ rfl ?_)
  have hS₂ := Heap.get?_update_self (Obj.mapSeq (·.push Value.none)) hS₁ rfl
  refine wpAny_updateSeq hS₂ rfl ?_
  have hS₃ := Heap.get?_update_self (Obj.mapSeq (·.pop)) hS₂ rfl
  have oth : ∀ b o, b ≠ S → (s.heap.push { cls := .type "list", data := .seq ([] : List Value).toArray }).get? b = some o →
      (((s.heap.push { cls := .type "list", data := .seq ([] : List Value).toArray }).update S (Obj.mapSeq (·.push Value.none))).update S (Obj.mapSeq (·.pop))).get? b = some o :=
    fun b o hb e => (Heap.get?_update_other _ _ (Ne.symm hb)).trans ((Heap.get?_update_other _ _ (Ne.symm hb)).trans e)
  have kp : ∀ b o, s.heap.get? b = some o → (((s.heap.push { cls := .type "list", data := .seq ([] : List Value).toArray }).update S (Obj.mapSeq (·.push Value.none))).update S (Obj.mapSeq (·.pop))).get? b = some o :=
    fun b o e => oth b o (fr b o e) (push b o _ e)
  refine wpAny_pure ⟨plainId_quiet PySem.F.plain_extend_loop _, map_loop Rm' X hg cl hsz _ 0 _ #[] rfl (Nat.zero_le _) ?_ fun s' acc' h => ?_⟩
  · obtain ⟨oI, eI, qI⟩ := it
    exact ⟨⟨fun a o _ e => kp a o (ext.keep a o e), ext.os, ext.gens⟩, kp _ _ mo, kp _ _ tu, ⟨oI, kp _ _ eI, qI⟩, ⟨_, hS₃⟩, Reps.nil⟩
  obtain ⟨x', ⟨c', hS'⟩, r'⟩ := h
  show wpAny _ A (load S >>= _) _ _ s'
  refine wpAny_bind (wpAny_load hS' ?_)
  refine wpAny_pure (hQ s' acc'.toList x' (r'.weak fun a ha => List.mem_append.mpr (.inr ha)) (by have := r'.length; simpa using this))
set_option maxHeartbeats 1000000 in
theorem tuple_map {k : Nat} {s₀ : Shared} {vs : List Value} {Z : List Addr} {ds : List D} {g : D → D} {nm : Str} {Q : Value → Shared → Prop} (Rm' : Rm (k + 8) A) (al : Al Z s₀.heap) (top : TopF s₀.heap) (pl : s₀.heap.PlainList l (List.toArray vs)) (rs : Reps Z s₀.heap ds vs)
    (n2 : s₀.heap.get? I = none) (n3 : s₀.heap.get? t = none) (n4 : s₀.heap.get? m = none) (d4 : I ≠ t) (d5 : I ≠ m) (hg : Glb s₀.heap nm f) (cl : ∀ (i : Nat) di, ds[i]? = some di → Cl prog w k nm [di] (g di)) (hsz : ds.length ≤ 10000)
    (ext : Ext [] s₀ s) (mo : IsMapObj s.heap m t f) (tu : IsTup1 s.heap t I) (it : s.heap.IsListIter I l 0)
    (hQ : ∀ v s', Ext [] s₀ s' → Rep Z s'.heap (.tup (ds.map g)) v → Q v s') : wpAny (model prog w) A (call (.type "tuple") [.ref m]) Q E s := by
  refine callType_codes (Q₁ := fun obj s₁ => s₁.TypeIs obj "tuple" ∧ Q obj s₁) PySem.F.called_tuple (PySem.F.typeCall_tuple_1 _) PySem.F.entry_object_init ?_ fun obj s₁ h₁ =>
    ⟨h₁.1, PySem.F.args_object_init_2 obj _, object_init_meets PySem.F.called_tuple.init.lookup PySem.F.called_tuple.made (by decide) prog w A.in1 _ s₁ ⟨h₁.1, rfl, h₁.2⟩⟩
  refine codeAny_of_tree ?_
  show wpAny _ A.in1.in1 (do checkBuiltinCall "tuple.__new__" ⟨[.type "tuple", .ref m], []⟩; again (.builtin "tuple.__new__" ⟨[.type "tuple", .ref m], []⟩)) _ _ s
  refine wpAny_bind (wpAny_of_eq (PySem.F.newCall_tuple_1 _) (wpAny_pure ⟨plainId_quiet PySem.F.plain_tuple_new _, codeAny_builtin PySem.F.entry_tuple_new ?_⟩))
  rw [Around.under_plainId PySem.F.plain_tuple_new _]
  have hsub := sub_tuple_self
  have hinit := init_tuple_lookup
  have hmh := madeHere_tuple
  have hTI : s.TypeIs (.ref m) "map" := ⟨_, mo, rfl⟩
  have hcol : ∀ {Q : List Value → Shared → Prop} {E : Value → Shared → Prop}, (∀ s' ws, Ext [] s₀ s' → Reps Z s'.heap (ds.map g) ws → ws.length = ds.length → Q ws s') → wpAny (model prog w) A.in1.in1 (collect (.ref m)) Q E s := fun hQ =>
    map_collect (k := k) (A := A.in1.in1) ((((Rm'.in1).in1).in1).in1.le (by omega)) al top pl rs n2 n3 n4 d4 d5 hg cl hsz ext mo tu it hQ
  wp_walk using wpAny_typeOf hTI, hcol
  intro s' ws x' r' hl
  show wpAny _ _ (Builtin.Tuple.tupleExact ws.toArray >>= fun v => ret v) _ _ _
  unfold Builtin.Tuple.tupleExact
  refine wpAny_bind (wpAny_newObj_type ?_ (by show ws.toArray.size ≤ sizeLine; simp [hl]; unfold sizeLine; omega))
  refine wpAny_pure ?_
  exact ⟨⟨_, Heap.get?_push_size _ rfl, rfl⟩, hQ _ _ (x'.trans .push) (Rep.new_tup r' (al.ext x'))⟩
end
end Mine
end
section
open PySem PyProof.Rows PySem.SeqAt
set_option maxRecDepth 100000
set_option linter.unusedVariables false
set_option linter.unusedSimpArgs false
namespace Mine
open Builtin
open AutoSeq1 (wpAny_loadPart')

set_option maxHeartbeats 1000000 in
theorem meets_map_new (fa l : Addr) (items : Array Value) (n : Nat) :
    Meets (Builtin.«map.__new__» ⟨[.type "map", .ref fa, .ref l], []⟩) (fun _ R s => s.heap.get? l = some { cls := .type "list", data := .seq items n } ∧
      R (.ok (.ret (.ref (((s.heap.push { cls := .type "list_iterator", data := .fields #[.ref l, .int 0 0] }).push { cls := .type "tuple", data := .seq #[.ref s.heap.objs.size] }).objs.size))))
        { s with heap := ((s.heap.push { cls := .type "list_iterator", data := .fields #[.ref l, .int 0 0] }).push { cls := .type "tuple", data := .seq #[.ref s.heap.objs.size] }).push { cls := .type "map", data := .fields #[.ref (s.heap.push { cls := .type "list_iterator", data := .fields #[.ref l, .int 0 0] }).objs.size, .ref fa] } }) :=
  .of_wp fun prog w A R s h => by
    obtain ⟨hp, g, d, tk, os⟩ := s; obtain ⟨hl, h⟩ := h
    have hsub := sub_map
    have hL : Heap.IsList (Shared.heap ⟨hp, g, d, tk, os⟩) l items := ⟨_, hl, rfl, n, rfl⟩
    wp_walk using wpAny_loadPart' hl, wpAny_pyIter_list hL
    exact ⟨_, rfl, h⟩
section
variable {prog : Program} {w : World} {k : Nat} {A : Around} {E : Value → Shared → Prop} {env : Env} {ρ : List (Str × B)} {s : Shared}
theorem call_map {fa l : Addr} {vs : List Value} {Q : Value → Shared → Prop} (pl : s.heap.PlainList l (List.toArray vs))
    (h : ∀ I t m s', Ext [] s s' → s.heap.get? I = none → s.heap.get? t = none → s.heap.get? m = none → I ≠ t → I ≠ m → IsMapObj s'.heap m t (.ref fa) → IsTup1 s'.heap t I → s'.heap.IsListIter I l 0 → Q (.ref m) s') :
    wpAny (model prog w) A (call (.type "map") [.ref fa, .ref l]) Q E s := by
  obtain ⟨n, ho⟩ := pl
  refine callType_new called_map (by decide) (typeCall_map _ _) (newCall_map _ _) (fun obj => PySem.F.args_object_init_3 obj _ _) entry_map_new (meets_map_new fa l _ n) ⟨ho, ?_⟩
  have z1 : (s.heap.push { cls := .type "list_iterator", data := .fields #[.ref l, .int 0 0] }).objs.size = s.heap.objs.size + 1 := Heap.size_push ..
  have z2 : ((s.heap.push { cls := .type "list_iterator", data := .fields #[.ref l, .int 0 0] }).push { cls := .type "tuple", data := .seq #[.ref s.heap.objs.size] }).objs.size = s.heap.objs.size + 2 := by rw [Heap.size_push, z1]
  have hm : (((s.heap.push { cls := .type "list_iterator", data := .fields #[.ref l, .int 0 0] }).push { cls := .type "tuple", data := .seq #[.ref s.heap.objs.size] }).push { cls := .type "map", data := .fields #[.ref (s.heap.push { cls := .type "list_iterator", data := .fields #[.ref l, .int 0 0] }).objs.size, .ref fa] }).get? (s.heap.objs.size + 2) = some { cls := .type "map", data := .fields #[.ref (s.heap.objs.size + 1), .ref fa] } := by
    rw [← z2, ← z1]; exact Heap.get?_push_size _ rfl
  show _ ∧ _
  rw [z2]
  refine ⟨⟨_, hm, rfl⟩, h s.heap.objs.size (s.heap.objs.size + 1) (s.heap.objs.size + 2) _ (Ext.heap' fun _ _ _ e => Heap.get?_push_of_some _ (Heap.get?_push_of_some _ (Heap.get?_push_of_some _ e))) (PySem.Heap.get?_none_of_le (Nat.le_refl _)) (PySem.Heap.get?_none_of_le (Nat.le_succ _)) (PySem.Heap.get?_none_of_le (by omega)) (Nat.ne_of_lt (Nat.lt_succ_self _)) (Nat.ne_of_lt (by show s.heap.objs.size < s.heap.objs.size + 2; omega)) hm ?_ ?_⟩
  · have : ((s.heap.push { cls := .type "list_iterator", data := .fields #[.ref l, .int 0 0] }).push { cls := .type "tuple", data := .seq #[.ref s.heap.objs.size] }).get? (s.heap.objs.size + 1) = some { cls := .type "tuple", data := .seq #[.ref s.heap.objs.size] } := by
      rw [← z1]; exact Heap.get?_push_size _ rfl
    exact Heap.get?_push_of_some _ this
  · exact ⟨_, Heap.get?_push_of_some _ (Heap.get?_push_of_some _ (Heap.get?_push_size _ rfl)), rfl, rfl⟩
/-- tuple(map(f, e)) -/
theorem Ev.tupMap {e : Expr} {p1 p2 p3 pos1 pos2 : Pos} {ds : List D} {g : D → D} (i : Nat) (hi : i ∈ theDefs) (hx : env.kindOf (dfn i).name = some .globalImplicit) (hn : plainName (dfn i).name = true) (ht : env.kindOf (Str.ofString "tuple") = some .globalImplicit) (hm : env.kindOf (Str.ofString "map") = some .globalImplicit)
    (h : Ev prog w (k + 8) env ρ e (.list ds)) (he : noStars [e] = true) (cl : ∀ (j : Nat) di, ds[j]? = some di → Cl prog w k (dfn i).name [di] (g di)) (hsz : ds.length ≤ 10000) :
    Ev prog w (k + 8) env ρ (.Call (.Name (Str.ofString "tuple") p1) [.Call (.Name (Str.ofString "map") p2) [.Name (dfn i).name p3, e] [] pos1] [] pos2) (.tup (ds.map g)) := fun A Z s R gg => by
  simp only [plainName, Bool.and_eq_true, Bool.not_eq_true'] at hn
  refine wpAny_Call_NameR ((glbT "tuple" (.type "tuple") (by decide) gg.top).load gg.fn ht gg.gl gg.bi ?_ (by decide))
  refine callWith_value (fun _ q => by cases q) (noStars_any rfl) ?_
  refine Calls.evalArgs_plain (Calls.spliced_cons ?_)
  refine wpAny_Call_NameR ((glbT "map" (.type "map") (by decide) gg.top).load gg.fn hm gg.gl gg.bi ?_ (by decide))
  have hst : starEach [.Name (dfn i).name p3, e] env = [(false, eval (.Name (dfn i).name p3) env), (false, eval e env)] := by
    cases e <;> first | rfl | (simp [noStars] at he)
  rw [hst]
  refine callWith_value (fun _ q => by cases q) rfl ?_
  obtain ⟨fa, F⟩ := gg.top.fn i hi
  refine Calls.evalArgs_plain (Calls.spliced_cons ?_)
  refine F.glb.load gg.fn hx gg.gl gg.bi ?_ hn.1
  refine Calls.spliced_cons (wp_no (h A Z s R gg) fun v s₁ ⟨x₁, r₁⟩ => Calls.spliced_nil ?_)
  obtain ⟨l, vs, rfl, hnl, pl, rs⟩ := r₁
  show wpAny _ A (call (.type "map") [.ref fa, .ref l]) _ _ s₁
  refine call_map pl fun I t m s₂ x₂ n2 n3 n4 d4 d5 mo tu it => Calls.spliced_nil ?_
  show wpAny _ A (call (.type "tuple") [.ref m]) _ _ s₂
  have g1 := gg.ext x₁
  refine tuple_map (k := k) R g1.alive g1.top pl rs n2 n3 n4 d4 d5 (F.keeps x₁.keep).glb cl hsz x₂ mo tu it fun v s' x' r' => ⟨x₁.trans x', r'⟩
end
end Mine
end
section
open PySem PyProof.Rows PySem.SeqAt
set_option maxRecDepth 100000
set_option linter.unusedVariables false
set_option linter.unusedSimpArgs false
namespace Mine
open Builtin
section
variable {prog : Program} {w : World} {k : Nat} {A : Around} {s₀ sb : Shared} {Y : List Addr} {env : Env} {X : List Addr} {ρ ρ' : List (Str × B)} {rest : List Stmt} {Q : Flow → Shared → Prop}
theorem G.pokes {s : Shared} {Js : List Addr} {h' : Heap} {t : Nat} (g : G s₀ sb Y env X ρ s) (hX : ∀ J ∈ Js, J ∉ X) (hY : ∀ J ∈ Js, J ∈ Y) (h0 : ∀ J ∈ Js, s₀.heap.get? J = none) (hb : ∀ J ∈ Js, sb.heap.get? J = none) (hk : ∀ b o, b ∉ Js → s.heap.get? b = some o → h'.get? b = some o) (ho : ∀ J ∈ Js, ∃ o, h'.get? J = some o) :
    G s₀ sb Y env X ρ { s with heap := h', toks := t } := by
  have ne : ∀ a, a ∈ X → a ∉ Js := fun a ha e => hX a e ha
  have al : ∀ a, (∃ o, s.heap.get? a = some o) → ∃ o, h'.get? a = some o := fun a ⟨o, e⟩ => by
    by_cases q : a ∈ Js
    · exact ho a q
    · exact ⟨o, hk a o q e⟩
  have kp : ∀ a o, a ∉ X ++ Y → s.heap.get? a = some o → h'.get? a = some o := fun a o n e => hk a o (fun q => n (List.mem_append.mpr (.inr (hY a q)))) e
  refine ⟨⟨fun a o _ e => ?_, g.base.os, g.base.gens⟩, ⟨fun a o n e => ?_, g.rel.os, g.rel.gens⟩, g.top, g.fn, g.gl, g.bi, fun a ha => al a (g.yal a ha), fun a ha => ⟨(g.xal a ha).1, al a (g.xal a ha).2⟩, g.xy, ⟨g.loc.1, ?_⟩, fun n c e => ⟨(g.cel n c e).1, ?_⟩, g.apart, fun x b e => ?_, g.owns⟩
  · exact hk a o (fun q => by rw [h0 a q] at e; cases e) (g.base.keep a o e)
  · exact hk a o (fun q => by rw [hb a q] at e; cases e) (g.rel.kp a o n e)
  · obtain ⟨m, o, es, ep, q, r⟩ := g.loc.2
    exact ⟨m, o, es, ep, hk _ _ (ne _ g.loc.1) q, r⟩
  · obtain ⟨v, o, q, r⟩ := (g.cel n c e).2
    exact ⟨v, o, hk _ _ (ne _ (g.cel n c e).1) q, r⟩
  · have bd : ∀ v, Bd env s.heap x v → Bd env h' x v := fun v bd => by
      rcases bd with ⟨k, m, ⟨o, es, ep, ho, r⟩, q⟩ | ⟨k, n, e, ⟨o, ho, r⟩⟩
      · exact .inl ⟨k, m, ⟨o, es, ep, hk _ _ (ne _ g.loc.1) ho, r⟩, q⟩
      · exact .inr ⟨k, n, e, ⟨o, hk _ _ (ne _ (g.cel x n e).1) ho, r⟩⟩
    have H := g.vars x b e
    cases b with
    | dat d => obtain ⟨v, p, q⟩ := H; exact ⟨v, bd v p, q.kp kp⟩
    | own a ds => obtain ⟨p, vs, q, r⟩ := H; exact ⟨bd _ p, vs, q.at fun o e' => hk a o (ne _ (g.owns x a ds e)) e', r.kp kp⟩
theorem G.outs {s : Shared} {Js : List Addr} {h' : Heap} {t : Nat} (g : G s₀ sb (Js ++ Y) env X ρ s) (hX : ∀ J ∈ Js, J ∉ X) (hY : ∀ J ∈ Js, J ∉ Y) (h0 : ∀ J ∈ Js, s₀.heap.get? J = none) (hb : ∀ J ∈ Js, sb.heap.get? J = none) (hk : ∀ b o, b ∉ Js → s.heap.get? b = some o → h'.get? b = some o) :
    G s₀ sb Y env X ρ { s with heap := h', toks := t } := by
  have ne : ∀ a, a ∈ X → a ∉ Js := fun a ha e => hX a e ha
  have hz : ∀ a ∈ X ++ Y, a ∈ X ++ (Js ++ Y) := fun a ha => by
    rcases List.mem_append.mp ha with h | h
    · exact List.mem_append.mpr (.inl h)
    · exact List.mem_append.mpr (.inr (List.mem_append.mpr (.inr h)))
  have kp : ∀ a o, a ∉ X ++ (Js ++ Y) → s.heap.get? a = some o → h'.get? a = some o := fun a o n e => hk a o (fun q => n (List.mem_append.mpr (.inr (List.mem_append.mpr (.inl q))))) e
  refine ⟨⟨fun a o _ e => ?_, g.base.os, g.base.gens⟩, ⟨fun a o n e => ?_, g.rel.os, g.rel.gens⟩, g.top, g.fn, g.gl, g.bi, fun a ha => ?_, fun a ha => ⟨(g.xal a ha).1, ?_⟩, fun a ha q => g.xy a ha (List.mem_append.mpr (.inr q)), ⟨g.loc.1, ?_⟩, fun n c e => ⟨(g.cel n c e).1, ?_⟩, g.apart, fun x b e => ?_, g.owns⟩
  · exact hk a o (fun q => by rw [h0 a q] at e; cases e) (g.base.keep a o e)
  · exact hk a o (fun q => by rw [hb a q] at e; cases e) (g.rel.kp a o n e)
  · obtain ⟨o, e⟩ := g.yal a (List.mem_append.mpr (.inr ha))
    exact ⟨o, hk a o (fun q => hY a q ha) e⟩
  · obtain ⟨o, e⟩ := (g.xal a ha).2
    exact ⟨o, hk a o (ne a ha) e⟩
  · obtain ⟨m, o, es, ep, q, r⟩ := g.loc.2
    exact ⟨m, o, es, ep, hk _ _ (ne _ g.loc.1) q, r⟩
  · obtain ⟨v, o, q, r⟩ := (g.cel n c e).2
    exact ⟨v, o, hk _ _ (ne _ (g.cel n c e).1) q, r⟩
  · have bd : ∀ v, Bd env s.heap x v → Bd env h' x v := fun v bd => by
      rcases bd with ⟨k, m, ⟨o, es, ep, ho, r⟩, q⟩ | ⟨k, n, e, ⟨o, ho, r⟩⟩
      · exact .inl ⟨k, m, ⟨o, es, ep, hk _ _ (ne _ g.loc.1) ho, r⟩, q⟩
      · exact .inr ⟨k, n, e, ⟨o, hk _ _ (ne _ (g.cel x n e).1) ho, r⟩⟩
    have H := g.vars x b e
    cases b with
    | dat d => obtain ⟨v, p, q⟩ := H; exact ⟨v, bd v p, (q.kp kp).weak hz⟩
    | own a ds => obtain ⟨p, vs, q, r⟩ := H; exact ⟨bd _ p, vs, q.at fun o e' => hk a o (ne _ (g.owns x a ds e)) e', (r.kp kp).weak hz⟩
theorem G.mores {s s₁ : Shared} {Js : List Addr} (g : G s₀ sb Y env X ρ s) (e : Ext [] s s₁) (hn : ∀ J ∈ Js, s.heap.get? J = none) (ho : ∀ J ∈ Js, ∃ o, s₁.heap.get? J = some o) : G s₀ sb (Js ++ Y) env X ρ s₁ := by
  have g1 := g.ext e
  refine ⟨g1.base, g1.rel, g1.top, g1.fn, g1.gl, g1.bi, fun a ha => ?_, g1.xal, fun a ha q => ?_, g1.loc, g1.cel, g1.apart, fun x b h => ?_, g1.owns⟩
  · rcases List.mem_append.mp ha with ha | ha
    · exact ho a ha
    · exact g1.yal a ha
  · rcases List.mem_append.mp q with q | q
    · obtain ⟨o, e⟩ := (g.xal a ha).2; rw [hn a q] at e; cases e
    · exact g1.xy a ha q
  · have H := g.vars x b h
    have hz : ∀ a o, a ∈ X ++ (Js ++ Y) → a ∉ X ++ Y → s.heap.get? a = some o → False := fun a o p q e => by
      rcases List.mem_append.mp p with p | p
      · exact q (List.mem_append.mpr (.inl p))
      · rcases List.mem_append.mp p with p | p
        · rw [hn a p] at e; cases e
        · exact q (List.mem_append.mpr (.inr p))
    cases b with
    | dat d => obtain ⟨v, p, q⟩ := H; exact ⟨v, p.keeps e.keep, q.gen (fun a o _ q => e.keep a o q) hz⟩
    | own b ds => obtain ⟨p, vs, q, r⟩ := H; exact ⟨p.keeps e.keep, vs, q.at fun o q => e.keep _ o q, r.gen (fun a o _ q => e.keep a o q) hz⟩
/-- what a turn of a for over an enumeration leaves -/
def TurnE (prog : Program) (w : World) (A : Around) (s₀ sb s1 : Shared) (Y Js : List Addr) (env : Env) (X : List Addr) (next : List (Str × B)) (rest : List Stmt) (Q : Flow → Shared → Prop) : Flow → Shared → Prop := fun f s' => match f with
  | .next | .cont => G s₀ s1 (Js ++ Y) env X next s'
  | .brk => ∃ ρb, G s₀ s1 (Js ++ Y) env X ρb s' ∧ Run prog w A s₀ sb Y env X ρb rest Q
  | .ret v => Q (.ret v) s'
set_option maxHeartbeats 1000000 in
theorem Run.forEnum {elts : List Expr} {c : Nat} {pt p pos1 pos : Pos} {e : Expr} {body : List Stmt} {ds : List D} (R : Rm k A) (hen : env.kindOf (Str.ofString "enumerate") = some .globalImplicit) (h : Ev prog w k env ρ e (.list ds)) (hst : noStars [e] = true) (I : Nat → List (Str × B)) (f : Nat → D → List (Str × B) → List (Str × B))
    (ht : ∀ (i : Nat) di, ds[i]? = some di → Tgt env (.Tuple elts c pt) (.tup [.int i, di]) (f i di)) (h0 : Sub ρ (I 0))
    (turn : ∀ (i : Nat) di s1 Js, ds[i]? = some di → Run prog w A s₀ s1 (Js ++ Y) env X (f i di (I i)) body (TurnE prog w A s₀ sb s1 Y Js env X (I (i + 1)) rest Q))
    (hr : Run prog w A s₀ sb Y env X (I ds.length) rest Q) (hs : ∀ x, foldedSetIterable (.Call (.Name (Str.ofString "enumerate") p) [e] [] pos1) env x = pure x := by intro _; rfl) :
    Run prog w A s₀ sb Y env X ρ (.For (.Tuple elts c pt) (.Call (.Name (Str.ofString "enumerate") p) [e] [] pos1) body [] pos :: rest) Q :=
  Run.stmt fun s g => by
    refine wpAny_For (wpAny_Call_NameR ((glbT "enumerate" (.type "enumerate") (by decide) g.rg.top).load g.fn hen g.gl g.bi ?_ (by decide))) hs
    refine callWith_value (fun _ q => by cases q) (noStars_any hst) ?_
    have hse : starEach [e] env = [(false, eval e env)] := by
      cases e <;> first | rfl | (simp [noStars] at hst)
    rw [hse]
    refine Calls.evalArgs_plain (Calls.spliced_cons (wp_no (h A _ s R g.rg) fun v s₁ ⟨x₁, r₁⟩ => Calls.spliced_nil ?_))
    have g1 := g.ext x₁
    obtain ⟨l, vs, rfl, hnl, pl, rs⟩ := r₁
    show wpAny _ A (call (.type "enumerate") [.ref l]) _ _ s₁
    refine call_enumerate_list pl.isList fun h₂ he₂ hi₂ hz₂ hk₂ => ?_
    refine wpAny_pyIter_enum (s := { s₁ with heap := h₂ }) he₂ ?_
    generalize hit : s₁.heap.objs.size = it at *
    generalize hee : it + 1 = en at *
    have hne : en ≠ it := by omega
    have fr : ∀ a, it ≤ a → s₁.heap.get? a = none := fun a ha => PySem.Heap.get?_none_of_le (by omega)
    have frJ : ∀ J ∈ [en, it], s₁.heap.get? J = none := fun J hJ => by
      simp at hJ; rcases hJ with rfl | rfl
      · exact fr _ (by omega)
      · exact fr _ (Nat.le_refl _)
    have e2 : Ext [] s₁ { s₁ with heap := h₂ } := ⟨fun a o _ q => hk₂ a o q, rfl, rfl⟩
    have hX : ∀ J ∈ [en, it], J ∉ X := fun J hJ q => by obtain ⟨o, e⟩ := (g1.xal J q).2; rw [frJ J hJ] at e; cases e
    have hYn : ∀ J ∈ [en, it], J ∉ Y := fun J hJ q => by obtain ⟨o, e⟩ := g1.yal J q; rw [frJ J hJ] at e; cases e
    have h00 : ∀ J ∈ [en, it], s₀.heap.get? J = none := fun J hJ => by
      cases q : s₀.heap.get? J with
      | none => rfl
      | some o => have := g1.base.keep _ _ q; rw [frJ J hJ] at this; cases this
    have hbb : ∀ J ∈ [en, it], sb.heap.get? J = none := fun J hJ => by
      cases q : sb.heap.get? J with
      | none => rfl
      | some o => have := g1.rel.kp _ _ (hX J hJ) q; rw [frJ J hJ] at this; cases this
    have hYm : ∀ J ∈ [en, it], J ∈ [en, it] ++ Y := fun J hJ => List.mem_append.mpr (.inl hJ)
    have hoi : ∃ o, h₂.get? it = some o := let ⟨o, e, _⟩ := hi₂; ⟨o, e⟩
    have g2 : G s₀ sb ([en, it] ++ Y) env X (I 0) { s₁ with heap := h₂ } := (g1.mores e2 frJ fun J hJ => by
      simp at hJ; rcases hJ with rfl | rfl
      · exact ⟨_, he₂⟩
      · exact hoi).weak h0
    have hvl := rs.length
    refine codeAny_forLoop_any (fun m s' => ∃ i old, m = ds.length + 1 - i ∧ i ≤ ds.length ∧ G s₀ sb ([en, it] ++ Y) env X (I i) s' ∧ IsEnum s'.heap en it ((i : Nat) : Int) old ∧ s'.heap.IsListIter it l i ∧ (∀ a o, a ∉ X → s₁.heap.get? a = some o → s'.heap.get? a = some o)) ?_ (ds.length + 1)
      ⟨0, .none, rfl, Nat.zero_le _, g2, he₂, hi₂, fun a o _ q => hk₂ a o q⟩
    rintro m s' ⟨i, old, rfl, hi, g', he', hi', hkept⟩
    have hlX : l ∉ X := fun q => hnl (List.mem_append.mpr (.inl q))
    have pl' : s'.heap.PlainList l (List.toArray vs) := pl.at fun o e => hkept _ o hlX e
    by_cases hlt : i < ds.length
    · have hdi : ds[i]? = some ds[i] := List.getElem?_eq_getElem hlt
      obtain ⟨x, hx, rx⟩ := rs.get hdi
      refine wpAny_pyNext_enum_item he' hi' pl'.isList (x := x) (by simpa using hx) hne fun h₃ heo hi₃ ht₃ hz₃ hk₃ => ?_
      have hT : ∀ a o, s'.heap.get? a = some o → a ≠ s'.heap.objs.size := fun a o e => Nat.ne_of_lt (Heap.lt_size e)
      dsimp only
      refine wpAny_letOwnedTupleGo_enum (s := { s' with heap := h₃, toks := s'.toks + 1 }) heo fun h₄ he₄ hs₄ => ?_
      have hk4 : ∀ b o, b ∉ [en, it] → s'.heap.get? b = some o → h₄.get? b = some o := fun b o n e => by
        simp at n
        exact (hs₄.2 b n.1).trans (hk₃ b o n.1 n.2 e)
      have hi₄ : h₄.IsListIter it l (i + 1) := by
        obtain ⟨o, ho, q⟩ := hi₃
        exact ⟨o, (hs₄.2 it (Ne.symm hne)).trans ho, q⟩
      have ht₄ : h₄.get? s'.heap.objs.size = some { cls := .type "tuple", data := .seq #[.int i s'.toks, x] } := (hs₄.2 _ (Ne.symm (hT _ _ he'))).trans ht₃
      have g4 : G s₀ sb ([en, it] ++ Y) env X (I i) { s' with heap := h₄, toks := s'.toks + 1 } := g'.pokes hX hYm h00 hbb hk4 fun J hJ => by
        simp at hJ; rcases hJ with rfl | rfl
        · exact ⟨_, he₄⟩
        · obtain ⟨o, ho, _⟩ := hi₄; exact ⟨o, ho⟩
      have kx : ∀ a o, a ∉ X ++ Y → s₁.heap.get? a = some o → h₄.get? a = some o := fun a o n e => hk4 a o (fun q => by rw [frJ a q] at e; cases e) (hkept a o (fun q => n (List.mem_append.mpr (.inl q))) e)
      have rx4 : Rep (X ++ ([en, it] ++ Y)) h₄ ds[i] x := Rep.gen kx (fun a o p q e => by
        rcases List.mem_append.mp p with p | p
        · exact q (List.mem_append.mpr (.inl p))
        · rcases List.mem_append.mp p with p | p
          · rw [frJ a p] at e; cases e
          · exact q (List.mem_append.mpr (.inr p))) rx
      have hTn : s'.heap.objs.size ∉ X ++ ([en, it] ++ Y) := fun q => by
        obtain ⟨o, e⟩ := g'.al _ q; exact hT _ _ e rfl
      have rt : Rep (X ++ ([en, it] ++ Y)) h₄ (.tup [.int i, ds[i]]) (.ref s'.heap.objs.size) := ⟨_, [.int i s'.toks, x], rfl, hTn, ⟨_, ht₄⟩, Reps.cons ⟨_, rfl⟩ (Reps.cons rx4 Reps.nil)⟩
      refine ht i ds[i] hdi R.handled g4 rt fun s₅ e₅ g₅ => ?_
      refine wp_no (turn i ds[i] s₅ [en, it] hdi s₅ g₅.rebase) fun fl s₆ hf => ?_
      have fin : G s₀ s₅ ([en, it] ++ Y) env X (I (i + 1)) s₆ → ∃ m, m < ds.length + 1 - i ∧ ∃ j old, m = ds.length + 1 - j ∧ j ≤ ds.length ∧ G s₀ sb ([en, it] ++ Y) env X (I j) s₆ ∧ IsEnum s₆.heap en it ((j : Nat) : Int) old ∧ s₆.heap.IsListIter it l j ∧ (∀ a o, a ∉ X → s₁.heap.get? a = some o → s₆.heap.get? a = some o) := fun q => by
        have up : ∀ a o, a ∉ X → h₄.get? a = some o → s₆.heap.get? a = some o := fun a o n e => q.rel.kp a o n (e₅.kp a o n e)
        refine ⟨ds.length + 1 - (i + 1), by omega, i + 1, x, rfl, hlt, G.back (J := []) (by simpa using q) g₅.rel, ?_, ?_, fun a o n e => ?_⟩
        · have : ((i + 1 : Nat) : Int) = (i : Int) + 1 := by push_cast; rfl
          rw [this]; exact up _ _ (hX en (by simp)) he₄
        · obtain ⟨o, ho, q⟩ := hi₄
          exact ⟨o, up _ _ (hX it (by simp)) ho, q⟩
        · exact up a o n (hk4 a o (fun q => by rw [frJ a q] at e; cases e) (hkept a o n e))
      cases fl with
      | next => exact fin hf
      | cont => exact fin hf
      | brk => obtain ⟨ρb, gb, rb⟩ := hf; exact rb _ (G.back (J := [en, it]) gb g₅.rel)
      | ret v => exact hf
    · have e : i = ds.length := by omega
      subst e
      refine wpAny_pyNext_enum_end R.handled he' hi' pl'.isList (by simp [hvl]) fun h₃ hs₃ => wpAny_execs_nil ?_
      have hk3 : ∀ b o, b ∉ [en, it] → s'.heap.get? b = some o → h₃.get? b = some o := fun b o n e => hs₃ b o (fun q => n (by simp [q])) e
      have g3 : G s₀ sb Y env X (I ds.length) { s' with heap := h₃, toks := s'.toks } := g'.outs hX hYn h00 hbb hk3
      exact hr _ g3
end
end Mine
end
section
open PySem PyProof.Rows PySem.SeqAt PySem.W
set_option maxRecDepth 100000
set_option linter.unusedVariables false
set_option linter.unusedSimpArgs false
namespace Mine
open Builtin

def krun {α : Type} (lt : Nat → Nat → Bool) : KasT α → α
  | .ret a => a
  | .ask i j k => krun lt (k (lt i j))
def kin {α : Type} (n : Nat) : KasT α → Bool
  | .ret _ => true
  | .ask i j k => decide (i < n) && decide (j < n) && kin n (k true) && kin n (k false)
theorem krun_wp {α : Type} {lt : Nat → Nat → Bool} {n : Nat} {cmp : Nat → Nat → (Bool → Shared → Prop) → Shared → Prop} {s : Shared} (hc : ∀ i j C, i < n → j < n → C (lt i j) s → cmp i j C s) :
    ∀ (t : KasT α) {Q : α → Shared → Prop}, kin n t = true → Q (krun lt t) s → t.kasWp cmp Q s
  | .ret a, Q, _, h => h
  | .ask i j k, Q, hk, h => by
    simp only [kin, Bool.and_eq_true, decide_eq_true_eq] at hk
    refine hc i j _ hk.1.1.1 hk.1.1.2 ?_
    show (k (lt i j)).kasWp cmp Q s
    refine krun_wp hc (k (lt i j)) ?_ h
    cases lt i j
    · exact hk.2
    · exact hk.1.2
def kleaf (P : Array Nat → Bool) : KasT (Array Nat) → Bool
  | .ret a => P a
  | .ask _ _ k => kleaf P (k true) && kleaf P (k false)
theorem krun_leaf {P : Array Nat → Bool} (lt : Nat → Nat → Bool) : ∀ (t : KasT (Array Nat)), kleaf P t = true → P (krun lt t) = true
  | .ret a, h => h
  | .ask i j k, h => by
    simp only [kleaf, Bool.and_eq_true] at h
    show P (krun lt (k (lt i j))) = true
    refine krun_leaf lt _ ?_
    cases lt i j
    · exact h.2
    · exact h.1
theorem leaf3 (lt : Nat → Nat → Bool) : (krun lt (kas_sort 3)).size = 3 ∧ ∀ i ∈ (krun lt (kas_sort 3)).toList, i < 3 := by
  have := krun_leaf (P := fun a => a.size == 3 && a.toList.all fun i => decide (i < 3)) lt (kas_sort 3) (by decide +kernel)
  simp only [Bool.and_eq_true, beq_iff_eq, List.all_eq_true, decide_eq_true_eq] at this
  exact this
theorem kin3 : kin 3 (kas_sort 3) = true := by decide +kernel
/-- pairs in order -/
def ltP (p q : Int × List Nat) : Bool := if p.1 = q.1 then decide (p.2 < q.2) else decide (p.1 < q.1)
def pairD (o : Bool) (p : Int × List Nat) : D := .tup [.int p.1, .txt o p.2]
def order3 (ts : List (Int × List Nat)) : List (Int × List Nat) := (krun (fun i j => ltP (ts.getD i (0, [])) (ts.getD j (0, []))) (kas_sort 3)).toList.map fun i => ts.getD i (0, [])

section
variable {prog : Program} {w : World} {k : Nat} {A : Around} {E : Value → Shared → Prop} {s : Shared} {Z : List Addr} {o : Bool}
theorem ask_pairs {p q : Int × List Nat} {v u : Value} {Q : Bool → Shared → Prop} (hu : A.units + 8 < cLine) (r : Rep Z s.heap (pairD o p) v) (r' : Rep Z s.heap (pairD o q) u) (h : Q (ltP p q) s) : wpAny (model prog w) A (keyLt' (tuples' true) v u) Q E s := by
  obtain ⟨a, vs, rfl, _, ⟨n, hl⟩, ⟨x1, r1, rfl, ⟨t1, hx1⟩, x2, r2, rfl, rx2, hr⟩⟩ := r
  obtain ⟨b, ws, rfl, _, ⟨n', hl'⟩, ⟨y1, r1', rfl, ⟨t1', hy1⟩, y2, r2', rfl, ry2, hr'⟩⟩ := r'
  cases hr; cases hr'; subst hx1; subst hy1
  refine kat_lt hl rfl hl' rfl ?_
  refine kat_cons (wpAny_eqBool_int ?_)
  have e1 : (p.1 == q.1) = decide (p.1 = q.1) := by
    by_cases e : p.1 = q.1
    · rw [e]; simp
    · rw [decide_eq_false e]; exact beq_eq_false_iff_ne.mpr e
  rw [e1]
  unfold ltP at h
  by_cases e : p.1 = q.1
  · rw [decide_eq_true e]
    rw [if_pos e] at h
    refine kat_yes (kat_cons (Eqs.txt.eq (by omega) rx2 ry2 prog w _ _ ?_))
    by_cases e2 : p.2 = q.2
    · rw [decide_eq_true e2]
      refine kat_yes (kat_nil ?_)
      rw [e2, decide_eq_false (List.lt_irrefl _)] at h
      simpa using h
    · rw [decide_eq_false e2]
      refine kat_no ?_
      refine kat_one _ _ ?_
      exact rc_ltT rx2 ry2 h
  · rw [decide_eq_false e]
    rw [if_neg e] at h
    exact kat_no (oneLt_int h)
theorem tups_of {ts : List (Int × List Nat)} {vs : List Value} (r : Reps Z s.heap (ts.map (pairD o)) vs) : ∃ fs, KatTups s.heap vs fs ∧ fs.length = ts.length ∧ ∀ f ∈ fs, ∃ i t, f = .int i t := by
  induction ts generalizing vs with
  | nil => cases r; exact ⟨[], trivial, rfl, by simp⟩
  | cons p ts ih =>
    obtain ⟨v, rest, rfl, ⟨a, ws, rfl, _, ⟨n, hl⟩, ⟨x1, r1, rfl, ⟨t1, hx1⟩, r2⟩⟩, rr⟩ := r
    subst hx1
    obtain ⟨fs, h1, h2, h3⟩ := ih rr
    refine ⟨.int p.1 t1 :: fs, KatTups.cons hl rfl rfl (by simp) h1, by simp [h2], fun f hf => ?_⟩
    rcases List.mem_cons.mp hf with rfl | hf
    · exact ⟨_, _, rfl⟩
    · exact h3 f hf
theorem sort3 {a : Addr} {ts : List (Int × List Nat)} {vs : List Value} {n : Nat} {P : PySem.Fin → Shared → Prop} (hts : ts.length = 3) (hu : A.units + 8 < cLine) (ho : s.heap.get? a = some (seqObj "list" vs.toArray n)) (h0 : a ∉ Z) (hZ : Reps (a :: Z) s.heap (ts.map (pairD o)) vs)
    (h : ∀ h' ws c, (∀ b o, b ≠ a → s.heap.get? b = some o → h'.get? b = some o) → h'.get? a = some (seqObj "list" (List.toArray ws) c) → Reps (a :: Z) h' ((order3 ts).map (pairD o)) ws → P (.done (.ret .none)) { s with heap := h' }) :
    wpAny (model prog w) A (Builtin.«list.sort» ⟨[.ref a], []⟩) P E s := by
  have hvl := hZ.length
  simp [hts] at hvl
  rw [list_sort_plain]
  have ha : a < s.heap.objs.size := Heap.lt_size ho
  refine wpAny_bind (listItems_at ho rfl ?_)
  refine wpAny_bind (listUpdate_at ho rfl ?_ (by simp [hvl]; unfold sizeLine; omega) (Nat.zero_le _))
  obtain ⟨e1, ho1⟩ : ∃ e1, (s.heap.update a (Obj.mapSeq fun _ => #[])).get? a = some (seqObj "list" #[] e1) := ⟨_, get?_update_seq ho (fun _ => #[])⟩
  refine wpAny_bind (seqEpoch_at ho1 rfl ?_)
  refine wpAny_bind (wpAny_newTuple ?_ (by show vs.length ≤ _; rw [hvl]; unfold sizeLine; omega))
  refine wpAny_bind (wpAny_newList ?_ (Nat.zero_le _))
  refine wpAny_holding ?_
  have keep : ∀ b o', b ≠ a → s.heap.get? b = some o' → (((s.heap.update a (Obj.mapSeq fun _ => #[])).push (seqObj "tuple" vs.toArray 0)).push (seqObj "list" #[] 0)).get? b = some o' := fun b o' n e =>
    Heap.get?_push_of_some _ (Heap.get?_push_of_some _ (((Heap.SameBut.update s.heap a _).2 b n).trans e))
  have ho6 : (((s.heap.update a (Obj.mapSeq fun _ => #[])).push (seqObj "tuple" vs.toArray 0)).push (seqObj "list" #[] 0)).get? a = some (seqObj "list" #[] e1) :=
    Heap.get?_push_of_some _ (Heap.get?_push_of_some _ ho1)
  show wpAny (model prog w) A _ P E { s with heap := ((s.heap.update a (Obj.mapSeq fun _ => #[])).push (seqObj "tuple" vs.toArray 0)).push (seqObj "list" #[] 0) }
  generalize hH : ((s.heap.update a (Obj.mapSeq fun _ => #[])).push (seqObj "tuple" vs.toArray 0)).push (seqObj "list" #[] 0) = H at keep ho6 ⊢
  dsimp only
  have hZ6 : Reps (a :: Z) H (ts.map (pairD o)) vs := hZ.kp fun b o' n e => keep b o' (fun q => n (by simp [q])) e
  have hn2 : ¬ vs.toArray.size < 2 := by rw [List.size_toArray]; omega
  rw [if_neg hn2, if_neg hn2]
  obtain ⟨fs, hf1, hf2, hf3⟩ := tups_of (s := { s with heap := H }) hZ6
  refine wpAny_bind (kat_kind (T := .type "int") hf1 (by omega) (fun f hf => by obtain ⟨i, t, rfl⟩ := hf3 f hf; exact Looks.of_pure rfl) (by decide) ?_)
  have hlt : ∀ i j (C : Bool → Shared → Prop), i < 3 → j < 3 → C (ltP (ts.getD i (0, [])) (ts.getD j (0, []))) { s with heap := H } → kas_ask prog w A (tuples' (Value.type "int" != Value.type "tuple")) vs i j C { s with heap := H } := by
    intro i j C hi hj hC
    unfold kas_ask
    have at_ : ∀ i, i < 3 → Rep (a :: Z) H (pairD o (ts.getD i (0, []))) (vs.getD i Value.none) := fun i hi => by
      have ht : ts[i]? = some ts[i] := List.getElem?_eq_getElem (by omega)
      obtain ⟨v, hv, rv⟩ := hZ6.get (i := i) (d := pairD o ts[i]) (by rw [List.getElem?_map, ht]; rfl)
      have e1 : ts.getD i (0, []) = ts[i] := by simp [List.getD, ht]
      have e2 : vs.getD i Value.none = v := by simp [List.getD, hv]
      rw [e1, e2]; exact rv
    exact ask_pairs (s := { s with heap := H }) (o := o) hu (at_ i hi) (at_ j hj) hC
  refine wpAny_bind (wpAny_mono (kat_run (Q := fun st' s' => s' = { s with heap := H } ∧ failedOf st' = none ∧ (arrOf st').map (·.2) = List.toArray ((krun (fun i j => ltP (ts.getD i (0, [])) (ts.getD j (0, []))) (kas_sort 3)).toList.map fun i => vs.getD i Value.none))
    (G := fun p s' => s' = { s with heap := H } ∧ p = krun (fun i j => ltP (ts.getD i (0, [])) (ts.getD j (0, []))) (kas_sort 3)) rfl (by omega) (by omega) (fun p st' s' hp har hf hg => ?_) ?_) ?_ fun _ _ e => e)
  · obtain ⟨rfl, rfl⟩ := hg
    exact ⟨rfl, hf, kat_snds rfl har⟩
  · rw [hvl]
    exact krun_wp (n := 3) hlt (kas_sort 3) kin3 ⟨rfl, rfl⟩
  · rintro ⟨⟨⟩, st'⟩ s' ⟨rfl, hf, hsn⟩
    dsimp only
    refine wpAny_bind (seqEpoch_at (s := { s with heap := H }) ho6 rfl ?_)
    have hws : Reps (a :: Z) H ((order3 ts).map (pairD o)) ((krun (fun i j => ltP (ts.getD i (0, [])) (ts.getD j (0, []))) (kas_sort 3)).toList.map fun i => vs.getD i Value.none) := by
      unfold order3
      have key : ∀ l : List Nat, (∀ i ∈ l, i < 3) → Reps (a :: Z) H ((l.map fun i => ts.getD i (0, [])).map (pairD o)) (l.map fun i => vs.getD i Value.none) := by
        intro l
        induction l with
        | nil => intro _; exact Reps.nil
        | cons i l ih =>
          intro hl
          have hi := hl i List.mem_cons_self
          have ht : ts[i]? = some ts[i] := List.getElem?_eq_getElem (by omega)
          obtain ⟨v, hv, rv⟩ := hZ6.get (i := i) (d := pairD o ts[i]) (by rw [List.getElem?_map, ht]; rfl)
          have e1 : ts.getD i (0, []) = ts[i] := by simp [List.getD, ht]
          have e2 : vs.getD i Value.none = v := by simp [List.getD, hv]
          rw [List.map_cons, List.map_cons, List.map_cons, e1, e2]
          exact Reps.cons rv (ih fun j hj => hl j (List.mem_cons_of_mem _ hj))
      exact key _ (leaf3 _).2
    rw [hsn]
    refine wpAny_bind (listUpdate_at (s := { s with heap := H }) ho6 rfl ?_ (Nat.zero_le _) (by simp [(leaf3 _).1]; unfold sizeLine; omega))
    rw [hf]
    simp only [bne_self_eq_false, Bool.false_eq_true, if_false]
    refine wpAny_pure (h _ _ _ (fun b o' n e => ((Heap.SameBut.update H a _).2 b n).trans (keep b o' n e)) (get?_update_seq ho6 _) (hws.kp fun b o' n e => ((Heap.SameBut.update H a _).2 b (fun q => n (by simp [q]))).trans e))

theorem cl_sorted3 {ts : List (Int × List Nat)} (hts : ts.length = 3) : Cl prog w k (PySem.Str.ofString "sorted") [.list (ts.map (pairD o))] (.list ((order3 ts).map (pairD o))) := by
  intro A Z s f vs R top al g r
  have ef := Glb.uniq g (glbT "sorted" (.builtin "sorted") (by decide) top)
  subst ef
  obtain ⟨v, r1, rfl, ⟨l, ws, rfl, hn, pl, hr⟩, rr⟩ := r
  cases rr
  have hwl := hr.length
  simp [hts] at hwl
  have hu := R.line64
  refine Calls.call_function_entry kind_sorted plain_sorted entry_sorted (args_sorted1 _) ?_
  unfold Builtin.«sorted»
  refine wpAny_bind (m := checkCount "sorted" 1 1 _) (wpAny_pure ?_)
  refine wpAny_bind (collect_list pl.isList ?_ (by rw [hwl]; unfold sizeLine; omega))
  refine wpAny_bind (wpAny_newList ?_ (by rw [hwl]; unfold sizeLine; omega))
  have hsz : ((s.heap.push (seqObj "list" #[] 0)).update s.heap.objs.size (Obj.mapSeq (· ++ ws.toArray))).objs.size = s.heap.objs.size + 1 := by
    rw [Heap.size_update, size_push']
  have hoL : (((s.heap.push (seqObj "list" #[] 0)).update s.heap.objs.size (Obj.mapSeq (· ++ ws.toArray))).push (seqObj "list" ws.toArray 0)).get? (s.heap.objs.size + 1) = some (seqObj "list" ws.toArray 0) := by
    rw [← hsz]; exact Heap.get?_push_size _ rfl
  have keep : ∀ b o, s.heap.get? b = some o → (((s.heap.push (seqObj "list" #[] 0)).update s.heap.objs.size (Obj.mapSeq (· ++ ws.toArray))).push (seqObj "list" ws.toArray 0)).get? b = some o := fun b o q => by
    have hlt : b < s.heap.objs.size := Heap.lt_size q
    rw [Heap.get?_push_ne _ _ _ (by rw [hsz]; exact Nat.ne_of_lt (Nat.lt_succ_of_lt hlt)), Heap.get?_update_ne _ _ _ _ (Nat.ne_of_lt hlt), Heap.get?_push_ne _ _ _ (Nat.ne_of_lt hlt)]
    exact q
  have fr : s.heap.get? (s.heap.objs.size + 1) = none := PySem.Heap.get?_none_of_le (Nat.le_succ _)
  show wpAny _ _ _ _ _ { s with heap := ((s.heap.push (seqObj "list" #[] 0)).update s.heap.objs.size (Obj.mapSeq (· ++ ws.toArray))).push (seqObj "list" ws.toArray 0) }
  rw [hsz]
  have hr2 : Reps ((s.heap.objs.size + 1) :: Z) (((s.heap.push (seqObj "list" #[] 0)).update s.heap.objs.size (Obj.mapSeq (· ++ ws.toArray))).push (seqObj "list" ws.toArray 0)) (ts.map (pairD o)) ws :=
    hr.more (W := [s.heap.objs.size + 1]) keep fun a ha => by rw [List.mem_singleton.mp ha]; exact fr
  refine wpAny_bind (wpAny_holding (wpAny_call_entry slot_list_sort ⟨_, hoL, rfl⟩ entry_list_sort (sort3 (Z := Z) (o := o) hts (by simp; omega) hoL (al.new fr) hr2 fun h' ws' c hk hL hr' => ⟨_, rfl, ?_⟩) (args_list_sort _)))
  refine wpAny_pure ⟨_, rfl, ⟨fun b o' _ e => hk b o' (fun q => by rw [q, fr] at e; cases e) (keep b o' e), rfl, rfl⟩, _, ws', rfl, al.new fr, ⟨c, hL⟩, hr'.weak fun b hb => List.mem_cons_of_mem _ hb⟩
end
end Mine
end
section
open PySem PyProof.Rows PySem.SeqAt
set_option maxRecDepth 100000
set_option linter.unusedVariables false
set_option linter.unusedSimpArgs false
namespace Mine

section
variable {prog : Program} {w : World} {k k' : Nat} {env : Env} {ρ : List (Str × B)}
theorem Cl.le {x : Str} {ds : List D} {d : D} (h : Cl prog w k x ds d) (hk : k ≤ k') : Cl prog w k' x ds d := fun A Z s f vs R => h A Z s f vs (R.le hk)
theorem m_split {o : Bool} {a : List Nat} {c : Nat} (ha : a.length ≤ 100000) : Mth prog w k (PySem.Str.ofString "split") (.txt o a) [.txt o [c]] (.list (txts o (splitL c a))) := by
  cases o
  · exact m_splitS ha
  · exact m_splitB ha
theorem m_join {o : Bool} {c : Nat} {ps : List (List Nat)} (h : (ps.map List.length).sum + ps.length ≤ 1000000) : Mth prog w k (PySem.Str.ofString "join") (.txt o [c]) [.list (txts o ps)] (.txt o (joinL c ps)) := by
  cases o
  · exact m_joinS h
  · exact m_joinB h
/-- isinstance(e, bytes) -/
theorem Tb.isb {e : Expr} {p p2 pos : Pos} {o : Bool} {cs : List Nat} (h1 : env.kindOf (Str.ofString "isinstance") = some .globalImplicit) (h2 : env.kindOf (Str.ofString "bytes") = some .globalImplicit) (h : Ev prog w k env ρ e (.txt o cs)) (hs : noStars [e, .Name (Str.ofString "bytes") p2] = true) :
    Tb prog w k env ρ (.Call (.Name (Str.ofString "isinstance") p) [e, .Name (Str.ofString "bytes") p2] [] pos) o :=
  Tb.value (Ev.callb (f := .builtin "isinstance") h1 rfl (fun h t => glbT "isinstance" _ (by decide) t) (fun _ e => by cases e) (Evs.cons h (Evs.cons (Ev.gname (d := .ty "bytes") (v := .type "bytes") h2 rfl (fun h t => glbT "bytes" _ (by decide) t) (fun _ _ => rfl)) Evs.nil)) cl_isinstance hs) t_bool
theorem Ev.len {e : Expr} {p pos : Pos} {d : D} {n : Nat} (h1 : env.kindOf (Str.ofString "len") = some .globalImplicit) (h : Ev prog w k env ρ e d) (c : Cl prog w k (Str.ofString "len") [d] (.int n)) (hs : noStars [e] = true) : Ev prog w k env ρ (.Call (.Name (Str.ofString "len") p) [e] [] pos) (.int n) :=
  Ev.callb (f := .builtin "len") h1 rfl (fun h t => glbT "len" _ (by decide) t) (fun _ e => by cases e) (Evs.cons h Evs.nil) c hs
theorem Tb.eq {e : Expr} {b b' : Bool} (h : Tb prog w k env ρ e b) (q : b = b') : Tb prog w k env ρ e b' := q ▸ h
theorem Ev.eq {e : Expr} {d d' : D} (h : Ev prog w k env ρ e d) (q : d = d') : Ev prog w k env ρ e d' := q ▸ h
theorem Cl.eqd {x : Str} {ds : List D} {d d' : D} (h : Cl prog w k x ds d) (q : d = d') : Cl prog w k x ds d' := q ▸ h
theorem then_nil {A : Around} {Q : Flow → Shared → Prop} {s : Shared} (h : Q .next s) : Then prog w A env [] Q .next s := wpAny_execs_nil h
theorem then_run {A : Around} {s₀ sb s : Shared} {Y X : List Addr} {rest : List Stmt} {Q : Flow → Shared → Prop} (g : G s₀ sb Y env X ρ s) (h : Run prog w A s₀ sb Y env X ρ rest Q) : Then prog w A env rest Q .next s := h s g
theorem gives_of {s₀ s : Shared} {Y X : List Addr} {d : D} {v : Value} (e : Ext [] s₀ s) (r : Rep (X ++ Y) s.heap d v) : Gives s₀ Y d (.ret v) s := ⟨v, rfl, e, r.weak fun a ha => List.mem_append.mpr (.inr ha)⟩

theorem f_get_sep {o : Bool} {cs : List Nat} : Cl prog w 2 (dfn 13).name [.txt o cs] (.txt o [47]) := by
  refine Cl.of_run (k := 1) 13 (by decide) (xs := [Str.ofString "path"]) rfl (fun pm code doc vs hv => ?_) (fun n x hx => ?_) (h := fun A s₀ Y pm code doc L a R => ?_)
  · obtain ⟨v, rfl⟩ := List.length_eq_one_iff.mp hv
    rfl
  · rw [List.mem_singleton.mp hx]; left; rfl
  · conv in (dfn 13).body => whnf
    refine Run.ite R (Tb.isb rfl rfl (Ev.name rfl rfl) rfl) (fun e => ?_) (fun e => ?_)
    · subst e
      exact Run.ret R (Ev.bytes rfl) fun s v e r => ⟨v, rfl, e, r.weak fun a ha => List.mem_append.mpr (.inr ha)⟩
    · subst e
      exact Run.ret R (Ev.str rfl) fun s v e r => ⟨v, rfl, e, r.weak fun a ha => List.mem_append.mpr (.inr ha)⟩
end
end Mine
end
section
open PySem PyProof.Rows PySem.SeqAt
set_option maxRecDepth 100000
set_option linter.unusedVariables false
set_option linter.unusedSimpArgs false
namespace Mine
/-- a def of one argument and a rest, called with two -/
theorem Cl.of_star {prog : Program} {w : World} {k : Nat} (i : Nat) (hi : i ∈ theDefs) {x y : Str} {d₁ d₂ d : D}
    (hb : ∀ pm code doc u v, bindArgs (Calls.docDef (dfn i).name (dfn i).params (dfn i).body (dfn i).scope pm code doc) ⟨[u, v], []⟩ = (do let t ← newTuple [v]; pure [(x, u), (y, t)]))
    (hx : (dfn i).scope.names.lookup x = some .local) (hy : (dfn i).scope.names.lookup y = some .local) (hxy : x ≠ y)
    (hco : (dfn i).scope.isCoroutine = false := by rfl) (hgen : (dfn i).scope.isGenerator = false := by rfl) (hk : (dfn i).scope.kind = .function := by rfl)
    (h : ∀ A s₀ Y pm code doc L a, Rm k A → Run prog w A s₀ s₀ Y (envF i pm code doc L a) (ownX (envF i pm code doc L a)) [(y, .dat (.tup [d₂])), (x, .dat d₁)] (dfn i).body (Gives s₀ Y d)) :
    Cl prog w (k + 1) (dfn i).name [d₁, d₂] d := by
  intro A Z s f vs R top al g r
  obtain ⟨a, F⟩ := top.fn i hi
  have ef := Glb.uniq g F.glb
  subst ef
  obtain ⟨o, pm, code, doc, ho, hd, hc⟩ := F.fn
  obtain ⟨u, r1, rfl, ru, v, r2, rfl, rv, rr⟩ := r
  cases rr
  refine wpAny_call (codeAny_call_function R.limit ho hd hco hgen rfl hc ?_)
  rw [hb]
  refine wpAny_bind (wpAny_newTuple ?_ (by show 1 ≤ sizeLine; unfold sizeLine; omega))
  have eT : Ext [] s { s with heap := s.heap.push { cls := .type "tuple", data := .seq [v].toArray } } := .push
  have hT : (s.heap.push { cls := .type "tuple", data := .seq [v].toArray }).get? s.heap.objs.size = some { cls := .type "tuple", data := .seq [v].toArray } := Heap.get?_push_size _ rfl
  generalize hTT : s.heap.objs.size = T at *
  generalize hsT : ({ s with heap := s.heap.push { cls := .type "tuple", data := .seq [v].toArray } } : Shared) = sT at *
  have hT' : sT.heap.get? T = some { cls := .type "tuple", data := .seq [v].toArray } := by rw [← hsT]; exact hT
  refine wpAny_pure (wpAny_newFunctionEnv_cells hk (fun b hb => ?_) fun env he s₁ C => ?_)
  · rcases List.mem_cons.mp hb with rfl | hb
    · exact .inl hx
    · rw [List.mem_singleton.mp hb]; exact .inl hy
  have he' : env = envF i pm code doc sT.heap.objs.size a := he
  clear he
  subst he'
  have e1' : Ext [] sT s₁ := by
    obtain ⟨h', tk, rfl⟩ := C.toInCall.same
    exact ⟨fun a o _ e => C.toInCall.keep a o e, rfl, rfl⟩
  have e1 : Ext [] s s₁ := eT.trans e1'
  have fr' : ∀ b, sT.heap.objs.size ≤ b → sT.heap.get? b = none := fun b hb => PySem.Heap.get?_none_of_le hb
  have fr : ∀ b, sT.heap.objs.size ≤ b → s.heap.get? b = none := fun b hb => by
    cases q : s.heap.get? b with
    | none => rfl
    | some o' => have := eT.keep _ _ q; rw [fr' b hb] at this; cases this
  have frT : s.heap.get? T = none := PySem.Heap.get?_none_of_le (Nat.le_of_eq hTT)
  have hL : sT.heap.objs.size ≤ (envF i pm code doc sT.heap.objs.size a).locals := C.toInCall.fresh
  have hX' : ∀ b ∈ ownX (envF i pm code doc sT.heap.objs.size a), sT.heap.objs.size ≤ b := fun b hb => by
    rcases List.mem_cons.mp hb with rfl | hb
    · exact hL
    · obtain ⟨p, hp, hq⟩ := List.mem_filterMap.mp hb
      exact Nat.le_of_lt (Nat.lt_of_le_of_lt hL (C.above p.1 b (mem_of_lookup hq)))
  have hX : ∀ b ∈ ownX (envF i pm code doc sT.heap.objs.size a), s.heap.get? b = none := fun b hb => fr b (hX' b hb)
  have hTX : T ∉ ownX (envF i pm code doc sT.heap.objs.size a) := fun q => by
    have := fr' T (hX' T q); rw [hT'] at this; cases this
  have hTZ : T ∉ Z := al.new frT
  have ru1 := ru.more (W := ownX (envF i pm code doc sT.heap.objs.size a)) e1.keep hX
  have rv1 := rv.more (W := ownX (envF i pm code doc sT.heap.objs.size a)) e1.keep hX
  have rT1 : Rep (ownX (envF i pm code doc sT.heap.objs.size a) ++ Z) s₁.heap (.tup [d₂]) (.ref T) :=
    ⟨T, [v], rfl, fun q => (List.mem_append.mp q).elim hTX hTZ, ⟨_, e1'.keep _ _ hT'⟩, Reps.cons rv1 Reps.nil⟩
  have lk : ∀ {n : Str} {c : Addr}, (envF i pm code doc sT.heap.objs.size a).cells.lookup n = some c → (n, c) ∈ (envF i pm code doc sT.heap.objs.size a).cells := mem_of_lookup
  have g₁ : G s s Z (envF i pm code doc sT.heap.objs.size a) (ownX (envF i pm code doc sT.heap.objs.size a)) [(y, .dat (.tup [d₂])), (x, .dat d₁)] s₁ := by
    refine ⟨e1, e1.wk, top, hk, rfl, rfl, al.ext e1, fun b hb => ⟨hX b hb, ?_⟩, fun b hb q => (by obtain ⟨o, e⟩ := al b q; rw [hX b hb] at e; cases e), ⟨List.mem_cons_self, _, C.toInCall.ns⟩, fun n c e => ⟨List.mem_cons_of_mem _ (List.mem_filterMap.mpr ⟨(n, c), lk e, e⟩), _, C.cell n c e⟩, fun n n' c e e' => name_of_addr C.apart (lk e) (lk e'), fun z b e => ?_, fun z b ds' e => ?_⟩
    · rcases List.mem_cons.mp hb with rfl | hb
      · obtain ⟨o, _, _, q, _⟩ := C.toInCall.ns; exact ⟨o, q⟩
      · obtain ⟨p, hp, hq⟩ := List.mem_filterMap.mp hb
        obtain ⟨o, q, _⟩ := C.cell p.1 b hq
        exact ⟨o, q⟩
    · by_cases q : z = y
      · subst q
        rw [lookup_self] at e; cases e
        refine ⟨_, .inl ⟨hy, _, C.toInCall.ns, ?_⟩, rT1⟩
        rw [bindL_get hy]; simp [List.lookup_cons]
      · rw [lookup_ne q] at e
        by_cases q2 : z = x
        · subst q2
          rw [lookup_self] at e; cases e
          refine ⟨_, .inl ⟨hx, _, C.toInCall.ns, ?_⟩, ru1⟩
          rw [bindL_get hx]
          have e1 : (z == y) = false := beq_eq_false_iff_ne.mpr q
          simp [List.lookup_cons, e1]
        · rw [lookup_ne q2] at e; cases e
    · by_cases q : z = y
      · subst q; rw [lookup_self] at e; cases e
      · rw [lookup_ne q] at e
        by_cases q2 : z = x
        · subst q2; rw [lookup_self] at e; cases e
        · rw [lookup_ne q2] at e; cases e
  refine ⟨top.nolimit.keeps e1.keep, codeAny_func ?_⟩
  exact wpAny_mono (h _ s Z pm code doc sT.heap.objs.size a R.deeper s₁ g₁) (fun f' s' hf => by obtain ⟨v, rfl, x, y⟩ := hf; exact ⟨x, y⟩) fun _ _ x => x.elim

section
variable {prog : Program} {w : World}
/-- join of a path that is not empty and a tail that does not begin with a slash -/
def joinT (a b : List Nat) : List Nat := if lastIs 47 a then a ++ b else a ++ (47 :: b)
theorem f_join {o : Bool} {a b : List Nat} (ha : a ≠ []) (hb : headIs 47 b = false) (hl : a.length + b.length ≤ 90000) : Cl prog w 3 (dfn 14).name [.txt o a, .txt o b] (.txt o (joinT a b)) := by
  refine Cl.of_star (k := 2) 14 (by decide) (x := Str.ofString "a") (y := Str.ofString "p") (fun pm code doc u v => rfl) rfl rfl (by decide) (h := fun A s₀ Y pm code doc L a' R => ?_)
  conv in (dfn 14).body => whnf
  refine Run.assign R (Ev.callf 9 (by decide) rfl rfl (Evs.cons (Ev.name rfl rfl) Evs.nil) f_fspath) (.inl rfl) ?_
  refine Run.assign R (Ev.callf 13 (by decide) rfl rfl (Evs.cons (Ev.name rfl rfl) Evs.nil) f_get_sep) (.inl rfl) ?_
  refine Run.assign R (Ev.name rfl rfl) (.inl rfl) ?_
  refine Run.try_ ?_
  refine Run.for_ R (Ev.name rfl rfl) (ds := [.txt o b]) rfl (fun i => match i with | 0 => [(Str.ofString "p", .dat (.tup [.txt o b])), (Str.ofString "sep", .dat (.txt o [47])), (Str.ofString "path", .dat (.txt o a))] | _ + 1 => [(Str.ofString "path", .dat (.txt o (joinT a b)))]) _ (fun i di hdi => Tgt.name (.inl rfl)) ?_ ?_ ?_ (.inl ⟨_, _, rfl⟩)
  · refine ⟨rfl, rfl, rfl, trivial⟩
  · intro i di s1 J hdi
    have hi : i = 0 := by
      cases i with
      | zero => rfl
      | succ i => simp at hdi
    subst hi
    cases hdi
    have hne : a.isEmpty = false := by cases a <;> simp_all
    refine Run.assign R (Ev.callf 9 (by decide) rfl rfl (Evs.cons (Ev.name rfl rfl) Evs.nil) f_fspath) (.inl rfl) ?_
    refine Run.ite (b := false) R (Tb.eq (Tb.or2 (Tb.value (Ev.meth (Ev.name rfl rfl) (Evs.cons (Ev.name rfl rfl) Evs.nil) m_startswith) t_bool) (fun _ => Tb.not (Tb.value (Ev.name rfl rfl) (t_txt (by omega))))) (by simp [hb, hne])) (fun e => by cases e) (fun _ => ?_)
    · refine Run.ite (b := lastIs 47 a) R (Tb.value (Ev.meth (Ev.name rfl rfl) (Evs.cons (Ev.name rfl rfl) Evs.nil) m_endswith) t_bool) (fun e => ?_) (fun e => ?_)
      · refine Run.aug R rfl rfl (Ev.name rfl rfl) (oi_addT (by omega)) (.inl rfl) ?_
        have hj : joinT a b = a ++ b := by unfold joinT; rw [if_pos e]
        exact Run.nil fun s g => then_nil (then_nil (g.weak ⟨by rw [hj]; rfl, trivial⟩))
      · refine Run.aug R rfl rfl (Ev.binop (Ev.name rfl rfl) (Ev.name rfl rfl) (o_addT (by simp; omega))) (oi_addT (by simp; omega)) (.inl rfl) ?_
        have hj : joinT a b = a ++ (47 :: b) := by unfold joinT; rw [if_neg (by rw [e]; simp)]
        exact Run.nil fun s g => then_nil (then_nil (g.weak ⟨by rw [hj]; rfl, trivial⟩))
  · exact Run.nil fun s g => then_nil (then_run g (Run.ret R (Ev.name rfl rfl) fun s v e r => gives_of e r))
end
end Mine
end
section
open PySem PyProof.Rows PySem.SeqAt
set_option maxRecDepth 100000
set_option linter.unusedVariables false
set_option linter.unusedSimpArgs false
namespace Mine
/-- the only list of the frame's own is under x -/
def OneOwn (x : Str) : List (Str × B) → Prop
  | [] => True
  | (y, .own _ _) :: r => y = x ∧ OneOwn x r
  | (_, .dat _) :: r => OneOwn x r
theorem OneOwn.ne {x : Str} : ∀ {ρ : List (Str × B)}, OneOwn x ρ → ∀ {y : Str} {b : Addr} {es : List D}, ρ.lookup y = some (.own b es) → y ≠ x → False
  | [], _, y, b, es, h, _ => by simp at h
  | (z, .own c ds) :: r, ⟨hz, hr⟩, y, b, es, h, hy => by
    rw [List.lookup_cons] at h
    cases e : y == z with
    | true => exact hy ((eq_of_beq e).trans hz)
    | false => rw [e] at h; exact OneOwn.ne (ρ := r) hr h hy
  | (z, .dat d) :: r, hr, y, b, es, h, hy => by
    rw [List.lookup_cons] at h
    cases e : y == z with
    | true => rw [e] at h; cases h
    | false => rw [e] at h; exact OneOwn.ne (ρ := r) hr h hy
theorem OneOwn.hd {x : Str} {ρ : List (Str × B)} {a : Addr} (h : OneOwn x ρ) : ∀ y b es, ρ.lookup y = some (.own b es) → y ≠ x → b ≠ a := fun y b es e hy => (h.ne e hy).elim

section
variable {prog : Program} {w : World}
theorem f_splitroot {o : Bool} {c : Nat} {r : List Nat} (hc : c ≠ 47) (hl : r.length ≤ 90000) : Cl prog w 3 (dfn 15).name [.txt o (47 :: c :: r)] (.tup [.txt o [], .txt o [47], .txt o (c :: r)]) := by
  refine Cl.of_run (k := 2) 15 (by decide) (xs := [Str.ofString "p"]) rfl (fun pm code doc vs hv => ?_) (fun n x hx => ?_) (h := fun A s₀ Y pm code doc L a R => ?_)
  · obtain ⟨v, rfl⟩ := List.length_eq_one_iff.mp hv
    rfl
  · rw [List.mem_singleton.mp hx]; left; rfl
  · conv in (dfn 15).body => whnf
    refine Run.assign R (Ev.callf 9 (by decide) rfl rfl (Evs.cons (Ev.name rfl rfl) Evs.nil) f_fspath) (.inl rfl) ?_
    have go : ∀ ρ : List (Str × B), Sub ρ [(Str.ofString "p", .dat (.txt o (47 :: c :: r))), (Str.ofString "sep", .dat (.txt o [47])), (Str.ofString "empty", .dat (.txt o []))] → Run prog w A s₀ s₀ Y (envF 15 pm code doc L a) (ownX (envF 15 pm code doc L a)) ρ ((dfn 15).body.drop 2) (Gives s₀ Y (.tup [.txt o [], .txt o [47], .txt o (c :: r)])) := fun ρ hρ => by
      refine Run.weak ?_ hρ
      conv in List.drop 2 (dfn 15).body => whnf
      refine Run.ite (b := false) R (Tb.eq (Tb.compare (Ev.cut (Ev.name rfl rfl) rfl ⟨1, rfl, Ev.int⟩ rfl (cut_txt none (some 1) (.inl (by simp)) (by simp; omega))) (Ev.name rfl rfl) c_neT) (by simp)) (fun e => by cases e) (fun _ => ?_)
      refine Run.ite (b := true) R (Tb.eq (Tb.or2 (a := true) (b := false) (Tb.eq (Tb.compare (Ev.cut (Ev.name rfl rfl) ⟨1, rfl, Ev.int⟩ ⟨2, rfl, Ev.int⟩ rfl (cut_txt (some 1) (some 2) (.inl (by simp)) (by simp; omega))) (Ev.name rfl rfl) c_neT) (by simp [hc])) (fun e => by cases e)) rfl) (fun _ => ?_) (fun e => by cases e)
      refine Run.ret R (Ev.tuple (Evs.cons (Ev.name rfl rfl) (Evs.cons (Ev.name rfl rfl) (Evs.cons (Ev.cut (Ev.name rfl rfl) ⟨1, rfl, Ev.int⟩ rfl rfl (cut_txt (some 1) none (.inr rfl) (by simp; omega))) Evs.nil)))) fun s v e r => ?_
      have := gives_of e r
      simp at this
      exact this
    refine Run.ite R (Tb.isb rfl rfl (Ev.name rfl rfl) rfl) (fun e => ?_) (fun e => ?_)
    · subst e
      refine Run.assign R (Ev.bytes rfl) (.inl rfl) (Run.assign R (Ev.bytes rfl) (.inl rfl) (Run.nil fun s g => then_run g (go _ ⟨rfl, rfl, rfl, trivial⟩)))
    · subst e
      refine Run.assign R (Ev.str rfl) (.inl rfl) (Run.assign R (Ev.str rfl) (.inl rfl) (Run.nil fun s g => then_run g (go _ ⟨rfl, rfl, rfl, trivial⟩)))

/-- a turn of normpath's loop -/
def normStep (acc : List (List Nat)) (comp : List Nat) : List (List Nat) :=
  if comp = [] ∨ comp = [46] then acc else if comp ≠ [46, 46] ∨ acc.getLast? = some [46, 46] then acc ++ [comp] else acc.dropLast
/-- normpath of a path with one slash ahead -/
def normS (p : List Nat) : List Nat := 47 :: joinL 47 ((splitL 47 (p.drop 1)).foldl normStep [])
theorem normStep_len (acc : List (List Nat)) (comp : List Nat) : (normStep acc comp).length ≤ acc.length + 1 := by
  unfold normStep
  split
  · omega
  · split <;> simp <;> omega
theorem normStep_sum (acc : List (List Nat)) (comp : List Nat) : ((normStep acc comp).map List.length).sum ≤ (acc.map List.length).sum + comp.length := by
  unfold normStep
  split
  · omega
  · split
    · simp
    · have : (acc.dropLast.map List.length).sum ≤ (acc.map List.length).sum := by
        rw [List.dropLast_eq_take]
        have := List.take_append_drop (acc.length - 1) acc
        conv => rhs; rw [← this]
        rw [List.map_append, List.sum_append]; omega
      omega
theorem foldN_len : ∀ (l : List (List Nat)) (acc : List (List Nat)), (l.foldl normStep acc).length ≤ acc.length + l.length
  | [], acc => by simp
  | x :: l, acc => by
    have := foldN_len l (normStep acc x)
    have := normStep_len acc x
    simp only [List.foldl_cons, List.length_cons]; omega
theorem foldN_sum : ∀ (l : List (List Nat)) (acc : List (List Nat)), ((l.foldl normStep acc).map List.length).sum ≤ (acc.map List.length).sum + (l.map List.length).sum
  | [], acc => by simp
  | x :: l, acc => by
    have := foldN_sum l (normStep acc x)
    have := normStep_sum acc x
    simp only [List.foldl_cons, List.map_cons, List.sum_cons]; omega
theorem splitL_sum (c : Nat) : ∀ l, ((splitL c l).map List.length).sum ≤ l.length
  | [] => by simp [splitL]
  | x :: xs => by
    have ih := splitL_sum c xs
    unfold splitL
    split
    · simp; omega
    · cases q : splitL c xs with
      | nil => simp
      | cons p ps => rw [q] at ih; simp at ih ⊢; omega
theorem len_le_sum : ∀ {l : List (List Nat)} {x : List Nat}, x ∈ l → x.length ≤ (l.map List.length).sum
  | y :: l, x, h => by
    rcases List.mem_cons.mp h with rfl | h
    · simp
    · have := len_le_sum h; simp; omega
theorem getLast_txts {o : Bool} {X : List (List Nat)} {x : List Nat} (h : X.getLast? = some x) : (txts o X).getLast? = some (.txt o x) := by
  unfold txts; rw [List.getLast?_map, h]; rfl
set_option maxHeartbeats 1000000 in
theorem f_normpath {o : Bool} {c : Nat} {r : List Nat} (hc : c ≠ 47) (hl : r.length ≤ 9000) : Cl prog w 4 (dfn 16).name [.txt o (47 :: c :: r)] (.txt o (normS (47 :: c :: r))) := by
  refine Cl.of_run (k := 3) 16 (by decide) (xs := [Str.ofString "path"]) rfl (fun pm code doc vs hv => ?_) (fun n x hx => ?_) (h := fun A s₀ Y pm code doc L a R => ?_)
  · obtain ⟨v, rfl⟩ := List.length_eq_one_iff.mp hv
    rfl
  · rw [List.mem_singleton.mp hx]; left; rfl
  · conv in (dfn 16).body => whnf
    refine Run.assign R (Ev.callf 9 (by decide) rfl rfl (Evs.cons (Ev.name rfl rfl) Evs.nil) ((f_fspath (k := 0)).le (by omega))) (.inl rfl) ?_
    have go : ∀ ρ : List (Str × B), Sub ρ [(Str.ofString "path", .dat (.txt o (47 :: c :: r))), (Str.ofString "sep", .dat (.txt o [47])), (Str.ofString "dot", .dat (.txt o [46])), (Str.ofString "dotdot", .dat (.txt o [46, 46]))] → Run prog w A s₀ s₀ Y (envF 16 pm code doc L a) (ownX (envF 16 pm code doc L a)) ρ ((dfn 16).body.drop 2) (Gives s₀ Y (.txt o (normS (47 :: c :: r)))) := fun ρ hρ => by
      refine Run.weak ?_ hρ
      conv in List.drop 2 (dfn 16).body => whnf
      refine Run.ite (b := false) R (Tb.eq (Tb.not (Tb.value (Ev.name rfl rfl) (t_txt (a := 47 :: c :: r) (by simp; omega)))) (by simp)) (fun e => by cases e) (fun _ => Run.nil fun s g => then_run g ?_)
      refine Run.unpack R (Ev.callf 15 (by decide) rfl rfl (Evs.cons (Ev.name rfl rfl) Evs.nil) (f_splitroot hc (by omega))) (Tgt.tuple (xs := [(Str.ofString "_", _), (Str.ofString "initial_slashes", _), (Str.ofString "path", _)]) ?_ rfl rfl) ?_ (fun _ => rfl)
      · intro x hx; simp at hx; rcases hx with rfl | rfl | rfl <;> exact .inl rfl
      refine Run.assign R (Ev.meth (Ev.name rfl rfl) (Evs.cons (Ev.name rfl rfl) Evs.nil) (m_split (by simp; omega))) (.inl rfl) ?_
      refine Run.newList (.inl rfl) fun aN haX hsb => ?_
      generalize hC : splitL 47 (c :: r) = C
      have hCl : C.length ≤ 9002 := by rw [← hC]; have := splitL_length 47 (c :: r); simp at this ⊢; omega
      have hCs : (C.map List.length).sum ≤ 9001 := by rw [← hC]; have := splitL_sum 47 (c :: r); simp at this ⊢; omega
      refine Run.for_ R (Ev.name rfl rfl) (ds := txts o C) rfl (fun i => [(Str.ofString "new_comps", .own aN (txts o ((C.take i).foldl normStep []))), (Str.ofString "dot", .dat (.txt o [46])), (Str.ofString "dotdot", .dat (.txt o [46, 46])), (Str.ofString "initial_slashes", .dat (.txt o [47])), (Str.ofString "sep", .dat (.txt o [47]))]) _ (fun i di hdi => Tgt.name (.inl rfl)) ?_ ?_ ?_ (.inl ⟨_, _, rfl⟩)
      · exact ⟨rfl, rfl, rfl, rfl, rfl, trivial⟩
      · intro i di s1 J hdi
        have hi : ∃ x, C[i]? = some x ∧ di = .txt o x := by
          unfold txts at hdi
          rw [List.getElem?_map] at hdi
          obtain ⟨x, h1, h2⟩ := Option.map_eq_some_iff.mp hdi
          exact ⟨x, h1, h2.symm⟩
        obtain ⟨x, hx, rfl⟩ := hi
        have hx1 : x.length ≤ 9001 := by
          have h1 : x ∈ C := List.mem_of_getElem? hx
          have := len_le_sum h1
          omega
        have hstep : (C.take (i + 1)).foldl normStep [] = normStep ((C.take i).foldl normStep []) x := by
          rw [List.take_add_one, hx, List.foldl_append]; rfl
        have hal : ((C.take i).foldl normStep []).length ≤ 9002 := by
          have := foldN_len (C.take i) []
          have h2 : (C.take i).length ≤ C.length := by rw [List.length_take]; omega
          simp at this h2; omega
        generalize hacc : (C.take i).foldl normStep [] = acc at hstep hal
        have hfin : ∀ {ρ : List (Str × B)} {s : Shared}, G s₀ s1 (J :: Y) (envF 16 pm code doc L a) (aN :: ownX (envF 16 pm code doc L a)) ρ s → Sub ρ [(Str.ofString "new_comps", .own aN (txts o (normStep acc x))), (Str.ofString "dot", .dat (.txt o [46])), (Str.ofString "dotdot", .dat (.txt o [46, 46])), (Str.ofString "initial_slashes", .dat (.txt o [47])), (Str.ofString "sep", .dat (.txt o [47]))] →
            G s₀ s1 (J :: Y) (envF 16 pm code doc L a) (aN :: ownX (envF 16 pm code doc L a)) ((fun i => [(Str.ofString "new_comps", B.own aN (txts o ((C.take i).foldl normStep []))), (Str.ofString "dot", .dat (.txt o [46])), (Str.ofString "dotdot", .dat (.txt o [46, 46])), (Str.ofString "initial_slashes", .dat (.txt o [47])), (Str.ofString "sep", .dat (.txt o [47]))]) (i + 1)) s := fun g hs => by
          show G _ _ _ _ _ [(Str.ofString "new_comps", B.own aN (txts o ((C.take (i + 1)).foldl normStep []))), _, _, _, _] _
          rw [hstep]
          exact g.weak hs
        refine Run.weak (ρ' := [(Str.ofString "comp", .dat (.txt o x)), (Str.ofString "new_comps", .own aN (txts o acc)), (Str.ofString "dot", .dat (.txt o [46])), (Str.ofString "dotdot", .dat (.txt o [46, 46])), (Str.ofString "initial_slashes", .dat (.txt o [47])), (Str.ofString "sep", .dat (.txt o [47]))]) ?_ ⟨rfl, by rw [← hacc]; rfl, rfl, rfl, rfl, rfl, trivial⟩
        refine Run.ite (b := decide (x = [] ∨ x = [46])) R (Tb.eq (Tb.or2 (Tb.not (Tb.value (Ev.name rfl rfl) (t_txt (a := x) (by omega)))) (fun _ => Tb.compare (Ev.name rfl rfl) (Ev.name rfl rfl) c_eqT)) (by cases x <;> simp)) (fun e => ?_) (fun e => ?_)
        · have e' := of_decide_eq_true e
          refine Run.cont fun s g => ?_
          exact hfin g ⟨by rw [normStep, if_pos e']; rfl, rfl, rfl, rfl, rfl, trivial⟩
        · have e' := of_decide_eq_false e
          refine Run.nil fun s g => then_run g ?_
          refine Run.ite (b := decide (x ≠ [46, 46] ∨ acc.getLast? = some [46, 46])) R (Tb.own (x := Str.ofString "new_comps") (a := aN) (ds := txts o acc) rfl (Tb.eq (Tb.or3 (Tb.compare (Ev.name rfl rfl) (Ev.name rfl rfl) c_neT) (fun _ => Tb.and2 (a := false) (b := false) (Tb.eq (Tb.not (Tb.value (Ev.name rfl rfl) (t_txt (a := [47]) (by simp)))) (by simp)) (fun e => by cases e))
            (fun _ _ => Tb.and2 (a := !acc.isEmpty) (b := decide (acc.getLastD [] = [46, 46])) (Tb.eq (Tb.value (Ev.name rfl rfl) (t_list (ds := txts o acc) (by simp [txts]; omega))) (by simp [txts])) (fun hne => Tb.compare (Ev.item (Ev.name rfl rfl) (Ev.unop Ev.int o_neg) (i_last (getLast_txts (x := acc.getLastD []) (by cases acc with | nil => simp at hne | cons y r => simp [List.getLast?_eq_some_getLast, List.getLastD])) (by simp [txts]; omega))) (Ev.name rfl rfl) c_eqT))) ?_)) (fun e2 => ?_) (fun e2 => ?_)
          · cases acc with
            | nil => simp
            | cons y r => rw [Bool.eq_iff_iff]; simp [List.getLast?_eq_some_getLast, List.getLastD]; exact or_congr Iff.rfl (decide_eq_true_iff)
          · have e3 := of_decide_eq_true e2
            have hns : normStep acc x = acc ++ [x] := by rw [normStep, if_neg e', if_pos e3]
            refine Run.append R rfl rfl (Ev.name rfl rfl) (OneOwn.hd ⟨rfl, trivial⟩) (by simp [txts]; omega) (Run.nil fun s g => then_nil (hfin g ⟨?_, rfl, rfl, rfl, rfl, trivial⟩))
            rw [hns]
            show some (B.own aN (txts o acc ++ [D.txt o x])) = _
            simp [txts]
          · have e3 := of_decide_eq_false e2
            have hns : normStep acc x = acc.dropLast := by rw [normStep, if_neg e', if_neg e3]
            refine Run.ite (b := !acc.isEmpty) R (Tb.own (x := Str.ofString "new_comps") (a := aN) (ds := txts o acc) rfl (Tb.eq (Tb.value (Ev.name rfl rfl) (t_list (ds := txts o acc) (by simp [txts]; omega))) (by simp [txts]))) (fun e4 => ?_) (fun e4 => ?_)
            · refine Run.pop rfl rfl (OneOwn.hd ⟨rfl, trivial⟩) (by cases acc <;> simp_all [txts]) (by simp [txts]; omega) (Run.nil fun s g => then_nil (then_nil (hfin g ⟨?_, rfl, rfl, rfl, rfl, trivial⟩)))
              rw [hns]
              show some (B.own aN (txts o acc).dropLast) = _
              simp [txts, List.map_dropLast]
            · refine Run.nil fun s g => then_nil (then_nil (hfin g ⟨?_, rfl, rfl, rfl, rfl, trivial⟩))
              have : acc = [] := by cases acc <;> simp_all
              rw [hns, this]
              rfl
      · have hlen : (txts o C).length = C.length := by simp [txts]
        refine Run.weak (ρ' := [(Str.ofString "new_comps", .own aN (txts o (C.foldl normStep []))), (Str.ofString "dot", .dat (.txt o [46])), (Str.ofString "initial_slashes", .dat (.txt o [47])), (Str.ofString "sep", .dat (.txt o [47]))]) ?_ ⟨by rw [hlen, List.take_length]; rfl, rfl, rfl, rfl, trivial⟩
        refine Run.freeze (X₁ := []) (X₂ := ownX (envF 16 pm code doc L a)) (ρ' := [(Str.ofString "dot", .dat (.txt o [46])), (Str.ofString "initial_slashes", .dat (.txt o [47])), (Str.ofString "sep", .dat (.txt o [47]))]) (x := Str.ofString "new_comps") (a := aN) rfl rfl haX ⟨rfl, rfl, rfl, trivial⟩ (fun y b es e => ?_) hsb ?_
        · exact absurd e (by rw [List.lookup_cons, List.lookup_cons, List.lookup_cons]; split; · simp
                             split; · simp
                             split <;> simp)
        · have hf1 := foldN_len C []
          have hf2 := foldN_sum C []
          simp at hf1 hf2
          refine Run.assign R (Ev.name rfl rfl) (.inl rfl) ?_
          refine Run.assign R (Ev.binop (Ev.name rfl rfl) (Ev.meth (Ev.name rfl rfl) (Evs.cons (Ev.name rfl rfl) Evs.nil) (m_join (ps := C.foldl normStep []) (by omega))) (o_addT (by have := joinL_length 47 (C.foldl normStep []); simp; omega))) (.inl rfl) ?_
          have hnorm : [47] ++ joinL 47 (C.foldl normStep []) = normS (47 :: c :: r) := by rw [normS, ← hC]; rfl
          rw [hnorm]
          have hnl : (normS (47 :: c :: r)).length ≤ 1000000 := by rw [← hnorm]; have := joinL_length 47 (C.foldl normStep []); simp; omega
          refine Run.ret R (Ev.or2 (b := true) (Ev.name rfl rfl) (by have := t_txt (prog := prog) (w := w) (k := 3) (o := o) hnl; rw [show (!(normS (47 :: c :: r)).isEmpty) = true from rfl] at this; exact this) (fun _ => rfl) (fun e => by cases e)) fun s v e r => gives_of e r
    refine Run.ite R (Tb.isb rfl rfl (Ev.name rfl rfl) rfl) (fun e => ?_) (fun e => ?_)
    · subst e
      refine Run.assign R (Ev.bytes rfl) (.inl rfl) (Run.assign R (Ev.bytes rfl) (.inl rfl) (Run.assign R (Ev.bytes rfl) (.inl rfl) (Run.nil fun s g => then_run g (go _ ⟨rfl, rfl, rfl, rfl, trivial⟩))))
    · subst e
      refine Run.assign R (Ev.str rfl) (.inl rfl) (Run.assign R (Ev.str rfl) (.inl rfl) (Run.assign R (Ev.str rfl) (.inl rfl) (Run.nil fun s g => then_run g (go _ ⟨rfl, rfl, rfl, rfl, trivial⟩))))
end
end Mine
end
section
open PySem PyProof.Rows PySem.SeqAt
set_option maxRecDepth 100000
set_option linter.unusedVariables false
set_option linter.unusedSimpArgs false
namespace Mine
/-- the names of a path -/
def keepC (c : List Nat) : Bool := decide (c ≠ [] ∧ c ≠ [46])
def compsOf (p : List Nat) : List (List Nat) := (splitL 47 p).filter keepC
def minL (X : List (List Nat)) (Xs : List (List (List Nat))) : List (List Nat) := Xs.foldl (fun b y => if ltLL y b then y else b) X
def maxL (X : List (List Nat)) (Xs : List (List (List Nat))) : List (List Nat) := Xs.foldl (fun b y => if ltLL b y then y else b) X
/-- how far two lists go together -/
def lcp : List (List Nat) → List (List Nat) → List (List Nat)
  | x :: xs, y :: ys => if x = y then x :: lcp xs ys else []
  | _, _ => []
def keepD : D → Bool
  | .txt _ c => keepC c
  | _ => false
def partsD (ps : List (List Nat)) (o : Bool) : List D := ps.map fun p => LT o (splitL 47 p)
theorem txts_get {o : Bool} {X : List (List Nat)} {i : Nat} {d : D} (h : (txts o X)[i]? = some d) : ∃ x, X[i]? = some x ∧ d = .txt o x := by
  unfold txts at h
  rw [List.getElem?_map] at h
  obtain ⟨x, h1, h2⟩ := Option.map_eq_some_iff.mp h
  exact ⟨x, h1, h2.symm⟩
theorem txts_map_id {o : Bool} {X : List (List Nat)} : (txts o X).map id = txts o X := by simp
/-- none of the list is of the frame's own -/
def AllDat : List (Str × B) → Prop
  | [] => True
  | (_, .dat _) :: r => AllDat r
  | (_, .own _ _) :: _ => False
theorem AllDat.get : ∀ {ρ : List (Str × B)}, AllDat ρ → ∀ (x : Str) (b : B), ρ.lookup x = some b → ∃ d, b = .dat d
  | [], _, x, b, h => by simp at h
  | (y, .dat d) :: r, hr, x, b, h => by
    rw [List.lookup_cons] at h
    cases e : x == y with
    | true => rw [e] at h; cases h; exact ⟨d, rfl⟩
    | false => rw [e] at h; exact AllDat.get (ρ := r) hr x b h
theorem ltLL_eq : ∀ X Y : List (List Nat), ltLL X Y = decide (X < Y)
  | _, [] => by simp [ltLL]
  | [], _ :: _ => by simp [ltLL]
  | x :: xs, y :: ys => by
    rw [ltLL, ltLL_eq xs ys]
    by_cases h : x = y
    · subst h
      have : ¬ x < x := List.lt_irrefl x
      simp [List.cons_lt_cons_iff, this]
    · simp [List.cons_lt_cons_iff, h]
theorem minL_mem (X : List (List Nat)) : ∀ Xs, minL X Xs = X ∨ minL X Xs ∈ Xs := by
  intro Xs
  induction Xs generalizing X with
  | nil => exact .inl rfl
  | cons y Xs ih =>
    unfold minL at *
    rw [List.foldl_cons]
    rcases ih (if ltLL y X then y else X) with h | h
    · rw [h]
      by_cases q : ltLL y X = true
      · rw [if_pos q]; exact .inr List.mem_cons_self
      · rw [if_neg q]; exact .inl rfl
    · exact .inr (List.mem_cons_of_mem _ h)
theorem maxL_mem (X : List (List Nat)) : ∀ Xs, maxL X Xs = X ∨ maxL X Xs ∈ Xs := by
  intro Xs
  induction Xs generalizing X with
  | nil => exact .inl rfl
  | cons y Xs ih =>
    unfold maxL at *
    rw [List.foldl_cons]
    rcases ih (if ltLL X y then y else X) with h | h
    · rw [h]
      by_cases q : ltLL X y = true
      · rw [if_pos q]; exact .inr List.mem_cons_self
      · rw [if_neg q]; exact .inl rfl
    · exact .inr (List.mem_cons_of_mem _ h)
theorem minL_le (X : List (List Nat)) : ∀ Xs Z, Z = X ∨ Z ∈ Xs → ¬ Z < minL X Xs := by
  intro Xs
  induction Xs generalizing X with
  | nil => intro Z h; rcases h with rfl | h; exact List.lt_irrefl _; cases h
  | cons y Xs ih =>
    intro Z h
    unfold minL at *
    rw [List.foldl_cons]
    have h0 := ih (if ltLL y X then y else X) (if ltLL y X then y else X) (.inl rfl)
    rw [ltLL_eq] at *
    by_cases q : y < X
    · rw [decide_eq_true q] at *
      simp only [if_true] at *
      rcases h with rfl | h
      · intro h1
        exact h0 (List.lt_trans q h1)
      · rcases List.mem_cons.mp h with rfl | h
        · exact h0
        · exact ih y Z (.inr h)
    · rw [decide_eq_false q] at *
      simp only [Bool.false_eq_true, if_false] at *
      rcases h with rfl | h
      · exact h0
      · rcases List.mem_cons.mp h with rfl | h
        · intro h1
          refine h0 ?_
          rcases Classical.em (X < Z) with h2 | h2
          · exact List.lt_trans h2 h1
          · have : X = Z := List.le_antisymm (List.not_lt.mp q) (List.not_lt.mp h2)
            subst this; exact h1
        · exact ih X Z (.inr h)
theorem max_min (X : List (List Nat)) (Xs : List (List (List Nat))) : ltLL (maxL X Xs) (minL X Xs) = false := by
  rw [ltLL_eq]
  exact decide_eq_false (minL_le X Xs _ (maxL_mem X Xs))
theorem lt_of_take : ∀ {m M : List (List Nat)} {i : Nat}, ltLL M m = false → m.take i = M.take i → i < m.length → i < M.length
  | [], _, _, _, _, h => by simp at h
  | x :: m, [], i, h, h1, h2 => by
    cases i with
    | zero => simp [ltLL] at h
    | succ i => simp at h1
  | x :: m, y :: M, 0, h, h1, h2 => by simp
  | x :: m, y :: M, i + 1, h, h1, h2 => by
    simp at h1
    obtain ⟨rfl, h1⟩ := h1
    rw [ltLL, if_pos rfl] at h
    have := lt_of_take h h1 (by simpa using h2)
    simpa using this
theorem lcp_at : ∀ {m M : List (List Nat)} {i : Nat} {x y : List Nat}, m.take i = M.take i → m[i]? = some x → M[i]? = some y → x ≠ y → lcp m M = m.take i
  | a :: m, b :: M, 0, x, y, _, hx, hy, hne => by
    simp at hx hy; subst hx hy
    rw [lcp, if_neg hne]; rfl
  | a :: m, b :: M, i + 1, x, y, h, hx, hy, hne => by
    simp at h hx hy
    obtain ⟨rfl, h⟩ := h
    rw [lcp, if_pos rfl, lcp_at h hx hy hne]; rfl
  | [], _, i, x, y, _, hx, _, _ => by simp at hx
  | _ :: _, [], i, x, y, _, _, hy, _ => by simp at hy
theorem lcp_all : ∀ {m M : List (List Nat)}, m = M.take m.length → lcp m M = m
  | [], M, _ => by cases M <;> rfl
  | x :: m, [], h => by simp at h
  | x :: m, y :: M, h => by
    simp at h
    obtain ⟨rfl, h⟩ := h
    rw [lcp, if_pos rfl, lcp_all h]
theorem txts_getL {o : Bool} {X : List (List Nat)} {i : Nat} {x : List Nat} (h : X[i]? = some x) : (txts o X)[i]? = some (.txt o x) := by
  unfold txts; rw [List.getElem?_map, h]; rfl
theorem lcp_len : ∀ (m M : List (List Nat)), (lcp m M).length ≤ m.length
  | [], M => by simp [lcp]
  | x :: m, [] => by simp [lcp]
  | x :: m, y :: M => by
    have := lcp_len m M
    rw [lcp]; split <;> simp <;> omega
theorem lcp_sum : ∀ (m M : List (List Nat)), ((lcp m M).map List.length).sum ≤ (m.map List.length).sum
  | [], M => by simp [lcp]
  | x :: m, [] => by simp [lcp]
  | x :: m, y :: M => by
    have := lcp_sum m M
    rw [lcp]; split <;> simp <;> omega
theorem filter_sum (p : List Nat → Bool) : ∀ (l : List (List Nat)), ((l.filter p).map List.length).sum ≤ (l.map List.length).sum
  | [] => by simp
  | x :: l => by
    have := filter_sum p l
    rw [List.filter_cons]; split <;> simp <;> omega
theorem minL_from (p0 : List Nat) (ps : List (List Nat)) : ∃ p ∈ p0 :: ps, minL (compsOf p0) (ps.map compsOf) = compsOf p := by
  rcases minL_mem (compsOf p0) (ps.map compsOf) with h | h
  · exact ⟨p0, List.mem_cons_self, h⟩
  · obtain ⟨p, hp, e⟩ := List.mem_map.mp h
    exact ⟨p, List.mem_cons_of_mem _ hp, e.symm⟩
theorem maxL_from (p0 : List Nat) (ps : List (List Nat)) : ∃ p ∈ p0 :: ps, maxL (compsOf p0) (ps.map compsOf) = compsOf p := by
  rcases maxL_mem (compsOf p0) (ps.map compsOf) with h | h
  · exact ⟨p0, List.mem_cons_self, h⟩
  · obtain ⟨p, hp, e⟩ := List.mem_map.mp h
    exact ⟨p, List.mem_cons_of_mem _ hp, e.symm⟩
section
variable {prog : Program} {w : World}
def cpI (o ab : Bool) (m M : List (List Nat)) (i : Nat) : List (Str × B) :=
  if m.take i = M.take i then [(Str.ofString "common", .dat (LT o m)), (Str.ofString "s1", .dat (LT o m)), (Str.ofString "s2", .dat (LT o M)), (Str.ofString "isabs", .dat (.bool ab)), (Str.ofString "sep", .dat (.txt o [47]))] else [(Str.ofString "tuple", .dat .none)]
theorem cpI_good {o ab : Bool} {m M : List (List Nat)} {i : Nat} (h : m.take i = M.take i) : cpI o ab m M i = [(Str.ofString "common", .dat (LT o m)), (Str.ofString "s1", .dat (LT o m)), (Str.ofString "s2", .dat (LT o M)), (Str.ofString "isabs", .dat (.bool ab)), (Str.ofString "sep", .dat (.txt o [47]))] := by
  unfold cpI; rw [if_pos h]
theorem cpI_bad {o ab : Bool} {m M : List (List Nat)} {i : Nat} (h : ¬ m.take i = M.take i) : cpI o ab m M i = [(Str.ofString "tuple", .dat .none)] := by
  unfold cpI; rw [if_neg h]
def tail17 : List Stmt := match (dfn 17).body.drop 3 with
  | (.Try b _ _ _ _) :: _ => b.drop 7
  | _ => []
/-- no name of the frame is bound that the text takes from the built-ins -/
theorem G.absurd {s₀ sb s : Shared} {Y X : List Addr} {env : Env} {ρ : List (Str × B)} {x : Str} {d : D} (g : G s₀ sb Y env X ρ s) (h : ρ.lookup x = some (.dat d)) (hx : env.kindOf x = some .globalImplicit) : False := by
  obtain ⟨v, bd, _⟩ := g.vars x _ h
  rcases bd with ⟨k, _⟩ | ⟨k | k, _⟩ <;> rw [hx] at k <;> cases k
theorem cp_tail {A : Around} {s₀ sb : Shared} {Y X : List Addr} {pm code doc : Value} {L a : Addr} {o ab : Bool} {Z : List (List Nat)} {Q : Flow → Shared → Prop} (R : Rm 10 A) (hz1 : Z.length ≤ 9001) (hz2 : (Z.map List.length).sum ≤ 9000)
    (hQ : ∀ s v, Ext [] s₀ s → Rep (X ++ Y) s.heap (.txt o ((if ab then [47] else []) ++ joinL 47 Z)) v → Q (.ret v) s) :
    Run prog w A s₀ sb Y (envF 17 pm code doc L a) X [(Str.ofString "common", .dat (LT o Z)), (Str.ofString "isabs", .dat (.bool ab)), (Str.ofString "sep", .dat (.txt o [47]))] tail17 Q := by
  conv in tail17 => whnf
  refine Run.assign (d := .txt o (if ab then [47] else [])) R (Ev.ifexp (b := ab) (Tb.value (Ev.name rfl rfl) t_bool) (fun e => ?_) (fun e => ?_)) (.inl rfl) ?_
  · subst e; exact Ev.name rfl rfl
  · subst e; exact Ev.cut (Ev.name rfl rfl) rfl ⟨0, rfl, Ev.int⟩ rfl (cut_txt none (some 0) (.inl (by simp)) (by simp))
  · refine Run.ret R (Ev.binop (Ev.name rfl rfl) (Ev.meth (Ev.name rfl rfl) (Evs.cons (Ev.name rfl rfl) Evs.nil) (m_join (ps := Z) (by omega))) (o_addT ?_)) hQ
    have := joinL_length 47 Z
    cases ab <;> simp <;> omega
set_option maxHeartbeats 1000000 in
theorem f_commonpath {o : Bool} {p0 : List Nat} {ps : List (List Nat)} {ab : Bool} (hab : ∀ p ∈ p0 :: ps, headIs 47 p = ab) (hn : (p0 :: ps).length ≤ 100) (hl : ∀ p ∈ p0 :: ps, p.length ≤ 9000) :
    Cl prog w 11 (dfn 17).name [.list (txts o (p0 :: ps))] (.txt o ((if ab then [47] else []) ++ joinL 47 (lcp (minL (compsOf p0) (ps.map compsOf)) (maxL (compsOf p0) (ps.map compsOf))))) := by
  refine Cl.of_run (k := 10) 17 (by decide) (xs := [Str.ofString "paths"]) rfl (fun pm code doc vs hv => ?_) (fun n x hx => ?_) (h := fun A s₀ Y pm code doc L a R => ?_)
  · obtain ⟨v, rfl⟩ := List.length_eq_one_iff.mp hv
    rfl
  · rw [List.mem_singleton.mp hx]; left; rfl
  · conv in (dfn 17).body => whnf
    refine Run.assign R (Ev.tupMap (k := 2) (g := id) 9 (by decide) rfl rfl rfl rfl (Ev.name rfl rfl) rfl (fun j di hdi => ?_) (by simp [txts] at hn ⊢; omega)) (.inl rfl) ?_
    · obtain ⟨x, _, rfl⟩ := txts_get hdi
      exact f_fspath (k := 0)
    rw [txts_map_id]
    refine Run.ite (b := false) R (Tb.eq (Tb.not (Tb.value (Ev.name rfl rfl) (t_tup (ds := txts o (p0 :: ps)) (by simp [txts] at hn ⊢; omega)))) (by simp [txts])) (fun e => by cases e) (fun _ => Run.nil fun s g => then_run g ?_)
    have go : ∀ ρ : List (Str × B), Sub ρ [(Str.ofString "paths", .dat (.tup (txts o (p0 :: ps)))), (Str.ofString "sep", .dat (.txt o [47])), (Str.ofString "curdir", .dat (.txt o [46]))] → Run prog w A s₀ s₀ Y (envF 17 pm code doc L a) (ownX (envF 17 pm code doc L a)) ρ ((dfn 17).body.drop 3) (Gives s₀ Y (.txt o ((if ab then [47] else []) ++ joinL 47 (lcp (minL (compsOf p0) (ps.map compsOf)) (maxL (compsOf p0) (ps.map compsOf)))))) := fun ρ hρ => by
      refine Run.weak ?_ hρ
      conv in List.drop 3 (dfn 17).body => whnf
      refine Run.try_ ?_
      refine Run.assignComp (outs := partsD (p0 :: ps) o) R ⟨rfl, rfl, by decide, fun _ => rfl, ?_⟩ (.inl rfl) ?_
      · refine ⟨_, _, (fun d => match d with | .txt o p => some (LT o (splitL 47 p)) | _ => none), (fun d ρ => (Str.ofString "path", .dat d) :: ρ), [(Str.ofString "sep", .dat (.txt o [47]))], Ev.name rfl rfl, rfl, by simp [txts] at hn ⊢; omega, ?_, ⟨rfl, trivial⟩, rfl, ?_, fun C i di h => CTgt.name rfl, .inl ⟨_, _, rfl⟩, fun C i di h => ?_, fun C i di y h hy => ?_⟩
        · unfold txts partsD
          rw [List.filterMap_map]
          exact List.filterMap_eq_map ▸ rfl
        · exact AllDat.get (by trivial)
        · obtain ⟨x, _, rfl⟩ := txts_get h
          rfl
        · obtain ⟨x, hx, rfl⟩ := txts_get h
          cases hy
          exact Ev.meth (Ev.name rfl rfl) (Evs.cons (Ev.name rfl rfl) Evs.nil) (m_split (by have := hl x (List.mem_of_getElem? hx); omega))
      refine Run.try_ ?_
      refine Run.setComp1 (bb := ab) (ρc := [(Str.ofString "sep", .dat (.txt o [47]))]) R rfl rfl (by decide) (fun _ => rfl) (Ev.name rfl rfl) rfl (by simp [txts]) ⟨rfl, trivial⟩ rfl (AllDat.get (by trivial)) (fun C => rfl) (fun C i di h => ?_) (.inl rfl) ?_ (fun _ => rfl)
      · obtain ⟨x, hx, rfl⟩ := txts_get h
        exact Ev.eq (Ev.meth (Ev.name rfl rfl) (Evs.cons (Ev.name rfl rfl) Evs.nil) m_startswith) (by rw [hab x (List.mem_of_getElem? hx)])
      refine Run.nil fun s g => then_nil (then_run g ?_)
      refine Run.assignComp (outs := (p0 :: ps).map fun p => LT o (compsOf p)) R ⟨rfl, rfl, by decide, fun _ => rfl, ?_⟩ (.inl rfl) ?_
      · refine ⟨_, _, (fun d => match d with | .list xs => some (.list (xs.filter keepD)) | _ => none), (fun d ρ => (Str.ofString "s", .dat d) :: ρ), [(Str.ofString "curdir", .dat (.txt o [46]))], Ev.name rfl rfl, rfl, by simp [partsD] at hn ⊢; omega, ?_, ⟨rfl, trivial⟩, rfl, AllDat.get (by trivial), fun C i di h => CTgt.name rfl, .inl ⟨_, _, rfl⟩, fun C i di h => ?_, fun C i di y h hy => ?_⟩
        · unfold partsD
          rw [List.filterMap_map]
          have e : ∀ p : List Nat, ((fun d => match d with | D.list xs => some (D.list (xs.filter keepD)) | _ => none) ∘ fun p => LT o (splitL 47 p)) p = some (LT o (compsOf p)) := fun p => by
            show some (D.list ((txts o (splitL 47 p)).filter keepD)) = _
            unfold LT txts compsOf
            rw [List.filter_map]
            rfl
          rw [show ((fun d => match d with | D.list xs => some (D.list (xs.filter keepD)) | _ => none) ∘ fun p => LT o (splitL 47 p)) = (some ∘ fun p => LT o (compsOf p)) from funext e, List.filterMap_eq_map]
        · unfold partsD at h
          rw [List.getElem?_map] at h
          obtain ⟨x, hx, rfl⟩ := Option.map_eq_some_iff.mp h
          rfl
        · unfold partsD at h
          rw [List.getElem?_map] at h
          obtain ⟨x, hx, rfl⟩ := Option.map_eq_some_iff.mp h
          cases hy
          have hxl := hl x (List.mem_of_getElem? hx)
          refine EvN.ev (CompOk.evn (pos := _) ⟨rfl, rfl, by decide, fun _ => rfl, ?_⟩)
          refine ⟨_, _, (fun d => if keepD d then some d else none), (fun d ρ => (Str.ofString "c", .dat d) :: ρ), [(Str.ofString "curdir", .dat (.txt o [46]))], Ev.name rfl rfl, rfl, ?_, ?_, ⟨rfl, trivial⟩, rfl, AllDat.get (by trivial), fun C i di h => CTgt.name rfl, .inl ⟨_, _, rfl⟩, fun C' i di h => ?_, fun C' i di y h hy => ?_⟩
          · have := splitL_length 47 x
            simp [txts]; omega
          · generalize txts o (splitL 47 x) = l
            induction l with
            | nil => rfl
            | cons d l ih =>
              rw [List.filterMap_cons, List.filter_cons]
              by_cases q : keepD d = true
              · simp [q, ih]
              · simp [q, ih]
          · obtain ⟨c, hc, rfl⟩ := txts_get h
            have hcl : c.length ≤ 1000000 := by
              have h1 := len_le_sum (List.mem_of_getElem? hc)
              have h2 := splitL_sum 47 x
              omega
            refine Tb.eq (Tb.and2 (Tb.value (Ev.name rfl rfl) (t_txt hcl)) (fun _ => Tb.compare (Ev.name rfl rfl) (Ev.name rfl rfl) c_neT)) ?_
            show _ = (if keepC c = true then some (D.txt o c) else none).isSome
            unfold keepC
            cases c with
            | nil => simp
            | cons y r =>
              by_cases q : y :: r = [46]
              · simp [q]
              · simp [q]
          · have e : di = y := by
              by_cases q : keepD di = true
              · simp only [q, if_true] at hy; exact Option.some.inj hy
              · simp only [q] at hy; cases hy
            subst e
            exact Ev.name rfl rfl
      have hmap : ((p0 :: ps).map fun p => LT o (compsOf p)) = ((compsOf p0 :: ps.map compsOf).map (LT o)) := by simp
      rw [hmap]
      refine Run.assign R (Ev.callb (f := .builtin "min") rfl rfl (fun h t => glbT "min" _ (by decide) t) (fun _ e => by cases e) (Evs.cons (Ev.name rfl rfl) Evs.nil) cl_min) (.inl rfl) ?_
      refine Run.assign R (Ev.callb (f := .builtin "max") rfl rfl (fun h t => glbT "max" _ (by decide) t) (fun _ e => by cases e) (Evs.cons (Ev.name rfl rfl) Evs.nil) cl_max) (.inl rfl) ?_
      have hmM : ltLL (maxL (compsOf p0) (ps.map compsOf)) (minL (compsOf p0) (ps.map compsOf)) = false := max_min _ _
      obtain ⟨pm', hpm, em⟩ := minL_from p0 ps
      obtain ⟨pM', hpM, eM⟩ := maxL_from p0 ps
      have hml : (minL (compsOf p0) (ps.map compsOf)).length ≤ 9001 := by
        rw [em]; unfold compsOf
        have h1 := List.length_filter_le keepC (splitL 47 pm')
        have h2 := splitL_length 47 pm'
        have h3 := hl pm' hpm
        omega
      have hms : ((minL (compsOf p0) (ps.map compsOf)).map List.length).sum ≤ 9000 := by
        rw [em]; unfold compsOf
        have h1 := filter_sum keepC (splitL 47 pm')
        have h2 := splitL_sum 47 pm'
        have h3 := hl pm' hpm
        omega
      have hMl : (maxL (compsOf p0) (ps.map compsOf)).length ≤ 9001 := by
        rw [eM]; unfold compsOf
        have h1 := List.length_filter_le keepC (splitL 47 pM')
        have h2 := splitL_length 47 pM'
        have h3 := hl pM' hpM
        omega
      refine Run.weak (ρ' := [(Str.ofString "s1", .dat (LT o (minL (compsOf p0) (ps.map compsOf)))), (Str.ofString "s2", .dat (LT o (maxL (compsOf p0) (ps.map compsOf)))), (Str.ofString "isabs", .dat (.bool ab)), (Str.ofString "sep", .dat (.txt o [47]))]) ?_ ⟨rfl, rfl, rfl, rfl, trivial⟩
      generalize minL (compsOf p0) (ps.map compsOf) = m at *
      generalize maxL (compsOf p0) (ps.map compsOf) = M at *
      refine Run.assign R (Ev.name rfl rfl) (.inl rfl) ?_
      have htl : ∀ {sb : Shared}, Run prog w A s₀ sb Y (envF 17 pm code doc L a) (ownX (envF 17 pm code doc L a)) [(Str.ofString "common", .dat (LT o (lcp m M))), (Str.ofString "isabs", .dat (.bool ab)), (Str.ofString "sep", .dat (.txt o [47]))] tail17 (Then prog w A (envF 17 pm code doc L a) [] (Then prog w A (envF 17 pm code doc L a) [] (Gives s₀ Y (.txt o ((if ab then [47] else []) ++ joinL 47 (lcp m M)))))) := fun {sb} =>
        cp_tail R (by have := lcp_len m M; omega) (by have := lcp_sum m M; omega) fun s v e r => gives_of e r
      refine Run.forEnum R rfl (Ev.name rfl rfl) rfl (cpI o ab m M) (fun i di ρ => [(Str.ofString "c", .dat di), (Str.ofString "i", .dat (.int i))] ++ ρ) (fun i di h => Tgt.tuple (xs := [(Str.ofString "i", _), (Str.ofString "c", _)]) (fun x hx => by simp at hx; rcases hx with rfl | rfl <;> exact .inl rfl) rfl rfl) ?_ ?_ ?_
      · rw [cpI_good (by simp)]
        exact ⟨rfl, rfl, rfl, rfl, rfl, trivial⟩
      · intro i di s1 Js hdi
        obtain ⟨x, hx, rfl⟩ := txts_get hdi
        by_cases hag : m.take i = M.take i
        · rw [cpI_good hag]
          have him : i < m.length := (List.getElem?_eq_some_iff.mp hx).1
          have hiM := lt_of_take hmM hag him
          have hy : M[i]? = some M[i] := List.getElem?_eq_getElem hiM
          refine Run.ite (b := !decide (x = M[i])) R (Tb.compare (Ev.name rfl rfl) (Ev.item (Ev.name rfl rfl) (Ev.name rfl rfl) (i_list (txts_getL hy) (by omega))) c_neT) (fun e => ?_) (fun e => ?_)
          · have hne : x ≠ M[i] := by simpa using e
            refine Run.assign R (Ev.cut (Ev.name rfl rfl) rfl ⟨i, rfl, Ev.name rfl rfl⟩ rfl (cut_to (ds := txts o m) i (by simp [txts]; omega))) (.inl rfl) ?_
            refine Run.brk fun s g => ⟨[(Str.ofString "common", .dat (LT o (lcp m M))), (Str.ofString "isabs", .dat (.bool ab)), (Str.ofString "sep", .dat (.txt o [47]))], g.weak ⟨?_, rfl, rfl, trivial⟩, htl⟩
            rw [lcp_at hag hx hy hne]
            show some (B.dat (.list ((txts o m).take i))) = _
            simp [LT, txts, List.map_take]
          · have hxe : x = M[i] := by simpa using e
            refine Run.nil fun s g => then_nil ?_
            show G _ _ _ _ _ (cpI o ab m M (i + 1)) _
            rw [cpI_good (by rw [List.take_add_one, List.take_add_one, hag, hx, hy, hxe])]
            exact g.weak ⟨rfl, rfl, rfl, rfl, rfl, trivial⟩
        · rw [cpI_bad hag]
          exact fun s g => (g.absurd (x := Str.ofString "tuple") (d := .none) rfl rfl).elim
      · have hml' : (txts o m).length = m.length := by simp [txts]
        rw [hml']
        by_cases hag : m.take m.length = M.take m.length
        · rw [cpI_good hag]
          rw [List.take_length] at hag
          have e := lcp_all hag
          refine Run.weak htl ⟨by rw [e]; rfl, rfl, rfl, trivial⟩
        · rw [cpI_bad hag]
          exact fun s g => (g.absurd (x := Str.ofString "tuple") (d := .none) rfl rfl).elim
    refine Run.ite R (Tb.isb rfl rfl (Ev.item (Ev.name rfl rfl) Ev.int (i_tup (i := 0) (d := .txt o p0) rfl (by omega))) rfl) (fun e => ?_) (fun e => ?_)
    · subst e
      refine Run.assign R (Ev.bytes rfl) (.inr ⟨rfl, _, rfl⟩) (Run.assign R (Ev.bytes rfl) (.inr ⟨rfl, _, rfl⟩) (Run.nil fun s g => then_run g (go _ ⟨rfl, rfl, rfl, trivial⟩)))
    · subst e
      refine Run.assign R (Ev.str rfl) (.inr ⟨rfl, _, rfl⟩) (Run.assign R (Ev.str rfl) (.inr ⟨rfl, _, rfl⟩) (Run.nil fun s g => then_run g (go _ ⟨rfl, rfl, rfl, trivial⟩)))
end
end Mine
end
section
open PySem PyProof.Rows PySem.SeqAt
set_option maxRecDepth 100000
set_option linter.unusedVariables false
set_option linter.unusedSimpArgs false
namespace Mine
section
variable {prog : Program} {w : World}
theorem f_as {o : Bool} {cs : List Nat} (hc : ∀ c ∈ cs, c < 256) (hl : cs.length ≤ 10000) : Cl prog w 2 (dfn 19).name [.txt false cs, .bool o] (.txt o cs) := by
  refine Cl.of_run (k := 1) 19 (by decide) (xs := [Str.ofString "text", Str.ofString "octets"]) rfl (fun pm code doc vs hv => ?_) (fun n x hx => ?_) (h := fun A s₀ Y pm code doc L a R => ?_)
  · match vs, hv with
    | [u, v], _ => rfl
  · simp at hx; rcases hx with rfl | rfl <;> (left; rfl)
  · conv in (dfn 19).body => whnf
    refine Run.ret R (Ev.ifexp (b := o) (Tb.value (Ev.name rfl rfl) t_bool) (fun e => ?_) (fun e => ?_)) fun s v e r => gives_of e r
    · subst e
      refine Ev.callb (f := .type "bytes") rfl rfl (fun h t => glbT "bytes" _ (by decide) t) (fun _ e => by cases e) (Evs.cons (EvN.ev (CompOk.evn (outs := cs.map fun (n : Nat) => D.int (n : Int)) ⟨rfl, rfl, by decide, fun _ => rfl, ?_⟩)) Evs.nil) (cl_bytes hc (by omega))
      refine ⟨_, _, (fun d => match d with | .txt _ [c] => some (.int (c : Int)) | _ => none), (fun d ρ => (Str.ofString "sign", .dat d) :: ρ), [], Ev.name rfl rfl, rfl, by simp; omega, ?_, trivial, rfl, AllDat.get (by trivial), fun C i di h => CTgt.name rfl, .inl ⟨_, _, rfl⟩, fun C i di h => ?_, fun C i di y h hy => ?_⟩
      · rw [List.filterMap_map]
        exact List.filterMap_eq_map ▸ rfl
      · rw [List.getElem?_map] at h
        obtain ⟨x, hx, rfl⟩ := Option.map_eq_some_iff.mp h
        rfl
      · rw [List.getElem?_map] at h
        obtain ⟨x, hx, rfl⟩ := Option.map_eq_some_iff.mp h
        cases hy
        exact Ev.callb (f := .builtin "ord") rfl rfl (fun h t => glbT "ord" _ (by decide) t) (fun _ e => by cases e) (Evs.cons (Ev.name rfl rfl) Evs.nil) cl_ord
    · subst e
      exact Ev.name rfl rfl

/-- a turn of _law_place -/
def placeStep (x : List (List Nat) × Nat) (piece : List Nat) : List (List Nat) × Nat :=
  if piece = [46, 46] then (x.1, x.2 + 1) else if piece = [] ∨ piece = [46] then x else if x.2 ≠ 0 then (x.1, x.2 - 1) else (piece :: x.1, x.2)
def placeN (pieces : List (List Nat)) : List (List Nat) := (pieces.reverse.foldl placeStep ([], 0)).1
theorem placeStep_len (x : List (List Nat) × Nat) (p : List Nat) : (placeStep x p).1.length ≤ x.1.length + 1 := by
  unfold placeStep
  split
  · simp
  · split
    · omega
    · split <;> simp
theorem placeF_len : ∀ (l : List (List Nat)) (x : List (List Nat) × Nat), (l.foldl placeStep x).1.length ≤ x.1.length + l.length
  | [], x => by simp
  | p :: l, x => by
    have := placeF_len l (placeStep x p)
    have := placeStep_len x p
    simp only [List.foldl_cons, List.length_cons]; omega
theorem f_place {pieces : List (List Nat)} (hl : pieces.length ≤ 1000) : Cl prog w 2 (dfn 21).name [.list (txts false pieces)] (.list (txts false (placeN pieces))) := by
  refine Cl.of_run (k := 1) 21 (by decide) (xs := [Str.ofString "pieces"]) rfl (fun pm code doc vs hv => ?_) (fun n x hx => ?_) (h := fun A s₀ Y pm code doc L a R => ?_)
  · obtain ⟨v, rfl⟩ := List.length_eq_one_iff.mp hv
    rfl
  · rw [List.mem_singleton.mp hx]; left; rfl
  · conv in (dfn 21).body => whnf
    refine Run.assign (d := .list []) R (Ev.list Evs.nil) (.inl rfl) ?_
    refine Run.assign R Ev.int (.inl rfl) ?_
    refine Run.for_ R (Ev.cut (Ev.name rfl rfl) rfl rfl ⟨-1, rfl, Ev.unop Ev.int o_neg⟩ (cut_rev (ds := txts false pieces) (by simp [txts]; omega))) (ds := txts false pieces.reverse) (by simp [itemsOf, txts]) (fun i => [(Str.ofString "names", .dat (.list (txts false ((pieces.reverse.take i).foldl placeStep ([], 0)).1))), (Str.ofString "debt", .dat (.int (((pieces.reverse.take i).foldl placeStep ([], 0)).2 : Nat)))]) _ (fun i di hdi => Tgt.name (.inl rfl)) ?_ ?_ ?_ (.inl ⟨_, _, rfl⟩)
    · exact ⟨rfl, rfl, trivial⟩
    · intro i di s1 J hdi
      obtain ⟨x, hx, rfl⟩ := txts_get hdi
      have hstep : (pieces.reverse.take (i + 1)).foldl placeStep ([], 0) = placeStep ((pieces.reverse.take i).foldl placeStep ([], 0)) x := by
        rw [List.take_add_one, hx, List.foldl_append]; rfl
      have hnl : ((pieces.reverse.take i).foldl placeStep ([], 0)).1.length ≤ 1000 := by
        have := placeF_len (pieces.reverse.take i) ([], 0)
        have h2 : (pieces.reverse.take i).length ≤ pieces.length := by rw [List.length_take]; simp; omega
        simp at this h2; omega
      generalize hst : (pieces.reverse.take i).foldl placeStep ([], 0) = st at hstep hnl
      obtain ⟨ns, db⟩ := st
      have hnl : ns.length ≤ 1000 := hnl
      have hfin : ∀ {ρ : List (Str × B)} {s : Shared}, G s₀ s1 (J :: Y) (envF 21 pm code doc L a) (ownX (envF 21 pm code doc L a)) ρ s → Sub ρ [(Str.ofString "names", .dat (.list (txts false (placeStep (ns, db) x).1))), (Str.ofString "debt", .dat (.int ((placeStep (ns, db) x).2 : Nat)))] →
          G s₀ s1 (J :: Y) (envF 21 pm code doc L a) (ownX (envF 21 pm code doc L a)) ((fun i => [(Str.ofString "names", B.dat (.list (txts false ((pieces.reverse.take i).foldl placeStep ([], 0)).1))), (Str.ofString "debt", .dat (.int (((pieces.reverse.take i).foldl placeStep ([], 0)).2 : Nat)))]) (i + 1)) s := fun g hs => by
        show G _ _ _ _ _ [(Str.ofString "names", B.dat (.list (txts false ((pieces.reverse.take (i + 1)).foldl placeStep ([], 0)).1))), (Str.ofString "debt", .dat (.int (((pieces.reverse.take (i + 1)).foldl placeStep ([], 0)).2 : Nat)))] _
        rw [hstep]
        exact g.weak hs
      refine Run.weak (ρ' := [(Str.ofString "piece", .dat (.txt false x)), (Str.ofString "names", .dat (.list (txts false ns))), (Str.ofString "debt", .dat (.int (db : Nat)))]) ?_ ⟨rfl, rfl, rfl, trivial⟩
      refine Run.ite (b := decide (x = [46, 46])) R (Tb.compare (Ev.name rfl rfl) (Ev.str rfl) c_eqT) (fun e => ?_) (fun e => ?_)
      · have e' := of_decide_eq_true e
        have hp : placeStep (ns, db) x = (ns, db + 1) := by rw [placeStep, if_pos e']
        refine Run.aug R rfl rfl Ev.int oi_add (.inl rfl) (Run.nil fun s g => then_nil (hfin g ⟨by rw [hp]; rfl, by rw [hp]; rfl, trivial⟩))
      · have e' := of_decide_eq_false e
        refine Run.ite (b := !decide (x = [] ∨ x = [46])) R (Tb.eq (Tb.compare (Ev.name rfl rfl) (Ev.tuple (ds := txts false [[], [46]]) (Evs.cons (Ev.str rfl) (Evs.cons (Ev.str rfl) Evs.nil)) rfl (by simp [txts])) c_notInT) (by
          congr 1
          by_cases h1 : x = []
          · subst h1; rfl
          · by_cases h2 : x = [46]
            · subst h2; rfl
            · simp [h1, h2])) (fun e2 => ?_) (fun e2 => ?_)
        · have e2' : ¬ (x = [] ∨ x = [46]) := fun q => by rw [decide_eq_true q] at e2; cases e2
          refine Run.ite (b := decide (db ≠ 0)) R (Tb.eq (Tb.value (Ev.name rfl rfl) t_int) (by cases db <;> simp <;> omega)) (fun e3 => ?_) (fun e3 => ?_)
          · have e3' := of_decide_eq_true e3
            have hp : placeStep (ns, db) x = (ns, db - 1) := by rw [placeStep, if_neg e', if_neg e2', if_pos e3']
            refine Run.aug R rfl rfl Ev.int oi_sub (.inl rfl) (Run.nil fun s g => then_nil (then_nil (then_nil (hfin g ⟨by rw [hp]; rfl, ?_, trivial⟩))))
            rw [hp]
            show some (B.dat (D.int ((db : Int) - 1))) = some (B.dat (D.int ((db - 1 : Nat) : Int)))
            rw [show ((db - 1 : Nat) : Int) = (db : Int) - 1 by omega]
          · have e3' := of_decide_eq_false e3
            have hp : placeStep (ns, db) x = (x :: ns, db) := by rw [placeStep, if_neg e', if_neg e2', if_neg e3']
            refine Run.assign R (Ev.binop (Ev.list (Evs.cons (Ev.name rfl rfl) Evs.nil)) (Ev.name rfl rfl) (o_addL (es := txts false ns) (by simp [txts]; omega))) (.inl rfl) (Run.nil fun s g => then_nil (then_nil (then_nil (hfin g ⟨by rw [hp]; rfl, by rw [hp]; rfl, trivial⟩))))
        · have e2' : x = [] ∨ x = [46] := Decidable.byContradiction fun q => by rw [decide_eq_false q] at e2; cases e2
          have hp : placeStep (ns, db) x = (ns, db) := by rw [placeStep, if_neg e', if_pos e2']
          exact Run.nil fun s g => then_nil (then_nil (hfin g ⟨by rw [hp]; rfl, by rw [hp]; rfl, trivial⟩))
    · have hlen : (txts false pieces.reverse).length = pieces.reverse.length := by simp [txts]
      rw [hlen, List.take_length]
      exact Run.ret R (Ev.name rfl rfl) fun s v e r => gives_of e r
end
end Mine
end
section
open PySem PyProof.Rows PySem.SeqAt
set_option maxRecDepth 100000
set_option linter.unusedVariables false
set_option linter.unusedSimpArgs false
namespace Mine

/-- the piece that a figure tells -/
def menu : List (List Nat) := [[97], [98], [97], [46, 46], [97, 98], [46], []]
def pieceOf (pick n : Nat) : List Nat := if pick = 7 then (if n % 256 = 46 ∨ n % 256 = 47 then [120] else [n % 256]) else menu.getD pick []
def piecesN : Nat → Nat → List (List Nat)
  | 0, _ => []
  | k + 1, n => if n = 0 then [] else pieceOf (n % 8) (n / 8) :: piecesN k (n / 8)
theorem piecesN_len : ∀ k n, (piecesN k n).length ≤ k
  | 0, _ => by simp [piecesN]
  | k + 1, n => by
    have := piecesN_len k (n / 8)
    unfold piecesN; split <;> simp <;> omega
theorem piecesN_lt : ∀ k n i, i < (piecesN k n).length → n / 8 ^ i ≠ 0 ∧ i < k ∧ (piecesN k n)[i]? = some (pieceOf (n / 8 ^ i % 8) (n / 8 ^ (i + 1)))
  | 0, n, i, h => by simp [piecesN] at h
  | k + 1, n, i, h => by
    unfold piecesN at h ⊢
    by_cases hn : n = 0
    · rw [if_pos hn] at h; simp at h
    · rw [if_neg hn] at h ⊢
      cases i with
      | zero => simp; exact hn
      | succ i =>
        have := piecesN_lt k (n / 8) i (by simpa using h)
        rw [Nat.div_div_eq_div_mul, Nat.div_div_eq_div_mul, ← Nat.pow_succ', ← Nat.pow_succ'] at this
        refine ⟨this.1, by omega, ?_⟩
        simpa using this.2.2
theorem piecesN_end : ∀ k n, (piecesN k n).length < k → n / 8 ^ (piecesN k n).length = 0
  | 0, n, h => by simp at h
  | k + 1, n, h => by
    unfold piecesN at h ⊢
    by_cases hn : n = 0
    · rw [if_pos hn] at h ⊢; simp [hn]
    · rw [if_neg hn] at h ⊢
      have := piecesN_end k (n / 8) (by simpa using h)
      rw [Nat.div_div_eq_div_mul, ← Nat.pow_succ'] at this
      simpa using this
section
variable {prog : Program} {w : World}
theorem f_pieces {n : Nat} (hn : n < 65536) : Cl prog w 2 (dfn 20).name [.int n] (.list (txts false (piecesN 5 n))) := by
  refine Cl.of_run (k := 1) 20 (by decide) (xs := [Str.ofString "number"]) rfl (fun pm code doc vs hv => ?_) (fun n x hx => ?_) (h := fun A s₀ Y pm code doc L a R => ?_)
  · obtain ⟨v, rfl⟩ := List.length_eq_one_iff.mp hv
    rfl
  · rw [List.mem_singleton.mp hx]; left; rfl
  · conv in (dfn 20).body => whnf
    refine Run.newList (.inl rfl) fun aN haX hsb => ?_
    generalize hP : piecesN 5 n = P
    have hPl : P.length ≤ 5 := hP ▸ piecesN_len 5 n
    refine Run.while_ R (fun i => [(Str.ofString "pieces", .own aN (txts false (P.take i))), (Str.ofString "number", .dat (.int (n / 8 ^ i : Nat)))]) P.length ⟨rfl, by simp; rfl, trivial⟩ (fun i hi => ?_) (fun i s1 hi => ?_) ?_
    · refine Tb.own (x := Str.ofString "pieces") (a := aN) (ds := txts false (P.take i)) rfl (Tb.eq (Tb.and2 (Tb.value (Ev.name rfl rfl) t_int) (fun _ => Tb.compare (Ev.len (n := i) rfl (Ev.name rfl rfl) (Cl.eqd (cl_len_list (ds := txts false (P.take i)) (by simp [txts]; omega)) (by simp [txts]; omega)) rfl) Ev.int c_lt)) ?_)
      rcases Nat.lt_or_eq_of_le hi with h | h
      · obtain ⟨h1, h2, _⟩ := piecesN_lt 5 n i (hP ▸ h)
        rw [decide_eq_true h, decide_eq_true (show (i : Int) < 5 by omega)]
        simp only [Bool.and_true, bne_iff_ne, ne_eq]
        exact fun e => h1 (Int.ofNat_eq_zero.mp e)
      · rw [decide_eq_false (p := i < P.length) (by omega)]
        by_cases h5 : P.length < 5
        · have := piecesN_end 5 n (hP ▸ h5)
          rw [hP, ← h] at this
          rw [this]; rfl
        · rw [decide_eq_false (show ¬ (i : Int) < 5 by omega), Bool.and_false]
    · obtain ⟨h1, h2, h3⟩ := piecesN_lt 5 n i (hP ▸ hi)
      rw [hP] at h3
      have hq8 : n / 8 ^ (i + 1) = n / 8 ^ i / 8 := by rw [Nat.pow_succ, Nat.div_div_eq_div_mul]
      have hql : n / 8 ^ i < 65536 := Nat.lt_of_le_of_lt (Nat.div_le_self _ _) hn
      rw [hq8] at h3
      have htk : txts false (P.take (i + 1)) = txts false (P.take i) ++ [D.txt false (pieceOf (n / 8 ^ i % 8) (n / 8 ^ i / 8))] := by
        rw [List.take_add_one, h3]; simp [txts]
      have hfin : ∀ {ρ : List (Str × B)} {s : Shared}, G s₀ s1 Y (envF 20 pm code doc L a) (aN :: ownX (envF 20 pm code doc L a)) ρ s → Sub ρ [(Str.ofString "pieces", .own aN (txts false (P.take i) ++ [D.txt false (pieceOf (n / 8 ^ i % 8) (n / 8 ^ i / 8))])), (Str.ofString "number", .dat (.int (n / 8 ^ i / 8 : Nat)))] →
          G s₀ s1 Y (envF 20 pm code doc L a) (aN :: ownX (envF 20 pm code doc L a)) ((fun i => [(Str.ofString "pieces", B.own aN (txts false (P.take i))), (Str.ofString "number", .dat (.int (n / 8 ^ i : Nat)))]) (i + 1)) s := fun g hs => by
        show G _ _ _ _ _ [(Str.ofString "pieces", B.own aN (txts false (P.take (i + 1)))), (Str.ofString "number", .dat (.int (n / 8 ^ (i + 1) : Nat)))] _
        rw [htk, hq8]
        exact g.weak hs
      have hsz : (txts false (P.take i)).length ≤ 10000 := by simp [txts]; omega
      generalize n / 8 ^ i = q at *
      generalize txts false (P.take i) = T at *
      refine Run.assign R (Ev.eq (d' := .int (q % 8 : Nat)) (Ev.binop (Ev.name rfl rfl) Ev.int (o_mod (by omega))) (by congr 1)) (.inl rfl) ?_
      refine Run.aug (d := .int (q / 8 : Nat)) R rfl rfl Ev.int (by have := oi_div (prog := prog) (w := w) (k := 1) (a := (q : Int)) (b := 8) (by omega) (by omega) (by omega); exact this) (.inl rfl) ?_
      refine Run.ite (b := decide (q % 8 = 7)) R (Tb.eq (Tb.compare (Ev.name rfl rfl) Ev.int c_eq) (by
        by_cases h : q % 8 = 7
        · rw [h]; rfl
        · rw [decide_eq_false h]; exact beq_eq_false_iff_ne.mpr (by omega))) (fun e => ?_) (fun e => ?_)
      · have e' := of_decide_eq_true e
        have hp : pieceOf (q % 8) (q / 8) = if q / 8 % 256 = 46 ∨ q / 8 % 256 = 47 then [120] else [q / 8 % 256] := by rw [pieceOf, if_pos e']
        refine Run.assign (d := .txt false [q / 8 % 256]) R (Ev.eq (Ev.callb (f := .builtin "chr") rfl rfl (fun h t => glbT "chr" _ (by decide) t) (fun _ e => by cases e) (Evs.cons (Ev.binop (Ev.name rfl rfl) Ev.int (o_mod (by omega))) Evs.nil) (cl_chr (by omega) (by omega))) (by congr 2)) (.inl rfl) ?_
        refine Run.append (d := .txt false (pieceOf (q % 8) (q / 8))) R rfl rfl (Ev.ifexp (b := q / 8 % 256 == 46 || q / 8 % 256 == 47) (Tb.compare (Ev.name rfl rfl) (Ev.str rfl) c_inDots) (fun h => ?_) (fun h => ?_)) (OneOwn.hd ⟨rfl, trivial⟩) hsz (Run.nil fun s g => then_nil (hfin g ⟨rfl, rfl, trivial⟩))
        · rw [hp, if_pos (by simpa using h)]; exact Ev.str rfl
        · rw [hp, if_neg (by simpa using h)]; exact Ev.name rfl rfl
      · have e' := of_decide_eq_false e
        have hp : menu[q % 8]? = some (pieceOf (q % 8) (q / 8)) := by
          have h8 : q % 8 < 8 := Nat.mod_lt _ (by omega)
          have h7 : q % 8 < menu.length := by show q % 8 < 7; omega
          rw [pieceOf, if_neg e', List.getD_eq_getElem?_getD, List.getElem?_eq_getElem h7]; rfl
        refine Run.append R rfl rfl (Ev.item (Ev.list (ds := txts false menu) (Evs.cons (Ev.str rfl) (Evs.cons (Ev.str rfl) (Evs.cons (Ev.str rfl) (Evs.cons (Ev.str rfl) (Evs.cons (Ev.str rfl) (Evs.cons (Ev.str rfl) (Evs.cons (Ev.str rfl) Evs.nil))))))) rfl (by simp [txts, menu])) (Ev.name rfl rfl) (i_list (txts_getL hp) (by omega))) (OneOwn.hd ⟨rfl, trivial⟩) hsz (Run.nil fun s g => then_nil (hfin g ⟨rfl, rfl, trivial⟩))
    · refine Run.weak (ρ' := [(Str.ofString "pieces", .own aN (txts false P))]) ?_ ⟨by rw [List.take_length]; rfl, trivial⟩
      refine Run.freeze (X₁ := []) (X₂ := ownX (envF 20 pm code doc L a)) (ρ' := []) (x := Str.ofString "pieces") (a := aN) rfl rfl haX trivial (fun y b es e => by simp at e) hsb ?_
      exact Run.ret R (Ev.name rfl rfl) fun s v e r => gives_of e r

theorem lcp_take : ∀ (m M : List (List Nat)), m.take (lcp m M).length = lcp m M ∧ M.take (lcp m M).length = lcp m M
  | [], M => by simp [lcp]
  | x :: m, [] => by simp [lcp]
  | x :: m, y :: M => by
    obtain ⟨h1, h2⟩ := lcp_take m M
    rw [lcp]
    by_cases h : x = y
    · subst h; simp [h1, h2]
    · simp [h]
theorem lcp_comm : ∀ (m M : List (List Nat)), lcp m M = lcp M m
  | [], M => by cases M <;> simp [lcp]
  | x :: m, [] => by simp [lcp]
  | x :: m, y :: M => by
    rw [lcp, lcp, lcp_comm m M]
    by_cases h : x = y
    · subst h; simp
    · rw [if_neg h, if_neg (Ne.symm h)]
theorem shared_lt : ∀ {m M : List (List Nat)} {i : Nat}, i < (lcp m M).length → i < m.length ∧ i < M.length ∧ m[i]? = M[i]?
  | [], M, i, h => by simp [lcp] at h
  | x :: m, [], i, h => by simp [lcp] at h
  | x :: m, y :: M, i, h => by
    rw [lcp] at h
    by_cases e : x = y
    · subst e
      rw [if_pos rfl] at h
      cases i with
      | zero => simp
      | succ i =>
        have := shared_lt (m := m) (M := M) (i := i) (by simpa using h)
        simpa using this
    · rw [if_neg e] at h; simp at h
theorem shared_end : ∀ (m M : List (List Nat)), (lcp m M).length < m.length → (lcp m M).length < M.length → m[(lcp m M).length]? ≠ M[(lcp m M).length]?
  | [], M, h, _ => by simp at h
  | x :: m, [], _, h => by simp at h
  | x :: m, y :: M, h1, h2 => by
    rw [lcp] at h1 h2 ⊢
    by_cases e : x = y
    · subst e
      rw [if_pos rfl] at h1 h2 ⊢
      have := shared_end m M (by simpa using h1) (by simpa using h2)
      simpa using this
    · rw [if_neg e]; simpa using e
theorem f_shared {s g : List (List Nat)} (hs : s.length ≤ 1000) (hg : g.length ≤ 1000) : Cl prog w 2 (dfn 22).name [.list (txts false s), .list (txts false g)] (.int (lcp s g).length) := by
  refine Cl.of_run (k := 1) 22 (by decide) (xs := [Str.ofString "start", Str.ofString "goal"]) rfl (fun pm code doc vs hv => ?_) (fun n x hx => ?_) (h := fun A s₀ Y pm code doc L a R => ?_)
  · match vs, hv with
    | [u, v], _ => rfl
  · simp at hx; rcases hx with rfl | rfl <;> (left; rfl)
  · conv in (dfn 22).body => whnf
    refine Run.assign R Ev.int (.inl rfl) ?_
    have hll : (lcp s g).length ≤ 1000 := by have := lcp_len s g; omega
    refine Run.while_ R (fun i => [(Str.ofString "k", .dat (.int i)), (Str.ofString "start", .dat (.list (txts false s))), (Str.ofString "goal", .dat (.list (txts false g)))]) (lcp s g).length ⟨rfl, rfl, rfl, trivial⟩ (fun i hi => ?_) (fun i s1 hi => ?_) ?_
    · refine Tb.eq (Tb.and3 (a := decide (i < s.length)) (b := decide (i < g.length)) (c := decide (s[i]? = g[i]?)) ?_ (fun _ => ?_) (fun h1 h2 => ?_)) ?_
      · exact Tb.eq (Tb.compare (Ev.name rfl rfl) (Ev.len (n := s.length) rfl (Ev.name rfl rfl) (Cl.eqd (cl_len_list (ds := txts false s) (by simp [txts]; omega)) (by simp [txts])) rfl) c_lt) (by rw [Bool.eq_iff_iff]; simp)
      · exact Tb.eq (Tb.compare (Ev.name rfl rfl) (Ev.len (n := g.length) rfl (Ev.name rfl rfl) (Cl.eqd (cl_len_list (ds := txts false g) (by simp [txts]; omega)) (by simp [txts])) rfl) c_lt) (by rw [Bool.eq_iff_iff]; simp)
      · have h1' := of_decide_eq_true h1
        have h2' := of_decide_eq_true h2
        have e1 : s[i]? = some s[i] := List.getElem?_eq_getElem h1'
        have e2 : g[i]? = some g[i] := List.getElem?_eq_getElem h2'
        exact Tb.eq (Tb.compare (Ev.item (Ev.name rfl rfl) (Ev.name rfl rfl) (i_list (txts_getL e1) (by omega))) (Ev.item (Ev.name rfl rfl) (Ev.name rfl rfl) (i_list (txts_getL e2) (by omega))) c_eqT) (by rw [e1, e2, Bool.eq_iff_iff]; simp)
      · rcases Nat.lt_or_eq_of_le hi with h | h
        · obtain ⟨h1, h2, h3⟩ := shared_lt h
          rw [decide_eq_true h1, decide_eq_true h2, decide_eq_true h3, decide_eq_true h]; rfl
        · rw [decide_eq_false (p := i < (lcp s g).length) (by omega)]
          by_cases h1 : i < s.length
          · by_cases h2 : i < g.length
            · have := shared_end s g (h ▸ h1) (h ▸ h2)
              rw [← h] at this
              rw [decide_eq_false this, Bool.and_false]
            · rw [decide_eq_false h2, Bool.and_false, Bool.false_and]
          · rw [decide_eq_false h1, Bool.false_and, Bool.false_and]
    · exact Run.aug (d := .int ((i + 1 : Nat) : Int)) R rfl rfl Ev.int (by have := oi_add (prog := prog) (w := w) (k := 1) (a := (i : Int)) (b := 1); exact this) (.inl rfl) (Run.nil fun s g => g.weak ⟨rfl, rfl, rfl, trivial⟩)
    · exact Run.ret R (Ev.name rfl rfl) fun s v e r => gives_of e r
/-- the way by names -/
def stepsN (s g : List (List Nat)) : List (List Nat) := List.replicate (s.length - (lcp s g).length) [46, 46] ++ g.drop (lcp s g).length
theorem f_steps {s g : List (List Nat)} (hs : s.length ≤ 1000) (hg : g.length ≤ 1000) : Cl prog w 3 (dfn 23).name [.list (txts false s), .list (txts false g)] (.list (txts false (stepsN s g))) := by
  refine Cl.of_run (k := 2) 23 (by decide) (xs := [Str.ofString "start", Str.ofString "goal"]) rfl (fun pm code doc vs hv => ?_) (fun n x hx => ?_) (h := fun A s₀ Y pm code doc L a R => ?_)
  · match vs, hv with
    | [u, v], _ => rfl
  · simp at hx; rcases hx with rfl | rfl <;> (left; rfl)
  · conv in (dfn 23).body => whnf
    have hll := lcp_len s g
    refine Run.assign R (Ev.callf 22 (by decide) rfl rfl (Evs.cons (Ev.name rfl rfl) (Evs.cons (Ev.name rfl rfl) Evs.nil)) (f_shared hs hg)) (.inl rfl) ?_
    refine Run.ret R (Ev.eq (Ev.binop (Ev.binop (Ev.list (ds := [.txt false [46, 46]]) (Evs.cons (Ev.str rfl) Evs.nil)) (Ev.binop (Ev.len (n := s.length) rfl (Ev.name rfl rfl) (Cl.eqd (cl_len_list (ds := txts false s) (by simp [txts]; omega)) (by simp [txts])) rfl) (Ev.name rfl rfl) o_sub) (o_mulL (by omega) (by omega))) (Ev.cut (Ev.name rfl rfl) ⟨(lcp s g).length, rfl, Ev.name rfl rfl⟩ rfl rfl (cut_from (ds := txts false g) (lcp s g).length (by simp [txts]; omega))) (o_addL (by simp [txts]; omega))) ?_) fun s v e r => gives_of e r
    congr 1
    unfold stepsN txts
    rw [List.map_append, List.map_replicate, List.map_drop]
    congr 2
    omega
end
end Mine
end
section
open PySem PyProof.Rows PySem.SeqAt
set_option maxRecDepth 100000
set_option linter.unusedVariables false
set_option linter.unusedSimpArgs false
namespace Mine
theorem size_up (a b : Nat) : (Builtin.Range.rangeSize a b 1).toNat = b - a := by
  unfold Builtin.Range.rangeSize
  rw [if_pos (by omega)]
  split
  · rw [Int.ediv_one]; omega
  · omega
theorem size_down (a b : Nat) : (Builtin.Range.rangeSize a b (-1)).toNat = a - b := by
  unfold Builtin.Range.rangeSize
  rw [if_neg (by omega)]
  split
  · rw [show (-(-1) : Int) = 1 by omega, Int.ediv_one]; omega
  · omega
theorem fitsL {i : Int} (h : -1000000 ≤ i) (h2 : i ≤ 1000000) : Builtin.Range.rangeFitsLong i = true := by
  unfold Builtin.Range.rangeFitsLong
  rw [Bool.and_eq_true, decide_eq_true_eq, decide_eq_true_eq]
  omega
theorem nn_up (a b : Nat) : 0 ≤ Builtin.Range.rangeSize a b 1 ∧ Builtin.Range.rangeSize a b 1 ≤ b := by
  unfold Builtin.Range.rangeSize
  rw [if_pos (by omega)]
  split
  · rw [Int.ediv_one]; omega
  · omega
theorem nn_down (a b : Nat) : 0 ≤ Builtin.Range.rangeSize a b (-1) ∧ Builtin.Range.rangeSize a b (-1) ≤ a := by
  unfold Builtin.Range.rangeSize
  rw [if_neg (by omega)]
  split
  · rw [show (-(-1) : Int) = 1 by omega, Int.ediv_one]; omega
  · omega
theorem items_up {a b : Nat} (ha : a ≤ 100000) (hb : b ≤ 100000) : itemsOf (.range a b 1) = some ((List.range (b - a)).map fun i => .int ((a + i : Nat))) := by
  have hsm : Builtin.Range.small a b 1 = true := by
    have := nn_up a b
    unfold Builtin.Range.small
    rw [if_pos (by omega), fitsL (by omega) (by omega), fitsL (by omega) (by omega), fitsL (by omega) (by omega), fitsL (by omega) (by omega), fitsL (by omega) (by omega)]
    simp
  simp only [itemsOf, hsm, if_true, size_up]
  refine congrArg some (List.map_congr_left fun i hi => congrArg D.int ?_)
  omega
theorem items_down {a b : Nat} (ha : a ≤ 100000) (hb : b ≤ 100000) : itemsOf (.range a b (-1)) = some ((List.range (a - b)).map fun i => .int ((a - i : Nat))) := by
  have hsm : Builtin.Range.small a b (-1) = true := by
    have := nn_down a b
    unfold Builtin.Range.small
    rw [if_neg (by omega), fitsL (by omega) (by omega), fitsL (by omega) (by omega), fitsL (by omega) (by omega), fitsL (by omega) (by omega), fitsL (by omega) (by omega)]
    simp
  simp only [itemsOf, hsm, if_true, size_down]
  refine congrArg some (List.map_congr_left fun i hi => congrArg D.int ?_)
  have : i < a - b := List.mem_range.mp hi
  omega

/-- the way by places -/
def routeN (s g : List (List Nat)) : List (List (List Nat)) :=
  ((List.range (s.length - (lcp s g).length)).map fun i => s.take (s.length - i)) ++ (List.range (g.length + 1 - (lcp s g).length)).map fun i => g.take ((lcp s g).length + i)
theorem LT_take {o : Bool} {X : List (List Nat)} {n : Nat} : D.list ((txts o X).take n) = LT o (X.take n) := by simp [LT, txts, List.map_take]
section
variable {prog : Program} {w : World}
/-- [v[:j] for j in ..] -/
theorem cuts_ok {k : Nat} {env : Env} {ρ : List (Str × B)} {v j : Str} {p1 p2 p3 p4 p5 : Pos} {iter : Expr} {scope : Scope} {V : List (List Nat)} {d : D} {n : Nat} {f : Nat → Nat} (hk : scope.kind = .function) (hf : freeOk env scope = true) (hn : ∀ x ∈ scope.names, x.2 = .local → scope.names.lookup x.1 = some .local)
    (hfold : ∀ x, foldedSetIterable iter env x = pure x) (hi : Ev prog w k env ρ iter d) (hd : itemsOf d = some ((List.range n).map fun i => .int ((f i : Nat) : Int))) (hl : n ≤ 10000) (hv : ρ.lookup v = some (.dat (LT false V))) (hV : V.length ≤ 100000)
    (hc : scope.names.lookup v = some .free) (hj : ∀ C, (compEnvC scope (capsOf env scope.names []) C env).kindOf j = some .local) (hvj : v ≠ j) (hpv : plainName v = true) (hpj : plainName j = true) :
    CompOk prog w k env ρ (.Subscript (.Name v p1) (.Slice none (some (.Name j p2)) none p3) p4) (.Name j p5) iter [] scope (((List.range n).map fun i => V.take (f i)).map (LT false)) := by
  refine ⟨hk, hf, hn, hfold, d, _, (fun d => match d with | .int m => some (LT false (V.take m.toNat)) | _ => none), (fun d ρ => (j, .dat d) :: ρ), [(v, .dat (LT false V))], hi, hd, by simpa using hl, ?_, ⟨hv, trivial⟩, by simp [capOk, hc], AllDat.get (by trivial), fun C i di h => CTgt.name (hj C), .inl ⟨_, _, rfl⟩, fun C i di h => ?_, fun C i di y h hy => ?_⟩
  · rw [List.filterMap_map, List.map_map]
    rw [show ((fun d => match d with | D.int m => some (LT false (V.take m.toNat)) | _ => none) ∘ fun i => D.int ((f i : Nat) : Int)) = (some ∘ (LT false ∘ fun i => V.take (f i))) from rfl, List.filterMap_eq_map]
  · rw [List.getElem?_map] at h
    obtain ⟨x, hx, rfl⟩ := Option.map_eq_some_iff.mp h
    rfl
  · rw [List.getElem?_map] at h
    obtain ⟨x, hx, rfl⟩ := Option.map_eq_some_iff.mp h
    cases hy
    refine Ev.eq (Ev.cut (Ev.name (d := LT false V) ?_ hpv) rfl ⟨(f x : Nat), rfl, Ev.name (d := .int ((f x : Nat) : Int)) ?_ hpj⟩ rfl (cut_to (ds := txts false V) (f x) (by simp [txts]; omega))) LT_take
    · rw [lookup_ne hvj]; simp [List.lookup_cons]
    · rw [lookup_self]
theorem f_route {s g : List (List Nat)} (hs : s.length ≤ 1000) (hg : g.length ≤ 1000) : Cl prog w 3 (dfn 24).name [.list (txts false s), .list (txts false g)] (.list ((routeN s g).map (LT false))) := by
  refine Cl.of_run (k := 2) 24 (by decide) (xs := [Str.ofString "start", Str.ofString "goal"]) rfl (fun pm code doc vs hv => ?_) (fun n x hx => ?_) (h := fun A s₀ Y pm code doc L a R => ?_)
  · match vs, hv with
    | [u, v], _ => rfl
  · simp at hx; rcases hx with rfl | rfl <;> (right; exact ⟨rfl, rfl⟩)
  · conv in (dfn 24).body => whnf
    have hll := lcp_len s g
    refine Run.assign R (Ev.callf 22 (by decide) rfl rfl (Evs.cons (Ev.name rfl rfl) (Evs.cons (Ev.name rfl rfl) Evs.nil)) (f_shared hs hg)) (.inl rfl) ?_
    refine Run.assignComp R (cuts_ok (V := s) rfl rfl (by decide) (fun _ => rfl) (Ev.callb (f := .type "range") rfl rfl (fun h t => glbT "range" _ (by decide) t) (fun _ e => by cases e) (Evs.cons (Ev.len (n := s.length) rfl (Ev.name rfl rfl) (Cl.eqd (cl_len_list (ds := txts false s) (by simp [txts]; omega)) (by simp [txts])) rfl) (Evs.cons (Ev.name rfl rfl) (Evs.cons (Ev.unop Ev.int o_neg) Evs.nil))) (cl_rangeDown (by omega) (by omega)))
      (items_down (by omega) (by omega)) (by omega) rfl (by omega) rfl (fun C => rfl) (by decide) rfl rfl) (.inl rfl) ?_
    refine Run.ret R (Ev.eq (Ev.binop (Ev.name rfl rfl) (EvN.ev (CompOk.evn (cuts_ok (V := g) rfl rfl (by decide) (fun _ => rfl) (Ev.callb (f := .type "range") rfl rfl (fun h t => glbT "range" _ (by decide) t) (fun _ e => by cases e) (Evs.cons (Ev.name rfl rfl) (Evs.cons (Ev.eq (d' := .int (g.length + 1 : Nat)) (Ev.binop (Ev.len (n := g.length) rfl (Ev.name rfl rfl) (Cl.eqd (cl_len_list (ds := txts false g) (by simp [txts]; omega)) (by simp [txts])) rfl) Ev.int o_add) rfl) Evs.nil)) cl_range2)
      (items_up (by omega) (by omega)) (by omega) rfl (by omega) rfl (fun C => rfl) (by decide) rfl rfl))) (o_addL (by simp; omega))) ?_) fun s v e r => gives_of e r
    rw [← List.map_append]; rfl
end
end Mine
end
section
open PySem PyProof.Rows PySem.SeqAt
set_option maxRecDepth 100000
set_option linter.unusedVariables false
set_option linter.unusedSimpArgs false
namespace Mine
def preM : List (List Nat) := [[], [46, 47], [46, 47, 47]]
def postM : List (List Nat) := [[47], [47, 47]]
def spellStep (x : List Nat × Nat) (step : List Nat) : List Nat × Nat := (x.1 ++ (preM.getD (x.2 % 3) [] ++ step ++ postM.getD (x.2 % 2) []), x.2 / 6)
def spelledN (steps : List (List Nat)) (crook : Nat) : List Nat := if (steps.foldl spellStep ([], crook)).1.isEmpty then [46] else (steps.foldl spellStep ([], crook)).1
theorem pre_len (n : Nat) : (preM.getD n []).length ≤ 3 := by
  match n with
  | 0 => simp [preM]
  | 1 => simp [preM]
  | 2 => simp [preM]
  | n + 3 => simp [preM]
theorem post_len (n : Nat) : (postM.getD n []).length ≤ 2 := by
  match n with
  | 0 => simp [postM]
  | 1 => simp [postM]
  | n + 2 => simp [postM]
theorem spell_len : ∀ (l : List (List Nat)) (x : List Nat × Nat), (l.foldl spellStep x).1.length ≤ x.1.length + (l.map List.length).sum + 5 * l.length
  | [], x => by simp
  | s :: l, x => by
    have h1 := spell_len l (spellStep x s)
    have h2 := pre_len (x.2 % 3)
    have h3 := post_len (x.2 % 2)
    have h4 : (spellStep x s).1.length ≤ x.1.length + s.length + 5 := by
      simp only [spellStep, List.length_append]; omega
    simp only [List.foldl_cons, List.map_cons, List.sum_cons, List.length_cons]; omega
theorem spell_crook : ∀ (l : List (List Nat)) (x : List Nat × Nat), (l.foldl spellStep x).2 ≤ x.2
  | [], x => by simp
  | s :: l, x => by
    have h1 := spell_crook l (spellStep x s)
    have h2 : (spellStep x s).2 ≤ x.2 := Nat.div_le_self _ _
    simp only [List.foldl_cons]; omega
theorem sum_take_le : ∀ (l : List (List Nat)) (i : Nat), ((l.take i).map List.length).sum ≤ (l.map List.length).sum
  | [], i => by simp
  | x :: l, 0 => by simp
  | x :: l, i + 1 => by have := sum_take_le l i; simp only [List.take_succ_cons, List.map_cons, List.sum_cons]; omega
section
variable {prog : Program} {w : World}
theorem f_spelled {steps : List (List Nat)} {crook : Nat} (hs : (steps.map List.length).sum + 5 * steps.length ≤ 9000) (hc : crook < 1000000) : Cl prog w 2 (dfn 25).name [.list (txts false steps), .int crook] (.txt false (spelledN steps crook)) := by
  refine Cl.of_run (k := 1) 25 (by decide) (xs := [Str.ofString "steps", Str.ofString "crook"]) rfl (fun pm code doc vs hv => ?_) (fun n x hx => ?_) (h := fun A s₀ Y pm code doc L a R => ?_)
  · match vs, hv with
    | [u, v], _ => rfl
  · simp at hx; rcases hx with rfl | rfl <;> (left; rfl)
  · conv in (dfn 25).body => whnf
    refine Run.assign R (Ev.str rfl) (.inl rfl) ?_
    refine Run.for_ R (Ev.name rfl rfl) (ds := txts false steps) rfl (fun i => [(Str.ofString "text", .dat (.txt false ((steps.take i).foldl spellStep ([], crook)).1)), (Str.ofString "crook", .dat (.int (((steps.take i).foldl spellStep ([], crook)).2 : Nat)))]) _ (fun i di hdi => Tgt.name (.inl rfl)) ?_ ?_ ?_ (.inl ⟨_, _, rfl⟩)
    · exact ⟨rfl, rfl, trivial⟩
    · intro i di s1 J hdi
      obtain ⟨x, hx, rfl⟩ := txts_get hdi
      have hstep : (steps.take (i + 1)).foldl spellStep ([], crook) = spellStep ((steps.take i).foldl spellStep ([], crook)) x := by
        rw [List.take_add_one, hx, List.foldl_append]; rfl
      have hxl := len_le_sum (List.mem_of_getElem? hx)
      have hcl : ((steps.take i).foldl spellStep ([], crook)).2 < 1000000 := Nat.lt_of_le_of_lt (spell_crook _ _) hc
      have htl : ((steps.take i).foldl spellStep ([], crook)).1.length ≤ 9000 := by
        have h1 := spell_len (steps.take i) ([], crook)
        have h2 := sum_take_le steps i
        have h3 : (steps.take i).length ≤ steps.length := by rw [List.length_take]; omega
        simp only [List.length_nil] at h1
        omega
      generalize hst : (steps.take i).foldl spellStep ([], crook) = st at hstep hcl htl
      obtain ⟨tx, cr⟩ := st
      have htl : tx.length ≤ 9000 := htl
      have hcl : cr < 1000000 := hcl
      have e1 : preM[cr % 3]? = some (preM.getD (cr % 3) []) := by
        have h7 : cr % 3 < preM.length := Nat.mod_lt _ (by decide)
        rw [List.getD_eq_getElem?_getD, List.getElem?_eq_getElem h7]; rfl
      have e2 : postM[cr % 2]? = some (postM.getD (cr % 2) []) := by
        have h7 : cr % 2 < postM.length := Nat.mod_lt _ (by decide)
        rw [List.getD_eq_getElem?_getD, List.getElem?_eq_getElem h7]; rfl
      have h2 := pre_len (cr % 3)
      have h3 := post_len (cr % 2)
      refine Run.weak (ρ' := [(Str.ofString "step", .dat (.txt false x)), (Str.ofString "text", .dat (.txt false tx)), (Str.ofString "crook", .dat (.int (cr : Nat)))]) ?_ ⟨rfl, rfl, rfl, trivial⟩
      refine Run.aug R rfl rfl (Ev.binop (Ev.binop (Ev.item (Ev.list (ds := txts false preM) (Evs.cons (Ev.str rfl) (Evs.cons (Ev.str rfl) (Evs.cons (Ev.str rfl) Evs.nil))) rfl (by simp [txts, preM])) (Ev.eq (d' := .int (cr % 3 : Nat)) (Ev.binop (Ev.name rfl rfl) Ev.int (o_mod (by omega))) rfl) (i_list (txts_getL e1) (by omega))) (Ev.name rfl rfl) (o_addT (by omega)))
        (Ev.item (Ev.list (ds := txts false postM) (Evs.cons (Ev.str rfl) (Evs.cons (Ev.str rfl) Evs.nil)) rfl (by simp [txts, postM])) (Ev.eq (d' := .int (cr % 2 : Nat)) (Ev.binop (Ev.name rfl rfl) Ev.int (o_mod (by omega))) rfl) (i_list (txts_getL e2) (by omega))) (o_addT (by simp only [List.length_append]; omega))) (oi_addT (by simp only [List.length_append]; omega)) (.inl rfl) ?_
      refine Run.aug (d := .int (cr / 6 : Nat)) R rfl rfl Ev.int (by have := oi_div (prog := prog) (w := w) (k := 1) (a := (cr : Int)) (b := 6) (by omega) (by omega) (by omega); exact this) (.inl rfl) (Run.nil fun s g => ?_)
      show G _ _ _ _ _ [(Str.ofString "text", B.dat (.txt false ((steps.take (i + 1)).foldl spellStep ([], crook)).1)), (Str.ofString "crook", .dat (.int (((steps.take (i + 1)).foldl spellStep ([], crook)).2 : Nat)))] _
      rw [hstep]
      exact g.weak ⟨rfl, rfl, trivial⟩
    · have hlen : (txts false steps).length = steps.length := by simp [txts]
      have h1 := spell_len steps ([], crook)
      simp only [List.length_nil] at h1
      rw [hlen, List.take_length]
      refine Run.ret R (Ev.or2 (Ev.name rfl rfl) (t_txt (by omega)) (fun e => ?_) (fun e => ?_)) fun s v e r => gives_of e r
      · unfold spelledN; rw [if_neg (by simpa using e)]
      · unfold spelledN; rw [if_pos (by simpa using e)]; exact Ev.str rfl
end
end Mine
end
section
open PySem PyProof.Rows PySem.SeqAt
set_option maxRecDepth 100000
set_option linter.unusedVariables false
set_option linter.unusedSimpArgs false
namespace Mine
def dec1 : D → List Nat
  | .txt _ c => c
  | _ => []
def dec2 : D → List (List Nat)
  | .list ds => ds.map dec1
  | _ => []
def dec3 : D → List (List (List Nat))
  | .list ds => ds.map dec2
  | _ => []
/-- a list of lists of texts -/
abbrev LLT (o : Bool) (r : List (List (List Nat))) : D := .list (r.map (LT o))
theorem dec2_LT (o : Bool) (X : List (List Nat)) : dec2 (LT o X) = X := by
  show (txts o X).map dec1 = X
  unfold txts
  rw [List.map_map]
  exact List.map_id' X
theorem dec3_LLT (o : Bool) (r : List (List (List Nat))) : dec3 (LLT o r) = r := by
  show (r.map (LT o)).map dec2 = r
  rw [List.map_map]
  conv => rhs; rw [← List.map_id r]
  exact List.map_congr_left fun X _ => dec2_LT o X
/-- a route parts from the first behind n places -/
def parts (r0 : List (List (List Nat))) (n : Nat) (r : List (List (List Nat))) : Bool := decide (r.length ≤ n) || !decide (r.take (n + 1) = r0.take (n + 1))
theorem LLT_take {o : Bool} {r : List (List (List Nat))} {n : Nat} : D.list ((r.map (LT o)).take n) = LLT o (r.take n) := by simp [LLT, List.map_take]
theorem c_neLL {prog : Program} {w : World} {k : Nat} {o : Bool} {X Y : List (List (List Nat))} : Cmp prog w k .NotEq (LLT o X) (LLT o Y) (!decide (X = Y)) := c_neL (f := fun X : List (List Nat) => D.list (X.map fun x => D.txt o x)) (Eqs.list Eqs.txt) (by omega)
theorem c_eqLL {prog : Program} {w : World} {k : Nat} {o : Bool} {X Y : List (List (List Nat))} : Cmp prog w k .Eq (LLT o X) (LLT o Y) (decide (X = Y)) := c_eqL (f := fun X : List (List Nat) => D.list (X.map fun x => D.txt o x)) (Eqs.list Eqs.txt) (by omega)
section
variable {prog : Program} {w : World}
theorem f_together {r0 : List (List (List Nat))} {rs : List (List (List (List Nat)))} {t : Nat} (h1 : ∀ i, i < t → ∀ r ∈ r0 :: rs, parts r0 (i + 1) r = false) (h2 : ∃ r ∈ r0 :: rs, parts r0 (t + 1) r = true) (hn : (r0 :: rs).length ≤ 100) (hr : ∀ r ∈ r0 :: rs, r.length ≤ 1000) (ht : t ≤ 1000) :
    Cl prog w 3 (dfn 26).name [.list ((r0 :: rs).map (LLT false))] (.int (t + 1 : Nat)) := by
  refine Cl.of_run (k := 2) 26 (by decide) (xs := [Str.ofString "routes"]) rfl (fun pm code doc vs hv => ?_) (fun n x hx => ?_) (h := fun A s₀ Y pm code doc L a R => ?_)
  · obtain ⟨v, rfl⟩ := List.length_eq_one_iff.mp hv
    rfl
  · rw [List.mem_singleton.mp hx]; right; exact ⟨rfl, rfl⟩
  · conv in (dfn 26).body => whnf
    refine Run.assign R Ev.int (.inr ⟨rfl, _, rfl⟩) ?_
    refine Run.while_ R (fun i => [(Str.ofString "n", .dat (.int (i + 1 : Nat))), (Str.ofString "routes", .dat (.list ((r0 :: rs).map (LLT false))))]) t ⟨rfl, rfl, trivial⟩ (fun i hi => ?_) (fun i s1 hi => ?_) ?_
    · refine Tb.eq (Tb.compare (EvN.ev (CompOk.evn (outs := ((r0 :: rs).filter (parts r0 (i + 1))).map (LLT false)) ⟨rfl, rfl, by decide, fun _ => rfl, ?_⟩)) (Ev.list Evs.nil) c_eqNil) ?_
      · refine ⟨_, _, (fun d => if parts r0 (i + 1) (dec3 d) then some d else none), (fun d ρ => (Str.ofString "route", .dat d) :: ρ), [(Str.ofString "n", .dat (.int (i + 1 : Nat))), (Str.ofString "routes", .dat (.list ((r0 :: rs).map (LLT false))))], Ev.name rfl rfl, rfl, by simp at hn ⊢; omega, ?_, ⟨rfl, rfl, trivial⟩, rfl, AllDat.get (by trivial), fun C i di h => CTgt.name rfl, .inl ⟨_, _, rfl⟩, fun C j di h => ?_, fun C j di y h hy => ?_⟩
        · generalize r0 :: rs = l
          induction l with
          | nil => rfl
          | cons r l ih =>
            rw [List.map_cons, List.filterMap_cons, dec3_LLT, List.filter_cons]
            by_cases q : parts r0 (i + 1) r = true
            · simp [q, ih]
            · simp [q, ih]
        · rw [List.getElem?_map] at h
          obtain ⟨r, hx, rfl⟩ := Option.map_eq_some_iff.mp h
          have hrl := hr r (List.mem_of_getElem? hx)
          have hr0 := hr r0 List.mem_cons_self
          refine Tb.eq (Tb.or2 (Tb.compare (Ev.len (n := r.length) rfl (Ev.name rfl rfl) (Cl.eqd (cl_len_list (ds := r.map (LT false)) (by simp; omega)) (by simp)) rfl) (Ev.name rfl rfl) c_le) (fun _ => Tb.compare (Ev.eq (Ev.cut (Ev.name rfl rfl) rfl ⟨(i + 1 + 1 : Nat), rfl, Ev.eq (Ev.binop (Ev.name rfl rfl) Ev.int o_add) rfl⟩ rfl (cut_to (ds := r.map (LT false)) (i + 1 + 1) (by simp; omega))) LLT_take)
            (Ev.eq (Ev.cut (Ev.item (Ev.name rfl rfl) Ev.int (i_list (i := 0) (d := LLT false r0) rfl (by omega))) rfl ⟨(i + 1 + 1 : Nat), rfl, Ev.eq (Ev.binop (Ev.name rfl rfl) Ev.int o_add) rfl⟩ rfl (cut_to (ds := r0.map (LT false)) (i + 1 + 1) (by simp; omega))) LLT_take) c_neLL)) ?_
          dsimp only
          rw [dec3_LLT]
          unfold parts
          have e1 : decide ((r.length : Int) ≤ ((i + 1 : Nat) : Int)) = decide (r.length ≤ i + 1) := by rw [Bool.eq_iff_iff]; simp; omega
          rw [e1]
          cases hp : (decide (r.length ≤ i + 1) || !decide (r.take (i + 1 + 1) = r0.take (i + 1 + 1))) <;> simp
        · have e : di = y := by
            by_cases q : parts r0 (i + 1) (dec3 di) = true
            · simp only [q, if_true] at hy; exact Option.some.inj hy
            · simp only [q] at hy; cases hy
          subst e
          exact Ev.name rfl rfl
      · rcases Nat.lt_or_eq_of_le hi with h | h
        · rw [decide_eq_true h]
          have : (r0 :: rs).filter (parts r0 (i + 1)) = [] := List.filter_eq_nil_iff.mpr fun r hr => by rw [h1 i h r hr]; simp
          rw [this]; rfl
        · rw [decide_eq_false (p := i < t) (by omega)]
          obtain ⟨r, hr, hp⟩ := h2
          have : r ∈ (r0 :: rs).filter (parts r0 (i + 1)) := List.mem_filter.mpr ⟨hr, by rw [h]; exact hp⟩
          cases hl : (r0 :: rs).filter (parts r0 (i + 1)) with
          | nil => rw [hl] at this; cases this
          | cons _ _ => rfl
    · exact Run.aug (d := .int ((i + 1 + 1 : Nat) : Int)) R rfl rfl Ev.int (by have := oi_add (prog := prog) (w := w) (k := 2) (a := ((i + 1 : Nat) : Int)) (b := 1); exact this) (.inr ⟨rfl, _, rfl⟩) (Run.nil fun s g => g.weak ⟨rfl, rfl, trivial⟩)
    · exact Run.ret R (Ev.name rfl rfl) fun s v e r => gives_of e r
end
end Mine
end
section
set_option maxRecDepth 100000
set_option linter.unusedVariables false
set_option linter.unusedSimpArgs false
namespace Mine
/-- a piece of a path -/
def OkX (x : List Nat) : Prop := 47 ∉ x ∧ x.length ≤ 2 ∧ ∀ c ∈ x, c < 256
/-- a name -/
def OkN (x : List Nat) : Prop := OkX x ∧ x ≠ [] ∧ x ≠ [46] ∧ x ≠ [46, 46]
def normN (pieces : List (List Nat)) : List (List Nat) := pieces.foldl normStep []
theorem normStep_ok {acc : List (List Nat)} {x : List Nat} (ha : ∀ y ∈ acc, OkN y) (hx : OkX x) : ∀ y ∈ normStep acc x, OkN y := by
  unfold normStep
  intro y hy
  split at hy
  · exact ha y hy
  · rename_i h1
    split at hy
    · rename_i h2
      rcases List.mem_append.mp hy with hy | hy
      · exact ha y hy
      · rw [List.mem_singleton.mp hy]
        refine ⟨hx, fun e => h1 (.inl e), fun e => h1 (.inr e), ?_⟩
        rcases h2 with h2 | h2
        · exact h2
        · exact absurd rfl (ha _ (List.mem_of_getLast? h2)).2.2.2
    · exact ha y (List.dropLast_subset _ hy)
theorem fold_ok : ∀ {l acc : List (List Nat)}, (∀ y ∈ acc, OkN y) → (∀ x ∈ l, OkX x) → ∀ y ∈ l.foldl normStep acc, OkN y
  | [], acc, ha, _ => ha
  | x :: l, acc, ha, hl => fold_ok (l := l) (normStep_ok ha (hl x List.mem_cons_self)) fun y hy => hl y (List.mem_cons_of_mem _ hy)
theorem normN_ok {l : List (List Nat)} (h : ∀ x ∈ l, OkX x) : ∀ y ∈ normN l, OkN y := fold_ok (by simp) h
theorem last_ok {acc : List (List Nat)} (ha : ∀ y ∈ acc, OkN y) : acc.getLast? ≠ some [46, 46] := fun h => (ha _ (List.mem_of_getLast? h)).2.2.2 rfl
theorem step_dd {acc : List (List Nat)} (ha : ∀ y ∈ acc, OkN y) : normStep acc [46, 46] = acc.dropLast := by
  unfold normStep
  rw [if_neg (by simp), if_neg (by simp [last_ok ha])]
theorem step_name {acc : List (List Nat)} {x : List Nat} (hx : OkN x) : normStep acc x = acc ++ [x] := by
  unfold normStep
  rw [if_neg (by simp [hx.2.1, hx.2.2.1]), if_pos (.inl hx.2.2.2)]
theorem step_skip {acc : List (List Nat)} {x : List Nat} (hx : x = [] ∨ x = [46]) : normStep acc x = acc := by
  unfold normStep
  rw [if_pos hx]
/-- the law's reckoning of a place from the right is normpath's from the left -/
theorem place_gen : ∀ (l : List (List Nat)), (∀ x ∈ l, OkX x) → ∀ (ns : List (List Nat)) (db : Nat), (l.foldl placeStep (ns, db)).1 = (normN l.reverse).take ((normN l.reverse).length - db) ++ ns
  | [], _, ns, db => by simp [normN]
  | x :: l, h, ns, db => by
    have hl : ∀ y ∈ l, OkX y := fun y hy => h y (List.mem_cons_of_mem _ hy)
    have ih := place_gen l hl
    have hN : normN (x :: l).reverse = normStep (normN l.reverse) x := by
      unfold normN; rw [List.reverse_cons, List.foldl_append]; rfl
    have hok : ∀ y ∈ normN l.reverse, OkN y := normN_ok fun y hy => hl y (List.mem_reverse.mp hy)
    rw [List.foldl_cons, hN]
    by_cases h1 : x = [46, 46]
    · subst h1
      have e : placeStep (ns, db) [46, 46] = (ns, db + 1) := by rw [placeStep, if_pos rfl]
      rw [e, ih, step_dd hok, List.length_dropLast, List.dropLast_eq_take, List.take_take]
      congr 2
      omega
    · by_cases h2 : x = [] ∨ x = [46]
      · have e : placeStep (ns, db) x = (ns, db) := by rw [placeStep, if_neg h1, if_pos h2]
        rw [e, ih, step_skip h2]
      · have hx : OkN x := ⟨h x List.mem_cons_self, fun q => h2 (.inl q), fun q => h2 (.inr q), h1⟩
        rw [step_name hx]
        by_cases h3 : db ≠ 0
        · have e : placeStep (ns, db) x = (ns, db - 1) := by rw [placeStep, if_neg h1, if_neg h2, if_pos h3]
          rw [e, ih, List.length_append, List.take_append_of_le_length (by simp; omega)]
          congr 2
          simp; omega
        · have e : placeStep (ns, db) x = (x :: ns, db) := by rw [placeStep, if_neg h1, if_neg h2, if_neg h3]
          have h0 : db = 0 := by omega
          subst h0
          rw [e, ih, Nat.sub_zero, Nat.sub_zero, List.take_length, List.take_length]
          simp
theorem placeN_eq {l : List (List Nat)} (h : ∀ x ∈ l, OkX x) : placeN l = normN l := by
  unfold placeN
  rw [place_gen l.reverse (fun x hx => h x (List.mem_reverse.mp hx))]
  simp
/-- a text read on, piece by piece -/
def readOn (acc : List (List Nat)) (t : List Nat) : List (List Nat) := (splitL 47 t).foldl normStep acc
theorem splitL_cat (c : Nat) : ∀ a b, splitL c (a ++ c :: b) = splitL c a ++ splitL c b
  | [], b => by simp [splitL]
  | x :: a, b => by
    have ih := splitL_cat c a b
    rw [List.cons_append, splitL, splitL]
    by_cases h : x = c
    · rw [if_pos h, if_pos h, ih]; rfl
    · rw [if_neg h, if_neg h, ih]
      cases q : splitL c a with
      | nil => exact absurd q (splitL_ne _ _)
      | cons p ps => rfl
theorem read_cat (acc : List (List Nat)) (a b : List Nat) : readOn acc (a ++ 47 :: b) = readOn (readOn acc a) b := by
  unfold readOn; rw [splitL_cat, List.foldl_append]
theorem read_nil (acc : List (List Nat)) : readOn acc [] = acc := by
  unfold readOn; simp [splitL]; exact step_skip (.inl rfl)
theorem read_join (acc : List (List Nat)) {a b : List Nat} (ha : a ≠ []) : readOn acc (joinT a b) = readOn (readOn acc a) b := by
  unfold joinT
  by_cases h : lastIs 47 a = true
  · rw [if_pos h]
    have : a.getLast? = some 47 := by simpa [lastIs] using h
    obtain ⟨l, rfl⟩ := List.getLast?_eq_some_iff.mp this
    rw [List.append_assoc]
    show readOn acc (l ++ 47 :: b) = readOn (readOn acc (l ++ 47 :: [])) b
    rw [read_cat, read_cat, read_nil]
  · rw [if_neg h, read_cat]
theorem read_pieces (acc : List (List Nat)) {l : List (List Nat)} (h : ∀ x ∈ l, 47 ∉ x) : readOn acc (joinL 47 l) = l.foldl normStep acc := by
  cases l with
  | nil => exact read_nil acc
  | cons x l => unfold readOn; rw [splitL_joinL 47 (x :: l) (by simp) h]
/-- a path as the law builds it -/
def crookedN (pieces : List (List Nat)) : List Nat := [47, 46, 47] ++ joinL 47 pieces
theorem norm_crooked {l : List (List Nat)} (h : ∀ x ∈ l, OkX x) : normS (crookedN l) = 47 :: joinL 47 (normN l) := by
  show 47 :: joinL 47 (readOn [] (46 :: 47 :: joinL 47 l)) = _
  have e : (46 :: 47 :: joinL 47 l : List Nat) = [46] ++ 47 :: joinL 47 l := rfl
  rw [e, read_cat, read_pieces _ fun x hx => (h x hx).1]
  have e2 : readOn [] [46] = [] := by unfold readOn; simp [splitL]; exact step_skip (.inr rfl)
  rw [e2]; rfl
theorem norm_join {l T : List (List Nat)} (h : ∀ x ∈ l, OkX x) (hT : ∀ x ∈ T, 47 ∉ x) : normS (joinT (crookedN l) (joinL 47 T)) = 47 :: joinL 47 (T.foldl normStep (normN l)) := by
  have e0 : (joinT (crookedN l) (joinL 47 T)).drop 1 = joinT (46 :: 47 :: joinL 47 l) (joinL 47 T) := by
    unfold joinT crookedN
    have : lastIs 47 ([47, 46, 47] ++ joinL 47 l) = lastIs 47 (46 :: 47 :: joinL 47 l) := by
      simp [lastIs, List.getLast?_cons_cons]
    rw [this]
    split <;> rfl
  show 47 :: joinL 47 (readOn [] ((joinT (crookedN l) (joinL 47 T)).drop 1)) = _
  rw [e0, read_join _ (by simp), read_pieces _ hT]
  have e : (46 :: 47 :: joinL 47 l : List Nat) = [46] ++ 47 :: joinL 47 l := rfl
  have e2 : readOn [] [46] = [] := by unfold readOn; simp [splitL]; exact step_skip (.inr rfl)
  rw [e, read_cat, e2, read_pieces _ fun x hx => (h x hx).1]
  rfl
end Mine
end
section
set_option maxRecDepth 100000
set_option linter.unusedVariables false
set_option linter.unusedSimpArgs false
namespace Mine
theorem comps_cat (a b : List Nat) : compsOf (a ++ 47 :: b) = compsOf a ++ compsOf b := by
  unfold compsOf; rw [splitL_cat, List.filter_append]
theorem comps_nil : compsOf [] = [] := by simp [compsOf, splitL, keepC]
theorem comps_dot : compsOf [46] = [] := by simp [compsOf, splitL, keepC]
theorem comps_one {x : List Nat} (h : 47 ∉ x) (h1 : x ≠ []) (h2 : x ≠ [46]) : compsOf x = [x] := by
  unfold compsOf
  rw [splitL_self 47 x h]
  simp [keepC, h1, h2]
theorem comps_slash (b : List Nat) : compsOf (47 :: b) = compsOf b := by
  have := comps_cat [] b
  rw [comps_nil] at this
  exact this
/-- a step -/
def OkS (x : List Nat) : Prop := OkX x ∧ x ≠ [] ∧ x ≠ [46]
def spellR : List (List Nat) → Nat → List Nat
  | [], _ => []
  | s :: r, c => (preM.getD (c % 3) [] ++ s ++ postM.getD (c % 2) []) ++ spellR r (c / 6)
theorem spell_fold : ∀ (S : List (List Nat)) (t : List Nat) (c : Nat), (S.foldl spellStep (t, c)).1 = t ++ spellR S c
  | [], t, c => by simp [spellR]
  | s :: S, t, c => by
    rw [List.foldl_cons]
    show (S.foldl spellStep (t ++ (preM.getD (c % 3) [] ++ s ++ postM.getD (c % 2) []), c / 6)).1 = _
    rw [spell_fold S, spellR, List.append_assoc]
theorem comps_spellR : ∀ (S : List (List Nat)) (c : Nat), (∀ x ∈ S, OkS x) → compsOf (spellR S c) = S
  | [], c, _ => comps_nil
  | s :: S, c, h => by
    have hs := h s List.mem_cons_self
    have ih := comps_spellR S (c / 6) fun x hx => h x (List.mem_cons_of_mem _ hx)
    have one := comps_one hs.1.1 hs.2.1 hs.2.2
    have tail : ∀ r : List Nat, compsOf (s ++ (postM.getD (c % 2) [] ++ r)) = s :: compsOf r := fun r => by
      have h2 : c % 2 = 0 ∨ c % 2 = 1 := by omega
      rcases h2 with h2 | h2
      · rw [h2]
        show compsOf (s ++ 47 :: r) = _
        rw [comps_cat, one]; rfl
      · rw [h2]
        show compsOf (s ++ 47 :: (47 :: r)) = _
        rw [comps_cat, comps_slash, one]; rfl
    rw [spellR, List.append_assoc, List.append_assoc]
    have h3 : c % 3 = 0 ∨ c % 3 = 1 ∨ c % 3 = 2 := by omega
    rcases h3 with h3 | h3 | h3
    · rw [h3]
      show compsOf (s ++ (postM.getD (c % 2) [] ++ spellR S (c / 6))) = _
      rw [tail, ih]
    · rw [h3]
      show compsOf ([46] ++ 47 :: (s ++ (postM.getD (c % 2) [] ++ spellR S (c / 6)))) = _
      rw [comps_cat, comps_dot, tail, ih]; rfl
    · rw [h3]
      show compsOf ([46] ++ 47 :: (47 :: (s ++ (postM.getD (c % 2) [] ++ spellR S (c / 6))))) = _
      rw [comps_cat, comps_dot, comps_slash, tail, ih]; rfl
theorem comps_spelled {S : List (List Nat)} {c : Nat} (h : ∀ x ∈ S, OkS x) : compsOf (spelledN S c) = S := by
  unfold spelledN
  rw [spell_fold]
  have e := comps_spellR S c h
  simp only [List.nil_append]
  split
  · rename_i q
    have : spellR S c = [] := by simpa using q
    rw [this, comps_nil] at e
    rw [comps_dot, e]
  · exact e
theorem comps_join {s : List (List Nat)} (h : ∀ x ∈ s, OkS x) : compsOf (joinL 47 s) = s := by
  cases s with
  | nil => exact comps_nil
  | cons x s =>
    unfold compsOf
    rw [splitL_joinL 47 (x :: s) (by simp) fun y hy => (h y hy).1.1]
    exact List.filter_eq_self.mpr fun y hy => by have := h y hy; simp [keepC, this.2.1, this.2.2]
theorem comps_abs {s : List (List Nat)} (h : ∀ x ∈ s, OkS x) : compsOf (47 :: joinL 47 s) = s := by rw [comps_slash, comps_join h]
theorem OkN.s {x : List Nat} (h : OkN x) : OkS x := ⟨h.1, h.2.1, h.2.2.1⟩
theorem ok_dd : OkS [46, 46] := ⟨⟨by decide, by decide, by decide⟩, by decide, by decide⟩

theorem lcp_left : ∀ (X Y : List (List Nat)), lcp X Y <+: X
  | [], Y => by simp [lcp]
  | x :: X, [] => by simp [lcp]
  | x :: X, y :: Y => by
    rw [lcp]
    split
    · exact (List.prefix_cons_inj x).mpr (lcp_left X Y)
    · exact List.nil_prefix
theorem lcp_right (X Y : List (List Nat)) : lcp X Y <+: Y := by rw [lcp_comm]; exact lcp_left Y X
theorem lcp_glb : ∀ {Z X Y : List (List Nat)}, Z <+: X → Z <+: Y → Z <+: lcp X Y
  | [], _, _, _, _ => List.nil_prefix
  | z :: Z, [], _, h, _ => by simp at h
  | z :: Z, x :: X, [], _, h => by simp at h
  | z :: Z, x :: X, y :: Y, h1, h2 => by
    obtain ⟨e1, a1⟩ := List.cons_prefix_cons.mp h1
    obtain ⟨e2, a2⟩ := List.cons_prefix_cons.mp h2
    rw [lcp, if_pos (e1.symm.trans e2), e1]
    exact (List.prefix_cons_inj x).mpr (lcp_glb a1 a2)
theorem prefix_antisymm {X Y : List (List Nat)} (h1 : X <+: Y) (h2 : Y <+: X) : X = Y := h1.eq_of_length (Nat.le_antisymm h1.length_le h2.length_le)
def lcpAll (X : List (List Nat)) (Xs : List (List (List Nat))) : List (List Nat) := Xs.foldl lcp X
theorem lcpAll_le : ∀ (Xs : List (List (List Nat))) (X : List (List Nat)), lcpAll X Xs <+: X ∧ ∀ Y ∈ Xs, lcpAll X Xs <+: Y
  | [], X => ⟨List.prefix_rfl, by simp⟩
  | Z :: Xs, X => by
    obtain ⟨h1, h2⟩ := lcpAll_le Xs (lcp X Z)
    refine ⟨h1.trans (lcp_left X Z), fun Y hY => ?_⟩
    rcases List.mem_cons.mp hY with rfl | hY
    · exact h1.trans (lcp_right X Y)
    · exact h2 Y hY
theorem lcpAll_glb : ∀ {Xs : List (List (List Nat))} {X W : List (List Nat)}, W <+: X → (∀ Y ∈ Xs, W <+: Y) → W <+: lcpAll X Xs
  | [], X, W, h, _ => h
  | Z :: Xs, X, W, h, h2 => lcpAll_glb (Xs := Xs) (X := lcp X Z) (lcp_glb h (h2 Z List.mem_cons_self)) fun Y hY => h2 Y (List.mem_cons_of_mem _ hY)
theorem between : ∀ {m M Y : List (List Nat)}, ¬ Y < m → ¬ M < Y → lcp m M <+: Y
  | [], M, Y, _, _ => by cases M <;> simp [lcp]
  | x :: m, [], Y, _, _ => by simp [lcp]
  | x :: m, y :: M, [], h, _ => absurd (by simp) h
  | x :: m, y :: M, z :: Y, h1, h2 => by
    rw [lcp]
    split
    · rename_i e
      subst e
      rw [List.cons_lt_cons_iff] at h1 h2
      have hz : z = x := by
        refine Classical.byContradiction fun q => ?_
        have a1 : ¬ z < x := fun a => h1 (.inl a)
        have a2 : ¬ x < z := fun a => h2 (.inl a)
        exact q (List.le_antisymm (List.not_lt.mp a2) (List.not_lt.mp a1))
      subst hz
      exact (List.prefix_cons_inj z).mpr (between (fun a => h1 (.inr ⟨rfl, a⟩)) fun a => h2 (.inr ⟨rfl, a⟩))
    · exact List.nil_prefix
theorem maxL_ge (X : List (List Nat)) : ∀ Xs Z, Z = X ∨ Z ∈ Xs → ¬ maxL X Xs < Z := by
  intro Xs
  induction Xs generalizing X with
  | nil => intro Z h; rcases h with rfl | h; exact List.lt_irrefl _; cases h
  | cons y Xs ih =>
    intro Z h
    unfold maxL at *
    rw [List.foldl_cons]
    have h0 := ih (if ltLL X y then y else X) (if ltLL X y then y else X) (.inl rfl)
    rw [ltLL_eq] at *
    by_cases q : X < y
    · rw [decide_eq_true q] at *
      simp only [if_true] at *
      rcases h with rfl | h
      · intro h1
        exact h0 (List.lt_trans h1 q)
      · rcases List.mem_cons.mp h with rfl | h
        · exact h0
        · exact ih y Z (.inr h)
    · rw [decide_eq_false q] at *
      simp only [Bool.false_eq_true, if_false] at *
      rcases h with rfl | h
      · exact h0
      · rcases List.mem_cons.mp h with rfl | h
        · intro h1
          refine h0 ?_
          rcases Classical.em (Z < X) with h2 | h2
          · exact List.lt_trans h1 h2
          · have : Z = X := List.le_antisymm (List.not_lt.mp q) (List.not_lt.mp h2)
            subst this; exact h1
        · exact ih X Z (.inr h)
theorem lcp_minmax (X : List (List Nat)) (Xs : List (List (List Nat))) : lcp (minL X Xs) (maxL X Xs) = lcpAll X Xs := by
  have b : ∀ Y, Y = X ∨ Y ∈ Xs → lcp (minL X Xs) (maxL X Xs) <+: Y := fun Y h => between (minL_le X Xs Y h) (maxL_ge X Xs Y h)
  have c : ∀ Y, Y = X ∨ Y ∈ Xs → lcpAll X Xs <+: Y := fun Y h => by
    rcases h with rfl | h
    · exact (lcpAll_le Xs Y).1
    · exact (lcpAll_le Xs X).2 Y h
  exact prefix_antisymm (lcpAll_glb (b X (.inl rfl)) fun Y h => b Y (.inr h)) (lcp_glb (c _ (minL_mem X Xs)) (c _ (maxL_mem X Xs)))
end Mine
end
section
set_option maxRecDepth 100000
set_option linter.unusedVariables false
set_option linter.unusedSimpArgs false
namespace Mine
/-- a place -/
def OkP (s : List (List Nat)) : Prop := ∀ x ∈ s, OkN x
theorem ups {s : List (List Nat)} (hs : OkP s) : ∀ u, (List.replicate u [46, 46]).foldl normStep s = s.take (s.length - u)
  | 0 => by simp
  | u + 1 => by
    rw [List.replicate_succ', List.foldl_append, ups hs u]
    show normStep (s.take (s.length - u)) [46, 46] = _
    rw [step_dd fun y hy => hs y (List.mem_of_mem_take hy), List.dropLast_eq_take, List.take_take, List.length_take]
    congr 1
    omega
theorem downs : ∀ {l : List (List Nat)} (acc : List (List Nat)), OkP l → l.foldl normStep acc = acc ++ l
  | [], acc, _ => by simp
  | x :: l, acc, h => by
    rw [List.foldl_cons, step_name (h x List.mem_cons_self), downs (l := l) _ fun y hy => h y (List.mem_cons_of_mem _ hy)]
    simp
theorem steps_ok {s g : List (List Nat)} (hg : OkP g) : ∀ x ∈ stepsN s g, OkS x := fun x hx => by
  unfold stepsN at hx
  rcases List.mem_append.mp hx with hx | hx
  · rw [List.eq_of_mem_replicate hx]; exact ok_dd
  · exact (hg x (List.mem_of_mem_drop hx)).s
theorem steps_len (s g : List (List Nat)) : (stepsN s g).length = (s.length - (lcp s g).length) + (g.length - (lcp s g).length) := by
  unfold stepsN; simp
theorem lcp_len2 (s g : List (List Nat)) : (lcp s g).length ≤ g.length := by rw [lcp_comm]; exact lcp_len g s
theorem route_len (s g : List (List Nat)) : (routeN s g).length = (stepsN s g).length + 1 := by
  have := lcp_len2 s g
  rw [steps_len]; unfold routeN; simp; omega
theorem route_at {s g : List (List Nat)} (hs : OkP s) (hg : OkP g) {t : Nat} (ht : t ≤ (stepsN s g).length) : (routeN s g)[t]? = some (((stepsN s g).take t).foldl normStep s) := by
  have h1 := lcp_len s g
  have h2 := lcp_len2 s g
  have ⟨k1, k2⟩ := lcp_take s g
  rw [steps_len] at ht
  unfold routeN stepsN
  by_cases h : t < s.length - (lcp s g).length
  · rw [List.getElem?_append_left (by simpa using h), List.take_append_of_le_length (by simp; omega), List.take_replicate, Nat.min_eq_left (by omega), ups hs]
    rw [List.getElem?_map, List.getElem?_range h]; rfl
  · rw [List.getElem?_append_right (by simp; omega), List.take_append, List.take_of_length_le (by simp; omega), List.foldl_append, ups hs]
    simp only [List.length_map, List.length_range, List.length_replicate]
    rw [show s.length - (s.length - (lcp s g).length) = (lcp s g).length by omega, k1, ← k2, downs _ fun x hx => hg x (List.mem_of_mem_drop (List.mem_of_mem_take hx))]
    rw [List.getElem?_map, List.getElem?_range (by rw [k2]; omega)]
    show some (g.take (_ + _)) = _
    rw [k2, List.take_add]
    congr 2
theorem step_inj {X : List (List Nat)} {x y : List Nat} (hX : OkP X) (hx : OkS x) (hy : OkS y) (h : normStep X x = normStep X y) : x = y := by
  have key : ∀ z, OkS z → z = [46, 46] ∨ OkN z := fun z hz => by
    by_cases e : z = [46, 46]
    · exact .inl e
    · exact .inr ⟨hz.1, hz.2.1, hz.2.2, e⟩
  rcases key x hx with e1 | n1 <;> rcases key y hy with e2 | n2
  · rw [e1, e2]
  · rw [e1, step_dd hX, step_name n2] at h
    have := congrArg List.length h
    simp at this <;> omega
  · rw [e2, step_dd hX, step_name n1] at h
    have := congrArg List.length h
    simp at this <;> omega
  · rw [step_name n1, step_name n2] at h
    simpa using h
theorem fold_okS {l acc : List (List Nat)} (ha : OkP acc) (hl : ∀ x ∈ l, OkS x) : OkP (l.foldl normStep acc) := fold_ok ha fun x hx => (hl x hx).1
theorem lcpAll_end {X : List (List Nat)} {Xs : List (List (List Nat))} : (∃ Y ∈ X :: Xs, Y.length = (lcpAll X Xs).length) ∨ ∃ Y ∈ X :: Xs, Y[(lcpAll X Xs).length]? ≠ X[(lcpAll X Xs).length]? := by
  refine Classical.byContradiction fun q => ?_
  simp only [not_or, not_exists, not_and, Decidable.not_not] at q
  obtain ⟨q1, q2⟩ := q
  have hle : ∀ Y ∈ X :: Xs, lcpAll X Xs <+: Y := fun Y hY => by
    rcases List.mem_cons.mp hY with rfl | hY
    · exact (lcpAll_le Xs Y).1
    · exact (lcpAll_le Xs X).2 Y hY
  have hlt : ∀ Y ∈ X :: Xs, (lcpAll X Xs).length < Y.length := fun Y hY => Nat.lt_of_le_of_ne (hle Y hY).length_le (fun e => q1 Y hY e.symm)
  have hX := hlt X List.mem_cons_self
  have hx : X[(lcpAll X Xs).length]? = some X[(lcpAll X Xs).length] := List.getElem?_eq_getElem hX
  have big : ∀ Y ∈ X :: Xs, lcpAll X Xs ++ [X[(lcpAll X Xs).length]] <+: Y := fun Y hY => by
    have e := q2 Y hY
    rw [hx] at e
    rw [List.prefix_iff_eq_take]
    have e1 : Y.take (lcpAll X Xs).length = lcpAll X Xs := (List.prefix_iff_eq_take.mp (hle Y hY)).symm
    simp only [List.length_append, List.length_cons, List.length_nil, List.take_add_one, e, Option.toList_some, Nat.zero_add]
    rw [e1]
  have := (lcpAll_glb (big X List.mem_cons_self) fun Y hY => big Y (List.mem_cons_of_mem _ hY)).length_le
  simp at this
  omega
theorem take_eq_of {α : Type} {a b : List α} {n : Nat} (h : ∀ m, m < n → a[m]? = b[m]?) : a.take n = b.take n := by
  refine List.ext_getElem? fun m => ?_
  rw [List.getElem?_take, List.getElem?_take]
  split
  · rename_i q; exact h m q
  · rfl
/-- the places that all ways share are as many as the steps that they share, and one -/
theorem together {s g0 : List (List Nat)} {gs : List (List (List Nat))} (hs : OkP s) (hg : ∀ g ∈ g0 :: gs, OkP g) :
    (∀ i, i < (lcpAll (stepsN s g0) (gs.map (stepsN s))).length → ∀ r ∈ (g0 :: gs).map (routeN s), parts (routeN s g0) (i + 1) r = false) ∧
    (∃ r ∈ (g0 :: gs).map (routeN s), parts (routeN s g0) ((lcpAll (stepsN s g0) (gs.map (stepsN s))).length + 1) r = true) := by
  generalize hT : lcpAll (stepsN s g0) (gs.map (stepsN s)) = T
  have hle : ∀ g ∈ g0 :: gs, T <+: stepsN s g := fun g hg => by
    rw [← hT]
    rcases List.mem_cons.mp hg with rfl | hg
    · exact (lcpAll_le _ _).1
    · exact (lcpAll_le _ _).2 _ (List.mem_map.mpr ⟨g, hg, rfl⟩)
  have htk : ∀ g ∈ g0 :: gs, ∀ m, m ≤ T.length → (routeN s g)[m]? = some ((T.take m).foldl normStep s) := fun g hgm m hm => by
    have h1 := (hle g hgm).length_le
    rw [route_at hs (hg g hgm) (by omega)]
    have e := List.prefix_iff_eq_take.mp (hle g hgm)
    congr 2
    rw [e, List.take_take, Nat.min_eq_left hm]
  refine ⟨fun i hi r hr => ?_, ?_⟩
  · obtain ⟨g, hgm, rfl⟩ := List.mem_map.mp hr
    have h1 := (hle g hgm).length_le
    have e : (routeN s g).take (i + 1 + 1) = (routeN s g0).take (i + 1 + 1) := take_eq_of fun m hm => by rw [htk g hgm m (by omega), htk g0 List.mem_cons_self m (by omega)]
    unfold parts
    rw [e, route_len]
    simp; omega
  · have := lcpAll_end (X := stepsN s g0) (Xs := gs.map (stepsN s))
    rw [hT] at this
    rcases this with ⟨Y, hY, hl⟩ | ⟨Y, hY, hne⟩
    · have : ∃ g ∈ g0 :: gs, Y = stepsN s g := by
        rcases List.mem_cons.mp hY with rfl | hY
        · exact ⟨g0, List.mem_cons_self, rfl⟩
        · obtain ⟨g, hg, rfl⟩ := List.mem_map.mp hY; exact ⟨g, List.mem_cons_of_mem _ hg, rfl⟩
      obtain ⟨g, hgm, rfl⟩ := this
      refine ⟨_, List.mem_map.mpr ⟨g, hgm, rfl⟩, ?_⟩
      unfold parts
      rw [route_len, hl]
      simp
    · have : ∃ g ∈ g0 :: gs, Y = stepsN s g := by
        rcases List.mem_cons.mp hY with rfl | hY
        · exact ⟨g0, List.mem_cons_self, rfl⟩
        · obtain ⟨g, hg, rfl⟩ := List.mem_map.mp hY; exact ⟨g, List.mem_cons_of_mem _ hg, rfl⟩
      obtain ⟨g, hgm, rfl⟩ := this
      refine ⟨_, List.mem_map.mpr ⟨g, hgm, rfl⟩, ?_⟩
      unfold parts
      rw [Bool.or_eq_true]
      by_cases hlen : (routeN s g).length ≤ T.length + 1
      · exact .inl (decide_eq_true hlen)
      · right
        rw [Bool.not_eq_true', decide_eq_false_iff_not]
        intro e
        rw [route_len] at hlen
        have hgl : T.length < (stepsN s g).length := by omega
        have e1 : (routeN s g)[T.length + 1]? = (routeN s g0)[T.length + 1]? := by
          have := congrArg (fun l => l[T.length + 1]?) e
          simpa [List.getElem?_take] using this
        have h0l : T.length < (stepsN s g0).length := by
          have h1 : (routeN s g)[T.length + 1]? ≠ none := by
            rw [Ne, List.getElem?_eq_none_iff, route_len]; omega
          rw [e1, Ne, List.getElem?_eq_none_iff, route_len] at h1
          omega
        rw [route_at hs (hg g hgm) (by omega), route_at hs (hg g0 List.mem_cons_self) (by omega)] at e1
        have t1 : (stepsN s g).take (T.length + 1) = T ++ [(stepsN s g)[T.length]] := by
          rw [List.take_add_one, ← List.prefix_iff_eq_take.mp (hle g hgm), List.getElem?_eq_getElem hgl]; rfl
        have t0 : (stepsN s g0).take (T.length + 1) = T ++ [(stepsN s g0)[T.length]] := by
          rw [List.take_add_one, ← List.prefix_iff_eq_take.mp (hle g0 List.mem_cons_self), List.getElem?_eq_getElem h0l]; rfl
        rw [t1, t0, List.foldl_append, List.foldl_append] at e1
        have hTok : ∀ x ∈ T, OkS x := fun x hx => steps_ok (hg g0 List.mem_cons_self) x ((hle g0 List.mem_cons_self).subset hx)
        have := step_inj (fold_okS hs hTok) (steps_ok (hg g hgm) _ (List.getElem_mem hgl)) (steps_ok (hg g0 List.mem_cons_self) _ (List.getElem_mem h0l)) (Option.some.inj e1)
        exact hne (by rw [List.getElem?_eq_getElem hgl, List.getElem?_eq_getElem h0l, this])
end Mine
end
section
open PySem.W
set_option maxRecDepth 100000
set_option linter.unusedVariables false
set_option linter.unusedSimpArgs false
namespace Mine
theorem lcp_append : ∀ (P X Y : List (List Nat)), lcp (P ++ X) (P ++ Y) = P ++ lcp X Y
  | [], X, Y => rfl
  | p :: P, X, Y => by rw [List.cons_append, List.cons_append, lcp, if_pos rfl, lcp_append P X Y, List.cons_append]
theorem lcp_dd {B : List (List Nat)} (hB : OkP B) (Y : List (List Nat)) : lcp B ([46, 46] :: Y) = [] := by
  cases B with
  | nil => simp [lcp]
  | cons b B => rw [lcp, if_neg (hB b List.mem_cons_self).2.2.2]
def med (A B C : List (List Nat)) : List (List Nat) := (lcp (stepsN A B) (stepsN A C)).foldl normStep A
theorem OkP.drop {B : List (List Nat)} (h : OkP B) (n : Nat) : OkP (B.drop n) := fun x hx => h x (List.mem_of_mem_drop hx)
theorem OkP.take {B : List (List Nat)} (h : OkP B) (n : Nat) : OkP (B.take n) := fun x hx => h x (List.mem_of_mem_take hx)
theorem med_gt {A B C : List (List Nat)} (hA : OkP A) (hB : OkP B) (h : (lcp A C).length < (lcp A B).length) : med A B C = lcp A B := by
  have h1 := lcp_len A B
  obtain ⟨k1, _⟩ := lcp_take A B
  unfold med stepsN
  have e : A.length - (lcp A C).length = (A.length - (lcp A B).length) + (((lcp A B).length - (lcp A C).length - 1) + 1) := by omega
  rw [e, ← List.replicate_append_replicate, List.append_assoc, lcp_append, List.replicate_succ, List.cons_append, lcp_dd (hB.drop _), List.append_nil, ups hA]
  rw [show A.length - (A.length - (lcp A B).length) = (lcp A B).length by omega, k1]
theorem med_lt {A B C : List (List Nat)} (hA : OkP A) (hC : OkP C) (h : (lcp A B).length < (lcp A C).length) : med A B C = lcp A C := by
  have : med A B C = med A C B := by unfold med; rw [lcp_comm]
  rw [this, med_gt hA hC h]
theorem med_eq {A B C : List (List Nat)} (hA : OkP A) (hB : OkP B) (hC : OkP C) (h : (lcp A B).length = (lcp A C).length) : med A B C = lcp B C := by
  have h1 := lcp_len A B
  obtain ⟨k1, k2⟩ := lcp_take A B
  obtain ⟨k3, k4⟩ := lcp_take A C
  unfold med stepsN
  rw [← h, lcp_append, List.foldl_append, ups hA]
  rw [show A.length - (A.length - (lcp A B).length) = (lcp A B).length by omega]
  have hl : OkP (lcp (B.drop (lcp A B).length) (C.drop (lcp A B).length)) := fun x hx => hB x (List.mem_of_mem_drop ((lcp_left _ _).subset hx))
  rw [downs _ hl]
  have e1 : A.take (lcp A B).length = B.take (lcp A B).length := k1.trans k2.symm
  have e2 : B.take (lcp A B).length = C.take (lcp A B).length := by rw [← e1, h, k3, k4]
  conv => rhs; rw [← List.take_append_drop (lcp A B).length B, ← List.take_append_drop (lcp A B).length C, e2, lcp_append]
  rw [e1, e2]
theorem ultra (X Y Z : List (List Nat)) : min (lcp X Y).length (lcp Y Z).length ≤ (lcp Z X).length := by
  rcases Nat.le_total (lcp X Y).length (lcp Y Z).length with h | h
  · have p := List.prefix_of_prefix_length_le (lcp_right X Y) (lcp_left Y Z) h
    have := (lcp_glb (p.trans (lcp_right Y Z)) (lcp_left X Y)).length_le
    omega
  · have p := List.prefix_of_prefix_length_le (lcp_left Y Z) (lcp_right X Y) h
    have := (lcp_glb (lcp_right Y Z) (p.trans (lcp_left X Y))).length_le
    omega
theorem trip1 {X Y Z : List (List Nat)} (hX : OkP X) (hY : OkP Y) (hZ : OkP Z) (h : (lcp Z X).length < (lcp X Y).length) :
    med X Y Z = lcp X Y ∧ med Y Z X = lcp X Y ∧ med Z X Y = lcp X Y ∧ (lcp Y Z <+: lcp X Y ∧ (lcp Y Z).length < (lcp X Y).length) ∧ (lcp Z X <+: lcp X Y ∧ (lcp Z X).length < (lcp X Y).length) := by
  have u1 := ultra X Y Z
  have u2 := ultra Z X Y
  have u3 := ultra Y Z X
  have c1 := lcp_comm X Z
  have c2 := lcp_comm Y X
  have c3 := lcp_comm Z Y
  refine ⟨med_gt hX hY (by rw [c1]; exact h), ?_, ?_, ⟨List.prefix_of_prefix_length_le (lcp_left Y Z) (lcp_right X Y) (by omega), by omega⟩, ⟨List.prefix_of_prefix_length_le (lcp_right Z X) (lcp_left X Y) (by omega), h⟩⟩
  · rw [med_lt hY hX (by rw [c2]; omega), c2]
  · exact med_eq hZ hX hY (by rw [c3]; omega)
theorem triple {X Y Z : List (List Nat)} (hX : OkP X) (hY : OkP Y) (hZ : OkP Z) : ∃ M, OkP M ∧ med X Y Z = M ∧ med Y Z X = M ∧ med Z X Y = M ∧ (M = lcp X Y ∨ M = lcp Y Z ∨ M = lcp Z X) ∧
    ∀ m, m = lcp X Y ∨ m = lcp Y Z ∨ m = lcp Z X → m = M ∨ (m <+: M ∧ m.length < M.length) := by
  have okl : ∀ {A B : List (List Nat)}, OkP A → OkP (lcp A B) := fun h x hx => h x ((lcp_left _ _).subset hx)
  by_cases h1 : (lcp Z X).length < (lcp X Y).length
  · obtain ⟨a, b, c, d, e⟩ := trip1 hX hY hZ h1
    exact ⟨_, okl hX, a, b, c, .inl rfl, fun m hm => by
      rcases hm with rfl | rfl | rfl
      · exact .inl rfl
      · exact .inr d
      · exact .inr e⟩
  · by_cases h2 : (lcp X Y).length < (lcp Y Z).length
    · obtain ⟨a, b, c, d, e⟩ := trip1 hY hZ hX h2
      exact ⟨_, okl hY, c, a, b, .inr (.inl rfl), fun m hm => by
        rcases hm with rfl | rfl | rfl
        · exact .inr e
        · exact .inl rfl
        · exact .inr d⟩
    · by_cases h3 : (lcp Y Z).length < (lcp Z X).length
      · obtain ⟨a, b, c, d, e⟩ := trip1 hZ hX hY h3
        exact ⟨_, okl hZ, b, c, a, .inr (.inr rfl), fun m hm => by
          rcases hm with rfl | rfl | rfl
          · exact .inr d
          · exact .inr e
          · exact .inl rfl⟩
      · have c1 := lcp_comm X Z
        have c2 := lcp_comm Y X
        have c3 := lcp_comm Z Y
        obtain ⟨x1, x2⟩ := lcp_take X Y
        obtain ⟨y1, y2⟩ := lcp_take Y Z
        obtain ⟨z1, z2⟩ := lcp_take Z X
        have e1 : lcp Z X = lcp X Y := by rw [← z2, ← x1]; congr 1; omega
        have e2 : lcp Y Z = lcp X Y := by rw [← y1, ← x2]; congr 1; omega
        refine ⟨lcp X Y, okl hX, ?_, ?_, ?_, .inl rfl, fun m hm => ?_⟩
        · rw [med_eq hX hY hZ (by rw [c1]; omega), e2]
        · rw [med_eq hY hZ hX (by rw [c2]; omega), e1]
        · rw [med_eq hZ hX hY (by rw [c3]; omega)]
        · rcases hm with rfl | rfl | rfl
          · exact .inl rfl
          · exact .inl e2
          · exact .inl e1
/-- a place as a text -/
def textP (s : List (List Nat)) : List Nat := 47 :: joinL 47 s
theorem joinL_app : ∀ {m r : List (List Nat)}, m ≠ [] → r ≠ [] → joinL 47 (m ++ r) = joinL 47 m ++ 47 :: joinL 47 r
  | [], _, h, _ => absurd rfl h
  | [x], [], _, h => absurd rfl h
  | [x], y :: r, _, _ => by simp [joinL]
  | x :: y :: m, r, _, h => by
    have := joinL_app (m := y :: m) (r := r) (by simp) h
    show x ++ 47 :: joinL 47 (y :: m ++ r) = _
    rw [this]; simp [joinL]
theorem text_lt {m M : List (List Nat)} (hM : OkP M) (h : m <+: M) (hl : m.length < M.length) : (textP m).length < (textP M).length := by
  obtain ⟨r, rfl⟩ := h
  have hr : r ≠ [] := fun e => by rw [e] at hl; simp at hl
  unfold textP
  cases m with
  | nil =>
    cases r with
    | nil => exact absurd rfl hr
    | cons x r =>
      have hx := (hM x (by simp)).2.1
      have : x.length ≠ 0 := fun e => hx (List.length_eq_zero_iff.mp e)
      cases r <;> simp [joinL] <;> omega
  | cons x m =>
    rw [joinL_app (by simp) hr]
    simp <;> omega

def sel (e0 e1 e2 : Bool) : Nat → Bool
  | 0 => e0
  | 1 => e1
  | _ => e2
def mat (e0 e1 e2 u01 u02 u10 u12 u20 u21 : Bool) (i j : Nat) : Bool :=
  if sel e0 e1 e2 i then false else if sel e0 e1 e2 j then true else match i, j with
    | 0, 1 => u01
    | 0, 2 => u02
    | 1, 0 => u10
    | 1, 2 => u12
    | 2, 0 => u20
    | 2, 1 => u21
    | _, _ => false
theorem all3 : ∀ e0 e1 e2 u01 u02 u10 u12 u20 u21 : Bool, (e0 || e1 || e2) = true → sel e0 e1 e2 ((krun (mat e0 e1 e2 u01 u02 u10 u12 u20 u21) (kas_sort 3)).toList.getLastD 0) = true := by decide +kernel
theorem krun_congr {α : Type} {lt lt' : Nat → Nat → Bool} {n : Nat} (h : ∀ i j, i < n → j < n → lt i j = lt' i j) : ∀ t : KasT α, kin n t = true → krun lt t = krun lt' t
  | .ret a, _ => rfl
  | .ask i j k, hk => by
    simp only [kin, Bool.and_eq_true, decide_eq_true_eq] at hk
    show krun lt (k (lt i j)) = krun lt' (k (lt' i j))
    rw [h i j hk.1.1.1 hk.1.1.2]
    refine krun_congr h _ ?_
    cases lt' i j
    · exact hk.2
    · exact hk.1.2
theorem order_last {a b c M : Int × List Nat} (hM : M = a ∨ M = b ∨ M = c) (h : ∀ p, p = a ∨ p = b ∨ p = c → p = M ∨ p.1 < M.1) : (order3 [a, b, c]).getLast? = some M := by
  let at_ : Nat → Int × List Nat := fun i => [a, b, c].getD i (0, [])
  have hat : ∀ i, i < 3 → at_ i = a ∨ at_ i = b ∨ at_ i = c := fun i hi => by
    match i, hi with
    | 0, _ => exact .inl rfl
    | 1, _ => exact .inr (.inl rfl)
    | 2, _ => exact .inr (.inr rfl)
  have hsel : ∀ i, i < 3 → sel (decide (a = M)) (decide (b = M)) (decide (c = M)) i = decide (at_ i = M) := fun i hi => by
    match i, hi with
    | 0, _ => rfl
    | 1, _ => rfl
    | 2, _ => rfl
  have hlt : ∀ i j, i < 3 → j < 3 → ltP (at_ i) (at_ j) = mat (decide (a = M)) (decide (b = M)) (decide (c = M)) (ltP a b) (ltP a c) (ltP b a) (ltP b c) (ltP c a) (ltP c b) i j := fun i j hi hj => by
    unfold mat
    rw [hsel i hi, hsel j hj]
    by_cases h1 : at_ i = M
    · rw [if_pos (decide_eq_true h1)]
      rw [h1]
      rcases h _ (hat j hj) with h2 | h2
      · rw [h2]; unfold ltP; rw [if_pos rfl]; exact decide_eq_false (List.lt_irrefl _)
      · unfold ltP; rw [if_neg (by omega)]; exact decide_eq_false (by omega)
    · rw [if_neg (by simp [h1])]
      by_cases h2 : at_ j = M
      · rw [if_pos (decide_eq_true h2)]
        rw [h2]
        rcases h _ (hat i hi) with h3 | h3
        · exact absurd h3 h1
        · unfold ltP; rw [if_neg (by omega)]; exact decide_eq_true h3
      · rw [if_neg (by simp [h2])]
        have self : ∀ x : Int × List Nat, ltP x x = false := fun x => by unfold ltP; rw [if_pos rfl]; exact decide_eq_false (List.lt_irrefl _)
        match i, hi, j, hj with
        | 0, _, 0, _ => exact self a
        | 0, _, 1, _ => rfl
        | 0, _, 2, _ => rfl
        | 1, _, 0, _ => rfl
        | 1, _, 1, _ => exact self b
        | 1, _, 2, _ => rfl
        | 2, _, 0, _ => rfl
        | 2, _, 1, _ => rfl
        | 2, _, 2, _ => exact self c
  have hk := krun_congr hlt (kas_sort 3) kin3
  have key := all3 (decide (a = M)) (decide (b = M)) (decide (c = M)) (ltP a b) (ltP a c) (ltP b a) (ltP b c) (ltP c a) (ltP c b) (by
    rcases hM with rfl | rfl | rfl <;> simp)
  rw [← hk] at key
  have hl3 := leaf3 (fun i j => ltP (at_ i) (at_ j))
  generalize hr : krun (fun i j => ltP (at_ i) (at_ j)) (kas_sort 3) = r at *
  have ho : order3 [a, b, c] = r.toList.map at_ := by unfold order3; rw [← hr]
  rw [ho, List.getLast?_map]
  have hne : r.toList ≠ [] := fun e => by have := hl3.1; rw [← Array.length_toList, e] at this; cases this
  rw [List.getLast?_eq_some_getLast hne]
  have e2 : r.toList.getLastD 0 = r.toList.getLast hne := by
    rw [List.getLastD_eq_getLast?, List.getLast?_eq_some_getLast hne]; rfl
  rw [e2] at key
  have hlt3 := hl3.2 _ (List.getLast_mem hne)
  rw [hsel _ hlt3] at key
  show some (at_ _) = some M
  rw [of_decide_eq_true key]
end Mine
end
section
set_option maxRecDepth 100000
set_option linter.unusedVariables false
set_option linter.unusedSimpArgs false
namespace Mine
abbrev PP := List (List Nat) × List (List Nat)
def frontN (x : List PP) (n : Nat) : List (List Nat) := if x ≠ [] ∧ n % 2 = 0 then (x.getLastD ([], [])).1.dropLast else []
def piecesAt (x : List PP) (n : Nat) : List (List Nat) := frontN x n ++ piecesN 5 (n / 2)
def buildStep (x : List PP) (n : Nat) : List PP := x ++ [(placeN (piecesAt x n), piecesAt x n)]
def buildN (N : List Nat) : List PP := N.foldl buildStep []
def OkB (x : List PP) : Prop := ∀ p ∈ x, (∀ y ∈ p.2, OkX y) ∧ p.1 = normN p.2 ∧ p.2.length ≤ 5 * x.length
theorem piece_ok (pick n : Nat) : OkX (pieceOf pick n) := by
  unfold pieceOf
  split
  · split
    · exact ⟨by decide, by decide, by decide⟩
    · rename_i h
      refine ⟨?_, by simp, ?_⟩
      · simp; omega
      · intro c hc; rw [List.mem_singleton.mp hc]; exact Nat.mod_lt _ (by omega)
  · match pick with
    | 0 => exact ⟨by decide, by decide, by decide⟩
    | 1 => exact ⟨by decide, by decide, by decide⟩
    | 2 => exact ⟨by decide, by decide, by decide⟩
    | 3 => exact ⟨by decide, by decide, by decide⟩
    | 4 => exact ⟨by decide, by decide, by decide⟩
    | 5 => exact ⟨by decide, by decide, by decide⟩
    | 6 => exact ⟨by decide, by decide, by decide⟩
    | p + 7 => exact ⟨by simp [menu], by simp [menu], by simp [menu]⟩
theorem pieces_ok : ∀ k n, ∀ y ∈ piecesN k n, OkX y
  | 0, _, y, h => by simp [piecesN] at h
  | k + 1, n, y, h => by
    unfold piecesN at h
    split at h
    · simp at h
    · rcases List.mem_cons.mp h with rfl | h
      · exact piece_ok _ _
      · exact pieces_ok k _ y h
theorem normN_len (l : List (List Nat)) : (normN l).length ≤ l.length := by have := foldN_len l []; simpa [normN] using this
theorem front_ok {x : List PP} (h : OkB x) (n : Nat) : (∀ y ∈ frontN x n, OkN y) ∧ (frontN x n).length ≤ 5 * x.length := by
  unfold frontN
  split
  · rename_i q
    have hm : x.getLastD ([], []) ∈ x := by
      rw [List.getLastD_eq_getLast?, List.getLast?_eq_some_getLast q.1]
      exact List.getLast_mem q.1
    obtain ⟨h1, h2, h3⟩ := h _ hm
    refine ⟨fun y hy => ?_, ?_⟩
    · have := List.dropLast_subset _ hy
      rw [h2] at this
      exact normN_ok h1 y this
    · rw [List.length_dropLast, h2]
      have := normN_len (x.getLastD ([], [])).2
      omega
  · simp
theorem piecesAt_ok {x : List PP} (h : OkB x) (n : Nat) : (∀ y ∈ piecesAt x n, OkX y) ∧ (piecesAt x n).length ≤ 5 * (x.length + 1) := by
  obtain ⟨h1, h2⟩ := front_ok h n
  refine ⟨fun y hy => ?_, ?_⟩
  · rcases List.mem_append.mp hy with hy | hy
    · exact (h1 y hy).1
    · exact pieces_ok _ _ y hy
  · have := piecesN_len 5 (n / 2)
    unfold piecesAt
    rw [List.length_append]; omega
theorem buildStep_ok {x : List PP} (h : OkB x) (n : Nat) : OkB (buildStep x n) := by
  intro p hp
  have hl : (buildStep x n).length = x.length + 1 := by simp [buildStep]
  rw [hl]
  rcases List.mem_append.mp hp with hp | hp
  · obtain ⟨h1, h2, h3⟩ := h p hp
    exact ⟨h1, h2, by omega⟩
  · rw [List.mem_singleton.mp hp]
    obtain ⟨h1, h2⟩ := piecesAt_ok h n
    exact ⟨h1, placeN_eq h1, h2⟩
theorem build_fold : ∀ (N : List Nat) (x : List PP), OkB x → OkB (N.foldl buildStep x) ∧ (N.foldl buildStep x).length = x.length + N.length
  | [], x, h => ⟨h, by simp⟩
  | n :: N, x, h => by
    obtain ⟨h1, h2⟩ := build_fold N _ (buildStep_ok h n)
    refine ⟨h1, ?_⟩
    rw [List.foldl_cons, h2]; simp [buildStep]; omega
theorem build_ok (N : List Nat) : OkB (buildN N) := (build_fold N [] (by intro p hp; cases hp)).1
theorem build_len (N : List Nat) : (buildN N).length = N.length := by have := (build_fold N [] (by intro p hp; cases hp)).2; simpa [buildN] using this
theorem build_take {N : List Nat} {i n : Nat} (h : N[i]? = some n) : buildN (N.take (i + 1)) = buildStep (buildN (N.take i)) n := by
  unfold buildN; rw [List.take_add_one, h, List.foldl_append]; rfl

theorem sum2 : ∀ {l : List (List Nat)}, (∀ x ∈ l, x.length ≤ 2) → (l.map List.length).sum ≤ 2 * l.length
  | [], _ => by simp
  | x :: l, h => by
    have := sum2 (l := l) fun y hy => h y (List.mem_cons_of_mem _ hy)
    have := h x List.mem_cons_self
    simp only [List.map_cons, List.sum_cons, List.length_cons]; omega
theorem joinL_lt {l : List (List Nat)} (h : ∀ x ∈ l, ∀ c ∈ x, c < 256) : ∀ c ∈ joinL 47 l, c < 256 := by
  induction l with
  | nil => simp [joinL]
  | cons x l ih =>
    cases l with
    | nil => exact fun c hc => h x List.mem_cons_self c hc
    | cons y r =>
      intro c hc
      rw [joinL] at hc
      rcases List.mem_append.mp hc with hc | hc
      · exact h x List.mem_cons_self c hc
      · rcases List.mem_cons.mp hc with rfl | hc
        · omega
        · exact ih (fun z hz => h z (List.mem_cons_of_mem _ hz)) c hc
theorem joinL_le2 {l : List (List Nat)} (h : ∀ x ∈ l, OkX x) : (joinL 47 l).length ≤ 3 * l.length := by
  have h1 := joinL_length 47 l
  have h2 := sum2 (l := l) fun x hx => (h x hx).2.1
  omega
theorem pre_lt (n : Nat) : ∀ c ∈ preM.getD n [], c < 256 := by
  match n with
  | 0 => decide
  | 1 => decide
  | 2 => decide
  | n + 3 => simp [preM]
theorem post_lt (n : Nat) : ∀ c ∈ postM.getD n [], c < 256 := by
  match n with
  | 0 => decide
  | 1 => decide
  | n + 2 => simp [postM]
theorem spellR_lt : ∀ (S : List (List Nat)) (k : Nat), (∀ x ∈ S, ∀ c ∈ x, c < 256) → ∀ c ∈ spellR S k, c < 256
  | [], k, _, c, h => by simp [spellR] at h
  | s :: S, k, h, c, hc => by
    rw [spellR] at hc
    simp only [List.mem_append] at hc
    rcases hc with ((hc | hc) | hc) | hc
    · exact pre_lt _ c hc
    · exact h s List.mem_cons_self c hc
    · exact post_lt _ c hc
    · exact spellR_lt S _ (fun x hx => h x (List.mem_cons_of_mem _ hx)) c hc
theorem spelled_lt {S : List (List Nat)} {k : Nat} (h : ∀ x ∈ S, OkS x) : ∀ c ∈ spelledN S k, c < 256 := by
  unfold spelledN
  rw [spell_fold]
  simp only [List.nil_append]
  split
  · decide
  · exact spellR_lt S k fun x hx => (h x hx).1.2.2
theorem spelled_len {S : List (List Nat)} {k : Nat} (h : ∀ x ∈ S, OkS x) : (spelledN S k).length ≤ 7 * S.length + 1 := by
  have h1 := spell_len S ([], k)
  have h2 := sum2 (l := S) fun x hx => (h x hx).1.2.1
  unfold spelledN
  simp only [List.length_nil] at h1
  split
  · simp
  · omega
theorem spelled_head {S : List (List Nat)} {k : Nat} (h : ∀ x ∈ S, OkS x) : headIs 47 (spelledN S k) = false := by
  unfold spelledN
  rw [spell_fold]
  simp only [List.nil_append]
  split
  · rfl
  · cases S with
    | nil => rfl
    | cons s S =>
      have hs := h s List.mem_cons_self
      rw [spellR]
      have h3 : k % 3 = 0 ∨ k % 3 = 1 ∨ k % 3 = 2 := by omega
      rcases h3 with h3 | h3 | h3
      · rw [h3]
        cases s with
        | nil => exact absurd rfl hs.2.1
        | cons c s =>
          have : c ≠ 47 := fun e => hs.1.1 (by rw [e]; exact List.mem_cons_self)
          show headIs 47 (c :: _) = false
          simp [headIs, this]
      · rw [h3]; rfl
      · rw [h3]; rfl
theorem steps_le {s g : List (List Nat)} : (stepsN s g).length ≤ s.length + g.length := by
  rw [steps_len]; omega
end Mine
end
section
open PySem PyProof.Rows PySem.SeqAt
set_option maxRecDepth 100000
set_option linter.unusedVariables false
set_option linter.unusedSimpArgs false
namespace Mine
/-- lists of the frame's own under other names than x are not at a -/
def OthOwn (x : Str) (a : Addr) : List (Str × B) → Prop
  | [] => True
  | (y, .own b _) :: r => (y = x ∨ b ≠ a) ∧ OthOwn x a r
  | (_, .dat _) :: r => OthOwn x a r
theorem OthOwn.hd {x : Str} {a : Addr} : ∀ {ρ : List (Str × B)}, OthOwn x a ρ → ∀ y b es, ρ.lookup y = some (.own b es) → y ≠ x → b ≠ a
  | [], _, y, b, es, h, _ => by simp at h
  | (z, .own c ds) :: r, ⟨hz, hr⟩, y, b, es, h, hy => by
    rw [List.lookup_cons] at h
    cases e : y == z with
    | true =>
      rw [e] at h; cases h
      rcases hz with hz | hz
      · exact absurd ((eq_of_beq e).trans hz) hy
      · exact hz
    | false => rw [e] at h; exact OthOwn.hd (ρ := r) hr y b es h hy
  | (z, .dat d) :: r, hr, y, b, es, h, hy => by
    rw [List.lookup_cons] at h
    cases e : y == z with
    | true => rw [e] at h; cases h
    | false => rw [e] at h; exact OthOwn.hd (ρ := r) hr y b es h hy
def OthAll (a : Addr) : List (Str × B) → Prop
  | [] => True
  | (y, .own b _) :: r => b ≠ a ∧ OthAll a r
  | (_, .dat _) :: r => OthAll a r
theorem OthAll.hd {a : Addr} : ∀ {ρ : List (Str × B)}, OthAll a ρ → ∀ y b es, ρ.lookup y = some (.own b es) → b ≠ a
  | [], _, y, b, es, h => by simp at h
  | (z, .own c ds) :: r, ⟨hz, hr⟩, y, b, es, h => by
    rw [List.lookup_cons] at h
    cases e : y == z with
    | true => rw [e] at h; cases h; exact hz
    | false => rw [e] at h; exact OthAll.hd (ρ := r) hr y b es h
  | (z, .dat d) :: r, hr, y, b, es, h => by
    rw [List.lookup_cons] at h
    cases e : y == z with
    | true => rw [e] at h; cases h
    | false => rw [e] at h; exact OthAll.hd (ρ := r) hr y b es h

theorem txts_len {o : Bool} {X : List (List Nat)} : (txts o X).length = X.length := by simp [txts]
/-- the numbers -/
def numsN (zs : List Int) : List Nat := (zs.take 5).map (fun x => x.natAbs % 65536) ++ [277, 8, 1638].drop ((zs.take 5).length)
theorem nums_lt (zs : List Int) : ∀ n ∈ numsN zs, n < 65536 := by
  intro n hn
  rcases List.mem_append.mp hn with h | h
  · obtain ⟨x, _, rfl⟩ := List.mem_map.mp h
    exact Nat.mod_lt _ (by omega)
  · have := List.mem_of_mem_drop h
    simp at this; omega
theorem nums_len (zs : List Int) : 3 ≤ (numsN zs).length ∧ (numsN zs).length ≤ 5 := by
  unfold numsN; simp; omega
def placesD (x : List PP) : List D := x.map fun p => LT false p.1
def crookedD (o : Bool) (x : List PP) : List D := x.map fun p => .txt o (crookedN p.2)
def numsD (N : List Nat) : List D := N.map fun (n : Nat) => .int (n : Int)
def lawFor (i : Nat) : List Stmt := match (dfn 27).body.drop i with
  | (.For _ _ b _ _) :: _ => b
  | _ => []
/-- the law's frame behind its first loop -/
def ρ1 (aP aC : Addr) (o : Bool) (N : List Nat) (x : List PP) : List (Str × B) :=
  [(Str.ofString "places", .own aP (placesD x)), (Str.ofString "crooked", .own aC (crookedD o x)), (Str.ofString "numbers", .dat (.list (numsD N))), (Str.ofString "octets", .dat (.bool o))]
theorem crooked_len {x : List PP} (h : OkB x) (hl : x.length ≤ 5) : ∀ p ∈ x, (crookedN p.2).length ≤ 100 := fun p hp => by
  obtain ⟨h1, _, h3⟩ := h p hp
  have := joinL_le2 h1
  unfold crookedN
  simp; omega
theorem crooked_lt {x : List PP} (h : OkB x) : ∀ p ∈ x, ∀ c ∈ crookedN p.2, c < 256 := fun p hp c hc => by
  obtain ⟨h1, _, h3⟩ := h p hp
  unfold crookedN at hc
  rcases List.mem_append.mp hc with hc | hc
  · simp at hc; omega
  · exact joinL_lt (fun y hy => (h1 y hy).2.2) c hc
section
variable {prog : Program} {w : World}
/-- the call of a def that stands at a -/
theorem run_at {k : Nat} (i : Nat) {xs : List Str} {ds : List D} {d : D} (hl : xs.length = ds.length)
    (hb : ∀ pm code doc vs, vs.length = xs.length → bindArgs (Calls.docDef (dfn i).name (dfn i).params (dfn i).body (dfn i).scope pm code doc) ⟨vs, []⟩ = pure (xs.zip vs))
    (hkind : ∀ n, ∀ x ∈ xs, (dfn i).scope.names.lookup x = some .local ∨ ((dfn i).scope.names.lookup x = some .cell ∧ ((cellsFrom n (dfn i).scope.names []).lookup x).isSome = true))
    (hco : (dfn i).scope.isCoroutine = false := by rfl) (hgen : (dfn i).scope.isGenerator = false := by rfl) (hk : (dfn i).scope.kind = .function := by rfl)
    (h : ∀ A s₀ Y pm code doc L a, Rm k A → Run prog w A s₀ s₀ Y (envF i pm code doc L a) (ownX (envF i pm code doc L a)) (xs.zip (ds.map B.dat)).reverse (dfn i).body (Gives s₀ Y d))
    {A : Around} {Z : List Addr} {s : Shared} {a : Addr} {vs : List Value} (R : Rm (k + 1) A) (top : TopF s.heap) (al : Al Z s.heap) (F : FnAt s.heap (dfn i) a) (r : Reps Z s.heap ds vs) : Tr prog w A Z (call (.ref a) vs) d s := by
  obtain ⟨o, pm, code, doc, ho, hd, hc⟩ := F.fn
  refine wpAny_call (codeAny_call_cells (fd := Calls.docDef (dfn i).name (dfn i).params (dfn i).body (dfn i).scope pm code doc) R.limit ho hd top.nolimit hc rfl (hb pm code doc vs (by rw [r.length, hl])) rfl
    (fun x hx => hkind _ x.1 (List.of_mem_zip hx).1) (fun s₁ C => ?_) hco hgen hk)
  have e1 : Ext [] s s₁ := by
    obtain ⟨h', tk, rfl⟩ := C.toInCall.same
    exact ⟨fun a o _ e => C.toInCall.keep a o e, rfl, rfl⟩
  have fr : ∀ b, s.heap.objs.size ≤ b → s.heap.get? b = none := fun b hb => PySem.Heap.get?_none_of_le hb
  have hL : s.heap.objs.size ≤ (envF i pm code doc s.heap.objs.size a).locals := C.toInCall.fresh
  have hX : ∀ b ∈ ownX (envF i pm code doc s.heap.objs.size a), s.heap.get? b = none := fun b hb => by
    rcases List.mem_cons.mp hb with rfl | hb
    · exact fr _ hL
    · obtain ⟨p, hp, hq⟩ := List.mem_filterMap.mp hb
      exact fr _ (Nat.le_of_lt (Nat.lt_of_le_of_lt hL (C.above p.1 b (mem_of_lookup hq))))
  have rr : Reps (ownX (envF i pm code doc s.heap.objs.size a) ++ Z) s₁.heap ds vs := r.more e1.keep hX
  have lk : ∀ {n : Str} {c : Addr}, (envF i pm code doc s.heap.objs.size a).cells.lookup n = some c → (n, c) ∈ (envF i pm code doc s.heap.objs.size a).cells := mem_of_lookup
  have g₁ : G s s Z (envF i pm code doc s.heap.objs.size a) (ownX (envF i pm code doc s.heap.objs.size a)) (xs.zip (ds.map B.dat)).reverse s₁ := by
    refine ⟨e1, e1.wk, top, hk, rfl, rfl, al.ext e1, fun b hb => ⟨hX b hb, ?_⟩, fun b hb q => (by obtain ⟨o, e⟩ := al b q; rw [hX b hb] at e; cases e), ⟨List.mem_cons_self, _, C.toInCall.ns⟩, fun n c e => ⟨List.mem_cons_of_mem _ (List.mem_filterMap.mpr ⟨(n, c), lk e, e⟩), _, C.cell n c e⟩, fun n n' c e e' => name_of_addr C.apart (lk e) (lk e'), fun x b e => ?_, fun x b ds' e => ?_⟩
    · rcases List.mem_cons.mp hb with rfl | hb
      · obtain ⟨o, _, _, q, _⟩ := C.toInCall.ns; exact ⟨o, q⟩
      · obtain ⟨p, hp, hq⟩ := List.mem_filterMap.mp hb
        obtain ⟨o, q, _⟩ := C.cell p.1 b hq
        exact ⟨o, q⟩
    · obtain ⟨d', v', rfl, hx, hv, rv⟩ := binds_get hl rr e
      refine ⟨v', ?_, rv⟩
      rcases hkind (s.heap.objs.size + 1) x hx with hk' | ⟨hk', hcl⟩
      · refine .inl ⟨hk', _, C.toInCall.ns, ?_⟩
        rw [bindL_get hk', hv]; rfl
      · obtain ⟨c, hc⟩ := Option.isSome_iff_exists.mp hcl
        refine .inr ⟨.inl hk', c, hc, ?_⟩
        have := C.cell x c hc
        rw [bindC_get (by show (dfn i).scope.names.lookup x ≠ _; rw [hk']; decide), hv] at this
        exact this
    · obtain ⟨d', v', q, _⟩ := binds_get hl rr e
      cases q
  exact wpAny_mono (h _ s Z pm code doc s.heap.objs.size a R.deeper s₁ g₁) (fun f' s' hf => by obtain ⟨v, rfl, x, y⟩ := hf; exact ⟨x, y⟩) fun _ _ x => x.elim

set_option maxHeartbeats 2000000 in
/-- one turn of the first loop -/
theorem law_build {A : Around} {s₀ sb : Shared} {Y X : List Addr} {pm code doc : Value} {L a : Addr} {aP aC : Addr} {o : Bool} {N : List Nat} {x : List PP} {n : Nat} {Q : Flow → Shared → Prop} (R : Rm 11 A) (hne : aP ≠ aC) (hx : OkB x) (hxl : x.length ≤ 4) (hn : n < 65536)
    (hQ : ∀ s, G s₀ sb Y (envF 27 pm code doc L a) X (ρ1 aP aC o N (buildStep x n)) s → Q .next s) :
    Run prog w A s₀ sb Y (envF 27 pm code doc L a) X ((Str.ofString "number", .dat (.int n)) :: ρ1 aP aC o N x) (lawFor 5) Q := by
  conv in lawFor 5 => whnf
  obtain ⟨hp1, hp2⟩ := piecesAt_ok hx n
  obtain ⟨hf1, hf2⟩ := front_ok hx n
  have hfl : (frontN x n).length ≤ 100 := by omega
  have hpl : (piecesN 5 (n / 2)).length ≤ 5 := piecesN_len _ _
  have hfx : (placesD x).length ≤ 10000 := by simp [placesD]; omega
  have hcx : (crookedD o x).length ≤ 10000 := by simp [crookedD]; omega
  refine Run.assign (d := LT false (frontN x n)) R (Ev.ifexp (b := decide (x ≠ [] ∧ n % 2 = 0)) (Tb.own (x := Str.ofString "places") (a := aP) (ds := placesD x) rfl (Tb.eq (Tb.and2 (Tb.compare (Ev.name rfl rfl) (Ev.list Evs.nil) c_neNil) (fun _ => Tb.compare (Ev.binop (Ev.name rfl rfl) Ev.int (o_mod (by omega))) Ev.int c_eq)) ?_)) (fun e => ?_) (fun e => ?_)) (.inl rfl) ?_
  · have e1 : ((n : Int) % 2 == 0) = decide (n % 2 = 0) := by rw [Bool.eq_iff_iff]; simp; omega
    rw [e1]
    cases x with
    | nil => rfl
    | cons p x => simp [placesD]
  · have e' := of_decide_eq_true e
    have hlast : (placesD x).getLast? = some (LT false (x.getLastD ([], [])).1) := by
      unfold placesD
      rw [List.getLast?_map, List.getLastD_eq_getLast?, List.getLast?_eq_some_getLast e'.1]; rfl
    have hfr : frontN x n = (x.getLastD ([], [])).1.dropLast := by unfold frontN; rw [if_pos e']
    have hm : x.getLastD ([], []) ∈ x := by
      rw [List.getLastD_eq_getLast?, List.getLast?_eq_some_getLast e'.1]
      exact List.getLast_mem e'.1
    have hll : (x.getLastD ([], [])).1.length ≤ 100 := by
      obtain ⟨_, h2, h3⟩ := hx _ hm
      have := normN_len (x.getLastD ([], [])).2
      rw [h2]; omega
    refine Ev.eq (Ev.cut (Ev.ownLast (a := aP) (ds := placesD x) rfl rfl (Ev.unop Ev.int o_neg) hlast (by omega)) rfl ⟨-1, rfl, Ev.unop Ev.int o_neg⟩ rfl (cut_init (ds := txts false (x.getLastD ([], [])).1) (by rw [txts_len]; omega))) ?_
    rw [hfr]
    simp [LT, txts, List.map_dropLast]
  · have e' := of_decide_eq_false e
    have hfr : frontN x n = [] := by unfold frontN; rw [if_neg e']
    rw [hfr]
    exact Ev.list (ds := []) Evs.nil rfl (by simp)
  · obtain ⟨pc, hpc⟩ : ∃ pc, piecesAt x n = pc := ⟨_, rfl⟩
    have hbs : buildStep x n = x ++ [(placeN pc, pc)] := by unfold buildStep; rw [hpc]
    have hcat : txts false (frontN x n) ++ txts false (piecesN 5 (n / 2)) = txts false pc := by rw [← hpc]; simp [txts, piecesAt]
    rw [hpc] at hp1 hp2
    rw [hbs] at hQ
    refine Run.assign (d := LT false pc) R (Ev.eq (Ev.binop (Ev.name rfl rfl) (Ev.callf 20 (by decide) rfl rfl (Evs.cons (Ev.eq (d' := .int (n / 2 : Nat)) (Ev.binop (Ev.name rfl rfl) Ev.int (o_div (by omega) (by omega) (by omega))) rfl) Evs.nil) ((f_pieces (n := n / 2) (by omega)).le (by omega))) (o_addL (by rw [txts_len, txts_len]; omega))) (congrArg D.list hcat)) (.inl rfl) ?_
    have hjl := joinL_le2 hp1
    have hjl2 : (pc.map List.length).sum ≤ 2 * pc.length := sum2 fun y hy => (hp1 y hy).2.1
    have hcl : ∀ c ∈ crookedN pc, c < 256 := fun c hc => by
      unfold crookedN at hc
      rcases List.mem_append.mp hc with hc | hc
      · simp at hc; omega
      · exact joinL_lt (fun y hy => (hp1 y hy).2.2) c hc
    have hcl2 : (crookedN pc).length ≤ 10000 := by unfold crookedN; simp; omega
    have hfa := (f_as (prog := prog) (w := w) (o := o) (cs := crookedN pc) hcl hcl2).le (k' := 11) (by omega)
    refine Run.append (d := .txt o (crookedN pc)) (ds := crookedD o x) R rfl rfl (Ev.callf 19 (by decide) rfl rfl (Evs.cons (Ev.eq (d' := .txt false (crookedN pc)) (Ev.binop (Ev.str (cs := [47, 46, 47]) rfl) (Ev.meth (Ev.str (cs := [47]) rfl) (Evs.cons (Ev.name rfl rfl) Evs.nil) (m_join (ps := pc) (by omega))) (o_addT (by simp; omega))) rfl) (Evs.cons (Ev.name rfl rfl) Evs.nil)) hfa) (OthOwn.hd ⟨.inr hne, .inl rfl, trivial⟩) hcx ?_
    refine Run.append (ds := placesD x) R rfl rfl (Ev.callf 21 (by decide) rfl rfl (Evs.cons (Ev.name rfl rfl) Evs.nil) ((f_place (pieces := pc) (by omega)).le (by omega))) (OthOwn.hd ⟨.inr (Ne.symm hne), .inl rfl, .inr (Ne.symm hne), trivial⟩) hfx (Run.nil fun s g => hQ s (g.weak ⟨?_, ?_, rfl, rfl, trivial⟩))
    · show some (B.own aP (placesD x ++ [LT false (placeN pc)])) = some (B.own aP (placesD (x ++ [(placeN pc, pc)])))
      simp [placesD]
    · show some (B.own aC (crookedD o x ++ [D.txt o (crookedN pc)])) = some (B.own aC (crookedD o (x ++ [(placeN pc, pc)])))
      simp [crookedD]
end
end Mine
end
section
open PySem PyProof.Rows PySem.SeqAt
set_option maxRecDepth 100000
set_option linter.unusedVariables false
set_option linter.unusedSimpArgs false
namespace Mine
theorem seq_list_iadd : seqSlot? (.type "list") (dunderI "add") = pure (some (.builtin "list.__iadd__")) := PySem.seqSlot_of F.slot_list_iadd.lookup (by decide +kernel)
theorem fills_list_iadd : fillsInplaceSlot (.type "list") "add" (Operator.Add == .Add) = pure false := by
  unfold fillsInplaceSlot
  show (typeLookup (.type "list") (dunderI "add") >>= fun fi => pure (fi.isSome && !isSeqSlot fi)) = pure false
  rw [F.slot_list_iadd.lookup]
  have h : isSeqSlot (some (.builtin "list.__iadd__")) = true := by decide +kernel
  simp only [pure_bind, h]
  rfl
section
variable {prog : Program} {w : World} {k : Nat} {A : Around} {s₀ sb : Shared} {Y : List Addr} {env : Env} {X : List Addr} {ρ ρ' : List (Str × B)} {rest : List Stmt} {Q : Flow → Shared → Prop}
theorem iadd_lists {E : Value → Shared → Prop} {s : Shared} {a b : Addr} {vs ws : List Value} {n m : Nat} {Q : Value → Shared → Prop} (hl : s.heap.get? a = some { cls := .type "list", data := .seq vs.toArray n }) (hb : s.heap.get? b = some { cls := .type "list", data := .seq ws.toArray m }) (hsz : vs.length + ws.length ≤ 10000)
    (h : Q (.ref a) { s with heap := s.heap.update a (Obj.mapSeq fun x => x ++ ws.toArray) }) : wpAny (model prog w) A (inplaceOp .Add (.ref a) (.ref b)) Q E s := by
  have hT : s.TypeIs (.ref a) "list" := ⟨_, hl, rfl⟩
  have hU : s.TypeIs (.ref b) "list" := ⟨_, hb, rfl⟩
  unfold inplaceOp
  refine wpAny_holding ?_
  refine wpAny_bind (wpAny_typeOf hT (wpAny_bind (wpAny_of_eq fills_list_iadd ?_)))
  show wpAny (model prog w) A (if false = true then _ else _) Q E s
  rw [if_neg Bool.false_ne_true]
  refine wpAny_bind (wpAny_binaryOp1_none (nm := "add") hT hU noFill_list_add ?_)
  refine wpAny_bind (wpAny_of_eq seq_list_iadd ?_)
  refine wpAny_bind (wpAny_rule ?_)
  refine call_meets F.slot_list_iadd hT F.entry_list_iadd (F.args_list_iadd_2 _ _) (AutoSeq1.list___iadd___list_list_0 a vs.toArray n b ws.toArray m ?_ (by simp; unfold sizeLine; omega) (by simp; unfold sizeLine; omega)) ⟨hl, hb, ?_⟩
  · simp only [Builtin.List.listTooLong]
    simp
    intro _
    unfold sizeLine; omega
  · exact h
/-- a name for a new list -/
theorem Run.assignNew {x : Str} {p pos : Pos} {e : Expr} {ds : List D} (R : Rm k A) (h : EvN prog w k env ρ e ds) (hx : Sto env x) (hr : ∀ a, a ∉ X → sb.heap.get? a = none → Run prog w A s₀ sb Y env (a :: X) ((x, .own a ds) :: ρ) rest Q)
    (hs : swapsWith e (some (.Name x p)) pos.line env = pure false := by rfl) : Run prog w A s₀ sb Y env X ρ (.Assign [.Name x p] e pos :: rest) Q :=
  Run.stmt fun s g => wpAny_Assign_Name (wp_no (h A _ s R g.rg) fun v s₁ ⟨x₁, a, vs, hv, hn, pl, rs⟩ => by
    subst hv
    have hX : a ∉ X := fun q => by obtain ⟨o, e⟩ := (g.xal _ q).2; rw [hn] at e; cases e
    have hb : sb.heap.get? a = none := by
      cases q : sb.heap.get? a with
      | none => rfl
      | some o => have := g.rel.kp _ _ hX q; rw [hn] at this; cases this
    have g1 : G s₀ sb Y env (a :: X) ρ s₁ := g.grow x₁ hn ⟨_, pl.choose_spec⟩
    refine g1.store (b := .own a ds) hx (fun h' kp kl bd => ⟨bd, vs, kl _ _ pl, rs.kp kp⟩) (fun b es e => by cases e; simp) fun s' _ g' => hr _ hX hb s' g') hs
/-- x += list, x a list of the frame's own -/
theorem Run.augOwn {x : Str} {p pos : Pos} {e : Expr} {a : Addr} {ds es : List D} (R : Rm k A) (hx : ρ.lookup x = some (.own a ds)) (hn : plainName x = true) (h : Ev prog w k env ρ e (.list es)) (hd : ∀ y b es, ρ.lookup y = some (.own b es) → y ≠ x → b ≠ a) (hsz : ds.length + es.length ≤ 10000) (hst : Sto env x)
    (hr : Run prog w A s₀ sb Y env X ((x, .own a (ds ++ es)) :: (x, .own a (ds ++ es)) :: ρ) rest Q) : Run prog w A s₀ sb Y env X ρ (.AugAssign (.Name x p) .Add e pos :: rest) Q :=
  Run.stmt fun s g => wpAny_AugAssign_Name (by
    obtain ⟨bd, vs, pl, rs⟩ := g.vars x _ hx
    simp only [plainName, Bool.and_eq_true, Bool.not_eq_true'] at hn
    refine bd.load g.fn ?_ hn.2
    refine wp_no (h A _ s R g.rg) fun u s₁ ⟨x₁, r₁⟩ => ?_
    have g1 := g.ext x₁
    have pl1 := pl.at fun o e => x₁.keep _ o e
    have rs1 := rs.ext x₁
    obtain ⟨b, ws, rfl, hbn, ⟨m, hb⟩, rb⟩ := r₁
    obtain ⟨n, ha⟩ := id pl1
    have haX := g.owns x a ds hx
    have e1 := rs1.length
    have e2 := rb.length
    refine iadd_lists ha hb (by omega) ?_
    have hs := Heap.SameBut.update s₁.heap a (Obj.mapSeq fun x => x ++ ws.toArray)
    have pl' : (s₁.heap.update a (Obj.mapSeq fun x => x ++ ws.toArray)).PlainList a (List.toArray (vs ++ ws)) := by
      have := get?_update_seq ha (fun x => x ++ ws.toArray)
      have e : vs.toArray ++ ws.toArray = (vs ++ ws).toArray := by simp
      rw [e] at this
      exact ⟨_, this⟩
    have g2 : G s₀ sb Y env X ((x, .own a (ds ++ es)) :: ρ) { s₁ with heap := s₁.heap.update a (Obj.mapSeq fun x => x ++ ws.toArray), toks := s₁.toks } := g1.setOwn hx hd pl1 hs pl' (Reps.append rs1 rb)
    refine g2.store (v := .ref a) (b := .own a (ds ++ es)) hst (fun h' kp kl bd => ⟨bd, vs ++ ws, kl _ _ pl', ?_⟩) (fun b es e => by cases e; exact haX) fun s' _ g' => hr s' g'
    refine Reps.kp ?_ kp
    exact (Reps.append rs1 rb).kp fun c o n e => (hs.2 c fun q => n (List.mem_append.mpr (.inl (q ▸ haX)))).trans e)
end
end Mine
end
section
open PySem PyProof.Rows PySem.SeqAt
set_option maxRecDepth 100000
set_option linter.unusedVariables false
set_option linter.unusedSimpArgs false
namespace Mine
def octN (N : List Nat) : Bool := (N.map fun (n : Nat) => (n : Int)).sum % 2 == 1
def ρ2 (o : Bool) (N : List Nat) (x : List PP) : List (Str × B) :=
  [(Str.ofString "places", .dat (.list (placesD x))), (Str.ofString "crooked", .dat (.list (crookedD o x))), (Str.ofString "numbers", .dat (.list (numsD N))), (Str.ofString "octets", .dat (.bool o))]
def lawDrop (i : Nat) : List Stmt := (dfn 27).body.drop i
theorem nums_first (zs : List Int) : (((zs.take 5).map fun z => D.int ((z.natAbs % 65536 : Nat) : Int)) ++ [D.int 277, D.int 8, D.int 1638].drop ((zs.take 5).map fun z => D.int ((z.natAbs % 65536 : Nat) : Int)).length) = numsD (numsN zs) := by
  unfold numsD numsN
  rw [List.map_append, List.map_map, List.length_map, List.map_drop]
  rfl
section
variable {prog : Program} {w : World}
set_option maxHeartbeats 2000000 in
theorem law_head {A : Around} {s₀ : Shared} {Y : List Addr} {pm code doc : Value} {L a : Addr} {zs : List Int} {Q : Flow → Shared → Prop} (R : Rm 11 A) (hz : zs.length ≤ 63)
    (hB : Run prog w A s₀ s₀ Y (envF 27 pm code doc L a) (ownX (envF 27 pm code doc L a)) (ρ2 (octN (numsN zs)) (numsN zs) (buildN (numsN zs))) (lawDrop 6) Q) :
    Run prog w A s₀ s₀ Y (envF 27 pm code doc L a) (ownX (envF 27 pm code doc L a)) [(Str.ofString "script", .dat (.list (zs.map D.int)))] (dfn 27).body Q := by
  conv in (dfn 27).body => whnf
  conv at hB in lawDrop 6 => whnf
  have hN := nums_lt zs
  obtain ⟨hN3, hN5⟩ := nums_len zs
  refine Run.assignNew (ds := (zs.take 5).map fun z => D.int ((z.natAbs % 65536 : Nat) : Int)) R (CompOk.evn ⟨rfl, rfl, by decide, fun _ => rfl, ?_⟩) (.inr ⟨rfl, _, rfl⟩) fun aN haN hbN => ?_
  · refine ⟨_, _, (fun d => match d with | .int z => some (.int ((z.natAbs % 65536 : Nat) : Int)) | _ => none), (fun d ρ => (Str.ofString "x", .dat d) :: ρ), [], Ev.cut (Ev.name rfl rfl) rfl ⟨5, rfl, Ev.int⟩ rfl (cut_to (ds := zs.map D.int) 5 (by simp; omega)), rfl, by simp; omega, ?_, trivial, rfl, AllDat.get (by trivial), fun C i di h => CTgt.name rfl, .inl ⟨_, _, rfl⟩, fun C i di h => ?_, fun C i di y h hy => ?_⟩
    · rw [← List.map_take, List.filterMap_map]
      exact List.filterMap_eq_map ▸ rfl
    · rw [← List.map_take, List.getElem?_map] at h
      obtain ⟨x, hx, rfl⟩ := Option.map_eq_some_iff.mp h
      rfl
    · rw [← List.map_take, List.getElem?_map] at h
      obtain ⟨x, hx, rfl⟩ := Option.map_eq_some_iff.mp h
      cases hy
      exact Ev.eq (Ev.binop (Ev.callb (f := .builtin "abs") rfl rfl (fun h t => glbT "abs" _ (by decide) t) (fun _ e => by cases e) (Evs.cons (Ev.name rfl rfl) Evs.nil) cl_abs) Ev.int (o_mod (by omega))) rfl
  have hl5 : ((zs.take 5).map fun z => D.int ((z.natAbs % 65536 : Nat) : Int)).length ≤ 5 := by simp; omega
  have hfirst := nums_first zs
  generalize ((zs.take 5).map fun z => D.int ((z.natAbs % 65536 : Nat) : Int)) = M at hl5 hfirst ⊢
  refine Run.augOwn (a := aN) (ds := M) (es := [D.int 277, D.int 8, D.int 1638].drop M.length) R rfl rfl (Ev.cut (Ev.list (ds := [D.int 277, D.int 8, D.int 1638]) (Evs.cons Ev.int (Evs.cons Ev.int (Evs.cons Ev.int Evs.nil)))) ⟨(M.length : Nat), rfl, Ev.own (x := Str.ofString "numbers") (a := aN) (ds := M) rfl rfl (Ev.len (n := M.length) rfl (Ev.name rfl rfl) (cl_len_list (ds := M) (by omega)) rfl)⟩ rfl rfl (cut_from (ds := [D.int 277, D.int 8, D.int 1638]) M.length (by simp))) (OneOwn.hd ⟨rfl, trivial⟩) (by simp; omega) (.inr ⟨rfl, _, rfl⟩) ?_
  rw [hfirst]
  generalize numsN zs = N at *
  refine Run.freeze (X₁ := []) (X₂ := ownX (envF 27 pm code doc L a)) (ρ' := []) (x := Str.ofString "numbers") (a := aN) rfl rfl haN trivial (fun y b es e => by simp at e) hbN ?_
  have hsum : (numsD N) = (N.map fun (n : Nat) => (n : Int)).map D.int := by unfold numsD; rw [List.map_map]; rfl
  refine Run.assign (d := .bool (octN N)) R (Ev.compare (Ev.binop (Ev.callb (f := .builtin "sum") rfl rfl (fun h t => glbT "sum" _ (by decide) t) (fun _ e => by cases e) (Evs.cons (Ev.eq (d' := .list ((N.map fun (n : Nat) => (n : Int)).map D.int)) (Ev.name rfl rfl) (congrArg D.list hsum)) Evs.nil) (cl_sum (ns := N.map fun (n : Nat) => (n : Int)) (fun n hn => ?_) (by simp; omega))) Ev.int (o_mod (by omega))) Ev.int c_eq) (.inr ⟨rfl, _, rfl⟩) ?_
  · obtain ⟨m, hm, rfl⟩ := List.mem_map.mp hn
    have := hN m hm
    omega
  refine Run.newList (.inr ⟨rfl, _, rfl⟩) fun aP haP hbP => ?_
  refine Run.newList (.inr ⟨rfl, _, rfl⟩) fun aC haC hbC => ?_
  have hne : aP ≠ aC := fun e => haC (e ▸ List.mem_cons_self)
  generalize octN N = o at *
  refine Run.for_ R (Ev.name rfl rfl) (ds := numsD N) rfl (fun i => ρ1 aP aC o N (buildN (N.take i))) (fun di ρ => (Str.ofString "number", .dat di) :: ρ) (fun i di hdi => Tgt.name (.inl rfl)) ⟨rfl, rfl, rfl, rfl, trivial⟩ ?_ ?_ (.inl ⟨_, _, rfl⟩)
  · intro i di s1 J hdi
    unfold numsD at hdi
    rw [List.getElem?_map] at hdi
    obtain ⟨n, hn, rfl⟩ := Option.map_eq_some_iff.mp hdi
    have hi : i < N.length := (List.getElem?_eq_some_iff.mp hn).1
    refine law_build (Q := Turn prog w A s₀ s₀ s1 Y J (envF 27 pm code doc L a) _ (ρ1 aP aC o N (buildN (N.take (i + 1)))) _ Q) R hne (build_ok _) (by rw [build_len, List.length_take]; omega) (hN n (List.mem_of_getElem? hn)) fun s g => ?_
    rw [build_take hn]
    exact g
  · have hlen : (numsD N).length = N.length := by simp [numsD]
    rw [hlen, List.take_length]
    generalize buildN N = x at *
    have haP' : aP ∉ ownX (envF 27 pm code doc L a) := haP
    have haC' : aC ∉ aP :: ownX (envF 27 pm code doc L a) := haC
    refine Run.freeze (X₁ := []) (X₂ := aP :: ownX (envF 27 pm code doc L a)) (ρ' := [(Str.ofString "places", .own aP (placesD x)), (Str.ofString "numbers", .dat (.list (numsD N))), (Str.ofString "octets", .dat (.bool o))]) (x := Str.ofString "crooked") (a := aC) rfl rfl haC' ⟨rfl, rfl, rfl, trivial⟩ (OthAll.hd ⟨hne, trivial⟩) hbC ?_
    refine Run.freeze (X₁ := []) (X₂ := ownX (envF 27 pm code doc L a)) (ρ' := [(Str.ofString "crooked", .dat (.list (crookedD o x))), (Str.ofString "numbers", .dat (.list (numsD N))), (Str.ofString "octets", .dat (.bool o))]) (x := Str.ofString "places") (a := aP) rfl rfl haP' ⟨rfl, rfl, rfl, trivial⟩ (OthAll.hd (by trivial)) hbP ?_
    exact hB
end
end Mine
end
section
open PySem PyProof.Rows PySem.SeqAt
set_option maxRecDepth 100000
set_option linter.unusedVariables false
set_option linter.unusedSimpArgs false
namespace Mine
def pl (x : List PP) (i : Nat) : List (List Nat) := (x.getD i ([], [])).1
def pc (x : List PP) (i : Nat) : List (List Nat) := (x.getD i ([], [])).2
def wayT (N : List Nat) (x : List PP) (i j : Nat) : List Nat := spelledN (stepsN (pl x i) (pl x j)) (N.getD i 0 / 2 + j)
def waysRow (N : List Nat) (x : List PP) (i : Nat) : List (List Nat) := (List.range x.length).map fun j => wayT N x i j
def waysD (o : Bool) (N : List Nat) (x : List PP) (k : Nat) : List D := (List.range k).map fun i => LT o (waysRow N x i)
theorem ok_at {x : List PP} (h : OkB x) (hl : x.length ≤ 5) {i : Nat} (hi : i < x.length) : OkP (pl x i) ∧ (pl x i).length ≤ 25 ∧ (∀ y ∈ pc x i, OkX y) ∧ pl x i = normN (pc x i) ∧ (pc x i).length ≤ 25 := by
  have e : x.getD i ([], []) = x[i] := by simp [List.getD, hi]
  obtain ⟨h1, h2, h3⟩ := h x[i] (List.getElem_mem hi)
  unfold pl pc
  rw [e]
  have := normN_len x[i].2
  refine ⟨fun y hy => normN_ok h1 y (h2 ▸ hy), by rw [h2]; omega, h1, h2, by omega⟩
theorem places_at {x : List PP} {i : Nat} (hi : i < x.length) : (placesD x)[i]? = some (LT false (pl x i)) := by
  have e : x.getD i ([], []) = x[i] := by simp [List.getD, hi]
  unfold placesD pl
  rw [List.getElem?_map, List.getElem?_eq_getElem hi, e]; rfl
theorem crooked_at {o : Bool} {x : List PP} {i : Nat} (hi : i < x.length) : (crookedD o x)[i]? = some (.txt o (crookedN (pc x i))) := by
  have e : x.getD i ([], []) = x[i] := by simp [List.getD, hi]
  unfold crookedD pc
  rw [List.getElem?_map, List.getElem?_eq_getElem hi, e]; rfl
theorem nums_at {N : List Nat} {i : Nat} (hi : i < N.length) : (numsD N)[i]? = some (.int (N.getD i 0 : Nat)) := by
  have e : N.getD i 0 = N[i] := by simp [List.getD, hi]
  unfold numsD
  rw [List.getElem?_map, List.getElem?_eq_getElem hi, e]; rfl
theorem items_many {n : Nat} (hn : n ≤ 100) : itemsOf (.range 0 (n : Int) 1) = some ((List.range n).map fun j => .int (j : Nat)) := by
  have := items_up (a := 0) (b := n) (by omega) (by omega)
  simp only [Nat.sub_zero, Nat.zero_add] at this
  exact this
theorem range_get {n j : Nat} {d : D} (h : ((List.range n).map fun j => D.int (j : Nat))[j]? = some d) : j < n ∧ d = .int (j : Nat) := by
  rw [List.getElem?_map] at h
  obtain ⟨y, hy, rfl⟩ := Option.map_eq_some_iff.mp h
  obtain ⟨h1, h2⟩ := List.getElem?_eq_some_iff.mp hy
  simp at h1 h2
  subst h2
  exact ⟨h1, rfl⟩
theorem way_ok {x : List PP} (h : OkB x) (hl : x.length ≤ 5) {N : List Nat} {i j : Nat} (hi : i < x.length) (hj : j < x.length) : (∀ c ∈ wayT N x i j, c < 256) ∧ (wayT N x i j).length ≤ 400 ∧ headIs 47 (wayT N x i j) = false ∧ compsOf (wayT N x i j) = stepsN (pl x i) (pl x j) := by
  obtain ⟨a1, a2, _⟩ := ok_at h hl hi
  obtain ⟨b1, b2, _⟩ := ok_at h hl hj
  have hs := steps_ok (s := pl x i) b1
  have := spelled_len (k := N.getD i 0 / 2 + j) hs
  have := steps_le (s := pl x i) (g := pl x j)
  exact ⟨spelled_lt hs, by unfold wayT; omega, spelled_head hs, comps_spelled hs⟩
section
variable {prog : Program} {w : World}
/-- one row of the ways -/
theorem ways_row {k : Nat} {env : Env} {ρ : List (Str × B)} {x : List PP} {N : List Nat} {i : Nat} (hx : OkB x) (hl : x.length ≤ 5) (hN : N.length = x.length) (hN2 : ∀ n ∈ N, n < 65536) (hi : i < x.length) : True := trivial
set_option maxHeartbeats 2000000 in
theorem law_ways {A : Around} {s₀ sb : Shared} {Y X : List Addr} {pm code doc : Value} {L a : Addr} {aW : Addr} {o : Bool} {N : List Nat} {x : List PP} {i : Nat} {Q : Flow → Shared → Prop} (R : Rm 11 A) (hx : OkB x) (hl : x.length ≤ 5) (hN : N.length = x.length) (hN2 : ∀ n ∈ N, n < 65536) (hi : i < x.length)
    (hQ : ∀ s, G s₀ sb Y (envF 27 pm code doc L a) X ((Str.ofString "ways", .own aW (waysD o N x (i + 1))) :: (Str.ofString "many", .dat (.range 0 x.length 1)) :: ρ2 o N x) s → Q .next s) :
    Run prog w A s₀ sb Y (envF 27 pm code doc L a) X ((Str.ofString "i", .dat (.int i)) :: (Str.ofString "ways", .own aW (waysD o N x i)) :: (Str.ofString "many", .dat (.range 0 x.length 1)) :: ρ2 o N x) (lawFor 8) Q := by
  conv in lawFor 8 => whnf
  obtain ⟨a1, a2, _⟩ := ok_at hx hl hi
  have hNi : N.getD i 0 < 65536 := by
    have e : N.getD i 0 = N[i]'(by omega) := by simp [List.getD, show i < N.length by omega]
    rw [e]; exact hN2 _ (List.getElem_mem _)
  refine Run.assignComp (outs := txts false (waysRow N x i)) R ⟨rfl, rfl, by decide, fun _ => rfl, ?_⟩ (.inl rfl) ?_
  · refine ⟨_, _, (fun d => match d with | .int m => some (.txt false (wayT N x i m.toNat)) | _ => none), (fun d ρ => (Str.ofString "j", .dat d) :: ρ), [(Str.ofString "i", .dat (.int i)), (Str.ofString "numbers", .dat (.list (numsD N))), (Str.ofString "places", .dat (.list (placesD x)))], Ev.name rfl rfl, items_many (by omega), by simp; omega, ?_, ⟨rfl, rfl, rfl, trivial⟩, rfl, AllDat.get (by trivial), fun C i di h => CTgt.name rfl, .inl ⟨_, _, rfl⟩, fun C j di h => ?_, fun C j di y h hy => ?_⟩
    · unfold waysRow txts
      rw [List.filterMap_map, List.map_map]
      exact List.filterMap_eq_map ▸ rfl
    · obtain ⟨_, rfl⟩ := range_get h
      rfl
    · obtain ⟨hj, rfl⟩ := range_get h
      cases hy
      obtain ⟨b1, b2, _⟩ := ok_at hx hl hj
      have hs := steps_ok (s := pl x i) b1
      have hsl := steps_le (s := pl x i) (g := pl x j)
      have hss := sum2 (l := stepsN (pl x i) (pl x j)) fun y hy => (hs y hy).1.2.1
      exact Ev.callf 25 (by decide) rfl rfl (Evs.cons (Ev.callf 23 (by decide) rfl rfl (Evs.cons (Ev.item (Ev.name rfl rfl) (Ev.name rfl rfl) (i_list (places_at hi) (by omega))) (Evs.cons (Ev.item (Ev.name rfl rfl) (Ev.name rfl rfl) (i_list (places_at hj) (by omega))) Evs.nil)) ((f_steps (s := pl x i) (g := pl x j) (by omega) (by omega)).le (by omega)))
        (Evs.cons (Ev.eq (d' := .int (N.getD i 0 / 2 + j : Nat)) (Ev.binop (Ev.eq (d' := .int (N.getD i 0 / 2 : Nat)) (Ev.binop (Ev.item (Ev.name rfl rfl) (Ev.name rfl rfl) (i_list (nums_at (N := N) (i := i) (by omega)) (by omega))) Ev.int (o_div (by omega) (by omega) (by omega))) rfl) (Ev.name rfl rfl) o_add) rfl) Evs.nil)) ((f_spelled (steps := stepsN (pl x i) (pl x j)) (crook := N.getD i 0 / 2 + j) (by omega) (by omega)).le (by omega))
  · have hrow : waysD o N x (i + 1) = waysD o N x i ++ [LT o (waysRow N x i)] := by
      unfold waysD; rw [List.range_succ, List.map_append]; rfl
    rw [hrow] at hQ
    refine Run.append (ds := waysD o N x i) R rfl rfl (EvN.ev (CompOk.evn (outs := txts o (waysRow N x i)) ⟨rfl, rfl, by decide, fun _ => rfl, ?_⟩)) (OneOwn.hd ⟨rfl, trivial⟩) (by simp [waysD]; omega) (Run.nil fun s g => hQ s (g.weak ⟨rfl, rfl, rfl, rfl, rfl, rfl, trivial⟩))
    refine ⟨_, _, (fun d => match d with | .txt _ t => some (.txt o t) | _ => none), (fun d ρ => (Str.ofString "one", .dat d) :: ρ), [(Str.ofString "octets", .dat (.bool o))], Ev.name rfl rfl, rfl, by simp [txts, waysRow]; omega, ?_, ⟨rfl, trivial⟩, rfl, AllDat.get (by trivial), fun C i di h => CTgt.name rfl, .inl ⟨_, _, rfl⟩, fun C j di h => ?_, fun C j di y h hy => ?_⟩
    · unfold txts
      rw [List.filterMap_map]
      exact List.filterMap_eq_map ▸ rfl
    · obtain ⟨t, ht, rfl⟩ := txts_get h
      rfl
    · obtain ⟨t, ht, rfl⟩ := txts_get h
      cases hy
      unfold waysRow at ht
      rw [List.getElem?_map] at ht
      obtain ⟨j', hj', rfl⟩ := Option.map_eq_some_iff.mp ht
      have hjl : j' < x.length := by simpa using List.mem_of_getElem? hj'
      obtain ⟨w1, w2, _⟩ := way_ok hx hl (N := N) hi hjl
      exact Ev.callf 19 (by decide) rfl rfl (Evs.cons (Ev.name rfl rfl) (Evs.cons (Ev.name rfl rfl) Evs.nil)) ((f_as (cs := wayT N x i j') w1 (by omega)).le (by omega))
end
end Mine
end
section
open PySem PyProof.Rows PySem.SeqAt
set_option maxRecDepth 100000
set_option linter.unusedVariables false
set_option linter.unusedSimpArgs false
namespace Mine
def ρ3 (o : Bool) (N : List Nat) (x : List PP) : List (Str × B) := (Str.ofString "ways", .dat (.list (waysD o N x x.length))) :: (Str.ofString "many", .dat (.range 0 x.length 1)) :: ρ2 o N x
def othN (n i : Nat) : List Nat := (List.range n).filter fun j => decide (j ≠ i)
theorem oth_mem {n i j : Nat} (h : j ∈ othN n i) : j < n ∧ j ≠ i := by
  unfold othN at h
  obtain ⟨h1, h2⟩ := List.mem_filter.mp h
  exact ⟨by simpa using h1, by simpa using h2⟩
theorem oth_ne {n i : Nat} (hn : 3 ≤ n) : ∃ j js, othN n i = j :: js := by
  have : (if i = 0 then 1 else 0) ∈ othN n i := by
    unfold othN
    refine List.mem_filter.mpr ⟨?_, ?_⟩
    · simp; split <;> omega
    · simp; split <;> omega
  cases h : othN n i with
  | nil => rw [h] at this; cases this
  | cons j js => exact ⟨j, js, rfl⟩
def othF (i : Nat) : D → Option D
  | .int m => if m ≠ (i : Int) then some (.int m) else none
  | _ => none
theorem othF_yes {i j : Nat} (h : j ≠ i) : othF i (.int (j : Int)) = some (.int (j : Int)) := by
  exact if_pos (show (j : Int) ≠ (i : Int) by omega)
theorem othF_no {i j : Nat} (h : j = i) : othF i (.int (j : Int)) = none := by
  exact if_neg (show ¬ (j : Int) ≠ (i : Int) by omega)
theorem oth_outs (i : Nat) : ∀ l : List Nat, (l.map fun (j : Nat) => D.int (j : Int)).filterMap (othF i) = (l.filter fun j => decide (j ≠ i)).map fun (j : Nat) => D.int (j : Int)
  | [] => rfl
  | j :: l => by
    rw [List.map_cons, List.filterMap_cons, List.filter_cons]
    by_cases q : j = i
    · rw [othF_no q, if_neg (by simp [q])]; exact oth_outs i l
    · rw [othF_yes q, if_pos (by simp [q]), List.map_cons]
      exact congrArg _ (oth_outs i l)
theorem ints_get {l : List Nat} {k : Nat} {d : D} (h : (l.map fun (j : Nat) => D.int (j : Int))[k]? = some d) : ∃ j ∈ l, d = .int (j : Nat) := by
  rw [List.getElem?_map] at h
  obtain ⟨y, hy, rfl⟩ := Option.map_eq_some_iff.mp h
  exact ⟨y, List.mem_of_getElem? hy, rfl⟩
theorem ways_at {o : Bool} {N : List Nat} {x : List PP} {i : Nat} (hi : i < x.length) : (waysD o N x x.length)[i]? = some (LT o (waysRow N x i)) := by
  unfold waysD
  rw [List.getElem?_map, List.getElem?_range hi]; rfl
theorem row_at {N : List Nat} {x : List PP} {i j : Nat} (hj : j < x.length) : (waysRow N x i)[j]? = some (wayT N x i j) := by
  unfold waysRow
  rw [List.getElem?_map, List.getElem?_range hj]; rfl
theorem join_head {T : List (List Nat)} (h : ∀ y ∈ T, OkS y) : headIs 47 (joinL 47 T) = false := by
  cases T with
  | nil => rfl
  | cons y T =>
    have hy := h y List.mem_cons_self
    cases y with
    | nil => exact absurd rfl hy.2.1
    | cons c y =>
      have : c ≠ 47 := fun e => hy.1.1 (by rw [e]; exact List.mem_cons_self)
      cases T with
      | nil => simp [joinL, headIs, this]
      | cons z T => simp [joinL, headIs, this]
section
variable {prog : Program} {w : World}
theorem f_norm {o : Bool} {p : List Nat} (h : ∃ c r, p = 47 :: c :: r ∧ c ≠ 47 ∧ r.length ≤ 9000) : Cl prog w 4 (dfn 16).name [.txt o p] (.txt o (normS p)) := by
  obtain ⟨c, r, rfl, hc, hl⟩ := h
  exact f_normpath hc hl
theorem crook_shape {l : List (List Nat)} {b : List Nat} (h : (crookedN l).length + b.length ≤ 8000) : ∃ c r, joinT (crookedN l) b = 47 :: c :: r ∧ c ≠ 47 ∧ r.length ≤ 9000 := by
  unfold joinT
  unfold crookedN at *
  split
  · exact ⟨46, 47 :: (joinL 47 l ++ b), rfl, by decide, by simp at h ⊢; omega⟩
  · exact ⟨46, 47 :: (joinL 47 l ++ 47 :: b), rfl, by decide, by simp at h ⊢; omega⟩
/-- commonpath of ways that lead from one place -/
theorem f_ways {o : Bool} {N : List Nat} {x : List PP} {i j0 : Nat} {js : List Nat} (hx : OkB x) (hl : x.length ≤ 5) (hi : i < x.length) (hj : ∀ j ∈ j0 :: js, j < x.length) (hjl : (j0 :: js).length ≤ 50) :
    Cl prog w 11 (dfn 17).name [.list (txts o ((j0 :: js).map (wayT N x i)))] (.txt o (joinL 47 (lcpAll (stepsN (pl x i) (pl x j0)) ((js.map (pl x)).map (stepsN (pl x i)))))) := by
  have := f_commonpath (prog := prog) (w := w) (o := o) (p0 := wayT N x i j0) (ps := js.map (wayT N x i)) (ab := false) (fun p hp => by
    obtain ⟨j, hjm, rfl⟩ := List.mem_map.mp (show p ∈ (j0 :: js).map (wayT N x i) from hp)
    exact (way_ok hx hl hi (hj j hjm)).2.2.1) (by simp at hjl ⊢; omega) (fun p hp => by
    obtain ⟨j, hjm, rfl⟩ := List.mem_map.mp (show p ∈ (j0 :: js).map (wayT N x i) from hp)
    have := (way_ok hx hl (N := N) hi (hj j hjm)).2.1
    omega)
  have e0 := (way_ok hx hl (N := N) hi (hj j0 List.mem_cons_self)).2.2.2
  have e1 : (js.map (wayT N x i)).map compsOf = (js.map (pl x)).map (stepsN (pl x i)) := by
    rw [List.map_map, List.map_map]
    exact List.map_congr_left fun j hjm => (way_ok hx hl hi (hj j (List.mem_cons_of_mem _ hjm))).2.2.2
  rw [e0, e1, lcp_minmax] at this
  exact this
set_option maxHeartbeats 4000000 in
theorem law_check {A : Around} {s₀ sb : Shared} {Y X : List Addr} {pm code doc : Value} {L a : Addr} {o : Bool} {N : List Nat} {x : List PP} {i : Nat} {Q : Flow → Shared → Prop} (R : Rm 11 A) (hx : OkB x) (hl : x.length ≤ 5) (hl3 : 3 ≤ x.length) (hi : i < x.length)
    (hQ : ∀ s, G s₀ sb Y (envF 27 pm code doc L a) X (ρ3 o N x) s → Q .next s) :
    Run prog w A s₀ sb Y (envF 27 pm code doc L a) X ((Str.ofString "i", .dat (.int i)) :: ρ3 o N x) (lawFor 9) Q := by
  conv in lawFor 9 => whnf
  obtain ⟨a1, a2, a3, a4, a5⟩ := ok_at hx hl hi
  obtain ⟨j0, js, hoth⟩ := oth_ne (i := i) hl3
  have hjm : ∀ j ∈ j0 :: js, j < x.length := fun j hj => (oth_mem (hoth ▸ hj)).1
  have hjl : (j0 :: js).length ≤ 5 := by
    rw [← hoth]; unfold othN
    have := List.length_filter_le (fun j => decide (j ≠ i)) (List.range x.length)
    simp at this ⊢; omega
  obtain ⟨b1, b2, _⟩ := ok_at hx hl (hjm j0 List.mem_cons_self)
  have hgs : ∀ g ∈ pl x j0 :: js.map (pl x), OkP g := fun g hg => by
    obtain ⟨j, hj, rfl⟩ := List.mem_map.mp (show g ∈ (j0 :: js).map (pl x) from hg)
    exact (ok_at hx hl (hjm j hj)).1
  have htog := together (s := pl x i) (g0 := pl x j0) (gs := js.map (pl x)) a1 hgs
  have hT1 := (lcpAll_le ((js.map (pl x)).map (stepsN (pl x i))) (stepsN (pl x i) (pl x j0))).1
  have hfw := f_ways (prog := prog) (w := w) (o := o) (N := N) (i := i) (j0 := j0) (js := js) hx hl hi hjm (by omega)
  generalize hT : lcpAll (stepsN (pl x i) (pl x j0)) ((js.map (pl x)).map (stepsN (pl x i))) = T at htog hT1 hfw
  have hs0 := steps_ok (s := pl x i) b1
  have hsl := steps_le (s := pl x i) (g := pl x j0)
  have hTs : ∀ y ∈ T, OkS y := fun y hy => hs0 y (hT1.subset hy)
  have hTl : T.length ≤ 50 := by have := hT1.length_le; omega
  have hTt : (stepsN (pl x i) (pl x j0)).take T.length = T := (List.prefix_iff_eq_take.mp hT1).symm
  have hra := route_at a1 b1 hT1.length_le
  rw [hTt] at hra
  have hdest : OkP (T.foldl normStep (pl x i)) := fold_okS a1 hTs
  have hdl := foldN_len T (pl x i)
  have hjT := joinL_le2 fun y hy => (hTs y hy).1
  have hjT2 : (T.map List.length).sum ≤ 2 * T.length := sum2 fun y hy => (hTs y hy).1.2.1
  have hjd := joinL_le2 fun y hy => (hdest y hy).1
  have hjd2 : ((T.foldl normStep (pl x i)).map List.length).sum ≤ 2 * (T.foldl normStep (pl x i)).length := sum2 fun y hy => (hdest y hy).1.2.1
  have hcr : (crookedN (pc x i)).length ≤ 100 := by
    have := joinL_le2 a3
    unfold crookedN; simp; omega
  have hnj := norm_join (l := pc x i) (T := T) a3 fun y hy => (hTs y hy).1.1
  rw [← a4] at hnj
  have hrl : ∀ r ∈ (pl x j0 :: js.map (pl x)).map (routeN (pl x i)), r.length ≤ 1000 := fun r hr => by
    obtain ⟨g, hg, rfl⟩ := List.mem_map.mp hr
    obtain ⟨j, hj, rfl⟩ := List.mem_map.mp (show g ∈ (j0 :: js).map (pl x) from hg)
    have := (ok_at hx hl (hjm j hj)).2.1
    have := steps_le (s := pl x i) (g := pl x j)
    rw [route_len]; omega
  refine Run.assignComp (outs := (j0 :: js).map fun (j : Nat) => D.int (j : Int)) R ⟨rfl, rfl, by decide, fun _ => rfl, ?_⟩ (.inl rfl) ?_
  · refine ⟨_, _, (othF i), (fun d ρ => (Str.ofString "j", .dat d) :: ρ), [(Str.ofString "i", .dat (.int i))], Ev.name rfl rfl, items_many (by omega), by simp; omega, ?_, ⟨rfl, trivial⟩, rfl, AllDat.get (by trivial), fun C i di h => CTgt.name rfl, .inl ⟨_, _, rfl⟩, fun C j di h => ?_, fun C j di y h hy => ?_⟩
    · rw [← hoth]
      exact oth_outs i _
    · obtain ⟨_, rfl⟩ := range_get h
      refine Tb.eq (Tb.compare (Ev.name rfl rfl) (Ev.name rfl rfl) c_ne) ?_
      by_cases q : j = i
      · rw [othF_no q, q]; simp
      · rw [othF_yes q]
        have : ((j : Int) != (i : Int)) = true := by simp [q]; omega
        rw [this]; rfl
    · obtain ⟨hj, rfl⟩ := range_get h
      have e : D.int (j : Int) = y := by
        by_cases q : j = i
        · rw [othF_no q] at hy; cases hy
        · rw [othF_yes q] at hy; exact Option.some.inj hy
      subst e
      exact Ev.name rfl rfl
  refine Run.assignComp (outs := ((pl x j0 :: js.map (pl x)).map (routeN (pl x i))).map (LLT false)) R ⟨rfl, rfl, by decide, fun _ => rfl, ?_⟩ (.inl rfl) ?_
  · refine ⟨_, _, (fun d => match d with | .int m => some (LLT false (routeN (pl x i) (pl x m.toNat))) | _ => none), (fun d ρ => (Str.ofString "j", .dat d) :: ρ), [(Str.ofString "i", .dat (.int i)), (Str.ofString "places", .dat (.list (placesD x)))], Ev.name rfl rfl, rfl, by simp at hjl ⊢; omega, ?_, ⟨rfl, rfl, trivial⟩, rfl, AllDat.get (by trivial), fun C i di h => CTgt.name rfl, .inl ⟨_, _, rfl⟩, fun C j di h => ?_, fun C j di y h hy => ?_⟩
    · rw [List.filterMap_map]
      rw [show ((fun d => match d with | D.int m => some (LLT false (routeN (pl x i) (pl x m.toNat))) | _ => none) ∘ fun (j : Nat) => D.int (j : Int)) = (some ∘ fun j => LLT false (routeN (pl x i) (pl x j))) from rfl, List.filterMap_eq_map, ← List.map_cons, List.map_map, List.map_map]
      rfl
    · obtain ⟨j', _, rfl⟩ := ints_get h
      rfl
    · obtain ⟨j', hj', rfl⟩ := ints_get h
      cases hy
      have hjx := hjm j' hj'
      have c2 := (ok_at hx hl hjx).2.1
      exact Ev.callf 24 (by decide) rfl rfl (Evs.cons (Ev.item (Ev.name rfl rfl) (Ev.name rfl rfl) (i_list (places_at hi) (by omega))) (Evs.cons (Ev.item (Ev.name rfl rfl) (Ev.name rfl rfl) (i_list (places_at hjx) (by omega))) Evs.nil)) ((f_route (s := pl x i) (g := pl x j') (by omega) (by omega)).le (by omega))
  refine Run.assign (d := .int (T.length + 1 : Nat)) R (Ev.callf 26 (by decide) rfl rfl (Evs.cons (Ev.name rfl rfl) Evs.nil) ((f_together (r0 := routeN (pl x i) (pl x j0)) (rs := (js.map (pl x)).map (routeN (pl x i))) (t := T.length) htog.1 htog.2 (by simp at hjl ⊢; omega) hrl (by omega)).le (by omega))) (.inl rfl) ?_
  have hcut : D.list ((txts false (stepsN (pl x i) (pl x j0))).take T.length) = LT false T := by
    rw [LT_take, hTt]
  refine Run.assign (d := LT false T) R (Ev.eq (Ev.cut (Ev.callf 23 (by decide) rfl rfl (Evs.cons (Ev.item (Ev.name rfl rfl) (Ev.name rfl rfl) (i_list (places_at hi) (by omega))) (Evs.cons (Ev.item (Ev.name rfl rfl) (Ev.item (Ev.name rfl rfl) Ev.int (i_list (i := 0) (d := .int (j0 : Nat)) rfl (by omega))) (i_list (places_at (hjm j0 List.mem_cons_self)) (by have := hjm j0 List.mem_cons_self; omega))) Evs.nil)) ((f_steps (s := pl x i) (g := pl x j0) (by omega) (by omega)).le (by omega)))
    rfl ⟨(T.length : Nat), rfl, Ev.eq (d' := .int (T.length : Nat)) (Ev.binop (Ev.name rfl rfl) Ev.int o_sub) (by congr 1; omega)⟩ rfl (cut_to (ds := txts false (stepsN (pl x i) (pl x j0))) T.length (by rw [txts_len]; omega))) hcut) (.inl rfl) ?_
  refine Run.assign (d := .txt o (joinL 47 T)) R (Ev.callf 17 (by decide) rfl rfl (Evs.cons (EvN.ev (CompOk.evn (outs := txts o ((j0 :: js).map (wayT N x i))) ⟨rfl, rfl, by decide, fun _ => rfl, ?_⟩)) Evs.nil) hfw) (.inl rfl) ?_
  · refine ⟨_, _, (fun d => match d with | .int m => some (.txt o (wayT N x i m.toNat)) | _ => none), (fun d ρ => (Str.ofString "j", .dat d) :: ρ), [(Str.ofString "i", .dat (.int i)), (Str.ofString "ways", .dat (.list (waysD o N x x.length)))], Ev.name rfl rfl, rfl, by simp at hjl ⊢; omega, ?_, ⟨rfl, rfl, trivial⟩, rfl, AllDat.get (by trivial), fun C i di h => CTgt.name rfl, .inl ⟨_, _, rfl⟩, fun C j di h => ?_, fun C j di y h hy => ?_⟩
    · rw [List.filterMap_map]
      rw [show ((fun d => match d with | D.int m => some (D.txt o (wayT N x i m.toNat)) | _ => none) ∘ fun (j : Nat) => D.int (j : Int)) = (some ∘ fun j => D.txt o (wayT N x i j)) from rfl, List.filterMap_eq_map]
      unfold txts
      rw [List.map_map]; rfl
    · obtain ⟨j', _, rfl⟩ := ints_get h
      rfl
    · obtain ⟨j', hj', rfl⟩ := ints_get h
      cases hy
      have hjx := hjm j' hj'
      exact Ev.item (Ev.item (Ev.name rfl rfl) (Ev.name rfl rfl) (i_list (ways_at hi) (by omega))) (Ev.name rfl rfl) (i_list (txts_getL (row_at hjx)) (by omega))
  refine Run.ite (b := false) R (Tb.eq (Tb.compare (Ev.name rfl rfl) (Ev.callf 19 (by decide) rfl rfl (Evs.cons (Ev.meth (Ev.str (cs := [47]) rfl) (Evs.cons (Ev.name rfl rfl) Evs.nil) (m_join (ps := T) (by omega))) (Evs.cons (Ev.name rfl rfl) Evs.nil)) ((f_as (cs := joinL 47 T) (joinL_lt fun y hy => (hTs y hy).1.2.2) (by omega)).le (by omega))) c_neT) (by simp)) (fun e => by cases e) (fun _ => Run.nil fun s g => then_run g ?_)
  have hfn : Cl prog w 11 (dfn 16).name [.txt o (joinT (crookedN (pc x i)) (joinL 47 T))] (.txt o (47 :: joinL 47 (T.foldl normStep (pl x i)))) := by
    rw [← hnj]; exact (f_norm (crook_shape (by omega))).le (by omega)
  have hdlt : ∀ c ∈ 47 :: joinL 47 (T.foldl normStep (pl x i)), c < 256 := fun c hc => by
    rcases List.mem_cons.mp hc with rfl | hc
    · omega
    · exact joinL_lt (fun y hy => (hdest y hy).1.2.2) c hc
  refine Run.ite (b := false) R (Tb.eq (Tb.compare (Ev.callf 16 (by decide) rfl rfl (Evs.cons (Ev.callf 14 (by decide) rfl rfl (Evs.cons (Ev.item (Ev.name rfl rfl) (Ev.name rfl rfl) (i_list (crooked_at hi) (by omega))) (Evs.cons (Ev.name rfl rfl) Evs.nil)) ((f_join (a := crookedN (pc x i)) (b := joinL 47 T) (by unfold crookedN; simp) (join_head hTs) (by omega)).le (by omega))) Evs.nil) hfn)
    (Ev.callf 19 (by decide) rfl rfl (Evs.cons (Ev.eq (d' := .txt false (47 :: joinL 47 (T.foldl normStep (pl x i)))) (Ev.binop (Ev.str (cs := [47]) rfl) (Ev.meth (Ev.str (cs := [47]) rfl) (Evs.cons (Ev.item (Ev.item (Ev.name rfl rfl) Ev.int (i_list (i := 0) (d := LLT false (routeN (pl x i) (pl x j0))) rfl (by omega))) (Ev.eq (d' := .int (T.length : Nat)) (Ev.binop (Ev.name rfl rfl) Ev.int o_sub) (by congr 1; omega)) (i_list (d := LT false (T.foldl normStep (pl x i))) (by rw [List.getElem?_map, hra]; rfl) (by omega))) Evs.nil) (m_join (ps := T.foldl normStep (pl x i)) (by omega))) (o_addT (by simp; omega))) rfl) (Evs.cons (Ev.name rfl rfl) Evs.nil)) ((f_as (cs := 47 :: joinL 47 (T.foldl normStep (pl x i))) hdlt (by simp; omega)).le (by omega))) c_neT) (by simp)) (fun e => by cases e) (fun _ => Run.nil fun s g => then_nil (hQ s (g.weak ⟨rfl, rfl, rfl, rfl, rfl, rfl, trivial⟩)))
end
end Mine
end
section
open PySem PyProof.Rows PySem.SeqAt
set_option maxRecDepth 100000
set_option linter.unusedVariables false
set_option linter.unusedSimpArgs false
namespace Mine
def plainD (o : Bool) (x : List PP) : List D := x.map fun p => .txt o (textP p.1)
def ρ4 (o : Bool) (N : List Nat) (x : List PP) : List (Str × B) := (Str.ofString "plain", .dat (.list (plainD o x))) :: ρ3 o N x
theorem plain_at {o : Bool} {x : List PP} {i : Nat} (hi : i < x.length) : (plainD o x)[i]? = some (.txt o (textP (pl x i))) := by
  have e : x.getD i ([], []) = x[i] := by simp [List.getD, hi]
  unfold plainD pl
  rw [List.getElem?_map, List.getElem?_eq_getElem hi, e]; rfl
def lawTri : List Stmt := match lawFor 11 with
  | (.For _ _ b _ _) :: _ => match b with
    | (.For _ _ c _ _) :: _ => c
    | _ => []
  | _ => []
def triD (p q r : Nat) : D := .tup [.int (p : Nat), .int (q : Nat), .int (r : Nat)]
def triF (g : Nat → Nat → Nat → D) : D → Option D
  | .tup [.int p, .int q, .int r] => some (g p.toNat q.toNat r.toNat)
  | _ => none
def triE : D → List (Str × B) → List (Str × B)
  | .tup [a, b, c], ρ => (Str.ofString "r", .dat c) :: (Str.ofString "q", .dat b) :: (Str.ofString "p", .dat a) :: ρ
  | _, ρ => ρ
theorem tri_get {a b c : D} {i : Nat} {d : D} (h : [a, b, c][i]? = some d) : d = a ∨ d = b ∨ d = c := by
  match i, h with
  | 0, h => cases h; exact .inl rfl
  | 1, h => cases h; exact .inr (.inl rfl)
  | 2, h => cases h; exact .inr (.inr rfl)
  | i + 3, h => simp at h
section
variable {prog : Program} {w : World}
/-- commonpath of two places -/
theorem f_meet {o : Bool} {X Y : List (List Nat)} (hX : OkP X) (hY : OkP Y) (hx : X.length ≤ 25) (hy : Y.length ≤ 25) : Cl prog w 11 (dfn 17).name [.list [.txt o (textP X), .txt o (textP Y)]] (.txt o (textP (lcp X Y))) := by
  have lx := joinL_le2 fun y hy => (hX y hy).1
  have ly := joinL_le2 fun y hy => (hY y hy).1
  have := f_commonpath (prog := prog) (w := w) (o := o) (p0 := textP X) (ps := [textP Y]) (ab := true) (fun p hp => by
    simp at hp; rcases hp with rfl | rfl <;> rfl) (by simp) (fun p hp => by
    simp at hp; rcases hp with rfl | rfl <;> (unfold textP; simp; omega))
  rw [lcp_minmax] at this
  have e1 : compsOf (textP X) = X := comps_abs fun y hy => (hX y hy).s
  have e2 : compsOf (textP Y) = Y := comps_abs fun y hy => (hY y hy).s
  simp only [List.map_cons, List.map_nil] at this
  rw [e1, e2] at this
  exact this
/-- where the ways from p to q and r part -/
theorem f_told {o : Bool} {x : List PP} {p q r : Nat} (hx : OkB x) (hl : x.length ≤ 5) (hp : p < x.length) (hq : q < x.length) (hr : r < x.length) :
    (∀ y ∈ lcp (stepsN (pl x p) (pl x q)) (stepsN (pl x p) (pl x r)), OkS y) ∧ (joinL 47 (lcp (stepsN (pl x p) (pl x q)) (stepsN (pl x p) (pl x r)))).length ≤ 200 ∧ (crookedN (pc x p)).length ≤ 100 ∧
    Cl prog w 11 (dfn 16).name [.txt o (joinT (crookedN (pc x p)) (joinL 47 (lcp (stepsN (pl x p) (pl x q)) (stepsN (pl x p) (pl x r)))))] (.txt o (textP (med (pl x p) (pl x q) (pl x r)))) := by
  obtain ⟨a1, a2, a3, a4, a5⟩ := ok_at hx hl hp
  obtain ⟨b1, b2, _⟩ := ok_at hx hl hq
  have hs := steps_ok (s := pl x p) b1
  have hT := lcp_left (stepsN (pl x p) (pl x q)) (stepsN (pl x p) (pl x r))
  have hTs : ∀ y ∈ lcp (stepsN (pl x p) (pl x q)) (stepsN (pl x p) (pl x r)), OkS y := fun y hy => hs y (hT.subset hy)
  have hsl := steps_le (s := pl x p) (g := pl x q)
  have hTl := hT.length_le
  have hj := joinL_le2 fun y hy => (hTs y hy).1
  have hcr : (crookedN (pc x p)).length ≤ 100 := by
    have := joinL_le2 a3
    unfold crookedN; simp; omega
  have hnj := norm_join (l := pc x p) (T := lcp (stepsN (pl x p) (pl x q)) (stepsN (pl x p) (pl x r))) a3 fun y hy => (hTs y hy).1.1
  rw [← a4] at hnj
  refine ⟨hTs, by omega, hcr, ?_⟩
  have : textP (med (pl x p) (pl x q) (pl x r)) = normS (joinT (crookedN (pc x p)) (joinL 47 (lcp (stepsN (pl x p) (pl x q)) (stepsN (pl x p) (pl x r))))) := hnj.symm
  rw [this]
  exact (f_norm (crook_shape (by omega))).le (by omega)
end
end Mine
end
section
open PySem PyProof.Rows PySem.SeqAt
set_option maxRecDepth 100000
set_option linter.unusedVariables false
set_option linter.unusedSimpArgs false
namespace Mine
section
variable {prog : Program} {w : World}
theorem law_deep {A : Around} {s₀ sb : Shared} {Y X : List Addr} {pm code doc : Value} {L a : Addr} {o : Bool} {T1 T2 T3 M : List Nat} {ρ : List (Str × B)} {Q : Flow → Shared → Prop} (R : Rm 11 A)
    (h1 : T1.length ≤ 1000) (h2 : T2.length ≤ 1000) (h3 : T3.length ≤ 1000) (hM : M = T1 ∨ M = T2 ∨ M = T3) (hl : ∀ t, t = T1 ∨ t = T2 ∨ t = T3 → t = M ∨ t.length < M.length)
    (hQ : ∀ s, G s₀ sb Y (envF 27 pm code doc L a) X ((Str.ofString "deepest", .dat (.txt o M)) :: (Str.ofString "meets", .dat (.list (txts o [T1, T2, T3]))) :: (Str.ofString "told", .dat (.list (txts o [M, M, M]))) :: ρ) s → Q .next s) :
    Run prog w A s₀ sb Y (envF 27 pm code doc L a) X ((Str.ofString "meets", .dat (.list (txts o [T1, T2, T3]))) :: (Str.ofString "told", .dat (.list (txts o [M, M, M]))) :: ρ) (lawTri.drop 3) Q := by
  conv in lawTri.drop 3 => whnf
  have hll : ∀ t, t = T1 ∨ t = T2 ∨ t = T3 → t.length ≤ 1000 := fun t ht => by rcases ht with rfl | rfl | rfl <;> assumption
  let P : List Nat → Int × List Nat := fun t => ((t.length : Int), t)
  have hlast : (order3 [P T1, P T2, P T3]).getLast? = some (P M) := order_last (by rcases hM with h | h | h <;> subst h <;> simp) fun p hp => by
    have : ∃ t, p = P t ∧ (t = T1 ∨ t = T2 ∨ t = T3) := by
      rcases hp with rfl | rfl | rfl
      · exact ⟨_, rfl, .inl rfl⟩
      · exact ⟨_, rfl, .inr (.inl rfl)⟩
      · exact ⟨_, rfl, .inr (.inr rfl)⟩
    obtain ⟨t, rfl, ht⟩ := this
    rcases hl t ht with e | e
    · exact .inl (by rw [e])
    · exact .inr (by show (t.length : Int) < M.length; omega)
  have ho : (order3 [P T1, P T2, P T3]).length = 3 := by unfold order3; rw [List.length_map, Array.length_toList, (leaf3 _).1]
  refine Run.assign (d := .txt o M) R (Ev.item (Ev.item (Ev.callb (f := .builtin "sorted") rfl rfl (fun h t => glbT "sorted" _ (by decide) t) (fun _ e => by cases e) (Evs.cons (CompOk.evn (outs := [P T1, P T2, P T3].map (pairD o)) ⟨rfl, rfl, by decide, fun _ => rfl, ?_⟩).ev Evs.nil) (cl_sorted3 (ts := [P T1, P T2, P T3]) rfl)) (Ev.unop Ev.int o_neg) (i_last (d := pairD o (P M)) (by rw [List.getLast?_map, hlast]; rfl) (by rw [List.length_map, ho]; omega))) Ev.int (i_tup (i := 1) rfl (by omega))) (.inl rfl) ?_
  · refine ⟨_, _, fun d => match d with | .txt _ t => some (pairD o (P t)) | _ => none, fun d ρ => (Str.ofString "meet", .dat d) :: ρ, [], Ev.name rfl rfl, rfl, by simp [txts], rfl, trivial, rfl, AllDat.get (by trivial), fun C n di h => CTgt.name rfl, .inl ⟨_, _, rfl⟩, fun C n di h => ?_, fun C n di y h hy => ?_⟩
    · rcases tri_get h with rfl | rfl | rfl <;> rfl
    · have : ∃ t, di = .txt o t ∧ (t = T1 ∨ t = T2 ∨ t = T3) := by
        rcases tri_get h with rfl | rfl | rfl
        · exact ⟨_, rfl, .inl rfl⟩
        · exact ⟨_, rfl, .inr (.inl rfl)⟩
        · exact ⟨_, rfl, .inr (.inr rfl)⟩
      obtain ⟨t, rfl, ht⟩ := this
      have ht := hll t ht
      cases hy
      exact Ev.tuple (ds := [.int (t.length : Nat), .txt o t]) (Evs.cons (Ev.len rfl (Ev.name rfl rfl) (cl_len_txt (by omega)) rfl) (Evs.cons (Ev.name rfl rfl) Evs.nil))
  · refine Run.ite (b := false) R (Tb.eq (Tb.compare (Ev.name (d := .list (txts o [M, M, M])) rfl rfl) (Ev.binop (Ev.list (Evs.cons (Ev.name (d := .txt o M) rfl rfl) Evs.nil)) Ev.int (o_mulL (n := 3) (by omega) (by omega))) (c_neL (f := fun x => D.txt o x) (X := [M, M, M]) (Y := [M, M, M]) Eqs.txt (by omega))) (by simp)) (fun h => by cases h) fun _ => ?_
    exact Run.nil fun s g => then_nil (hQ s g)
end
end Mine
end
section
open PySem PyProof.Rows PySem.SeqAt
set_option maxRecDepth 100000
set_option linter.unusedVariables false
set_option linter.unusedSimpArgs false
namespace Mine
section
variable {prog : Program} {w : World}
set_option maxHeartbeats 4000000 in
theorem law_tri {A : Around} {s₀ sb : Shared} {Y X : List Addr} {pm code doc : Value} {L a : Addr} {o : Bool} {N : List Nat} {x : List PP} {i j k : Nat} {Q : Flow → Shared → Prop} (R : Rm 11 A) (hx : OkB x) (hl : x.length ≤ 5) (hi : i < x.length) (hj : j < x.length) (hk : k < x.length)
    (hQ : ∀ s, G s₀ sb Y (envF 27 pm code doc L a) X ((Str.ofString "j", .dat (.int j)) :: (Str.ofString "i", .dat (.int i)) :: ρ4 o N x) s → Q .next s) :
    Run prog w A s₀ sb Y (envF 27 pm code doc L a) X ((Str.ofString "k", .dat (.int k)) :: (Str.ofString "j", .dat (.int j)) :: (Str.ofString "i", .dat (.int i)) :: ρ4 o N x) lawTri Q := by
  conv in lawTri => whnf
  have oki := ok_at hx hl hi
  have okj := ok_at hx hl hj
  have okk := ok_at hx hl hk
  obtain ⟨M, hM, m1, m2, m3, mM, mo⟩ := triple oki.1 okj.1 okk.1
  have hcase : ∀ d, d = triD i j k ∨ d = triD j k i ∨ d = triD k i j → ∃ p q r, d = triD p q r ∧ p < x.length ∧ q < x.length ∧ r < x.length := fun d hd => by
    rcases hd with rfl | rfl | rfl
    · exact ⟨i, j, k, rfl, hi, hj, hk⟩
    · exact ⟨j, k, i, rfl, hj, hk, hi⟩
    · exact ⟨k, i, j, rfl, hk, hi, hj⟩
  refine Run.assign (d := .list [triD i j k, triD j k i, triD k i j]) R (Ev.list (Evs.cons (Ev.tuple (ds := [.int (i : Nat), .int (j : Nat), .int (k : Nat)]) (Evs.cons (Ev.name rfl rfl) (Evs.cons (Ev.name rfl rfl) (Evs.cons (Ev.name rfl rfl) Evs.nil)))) (Evs.cons (Ev.tuple (ds := [.int (j : Nat), .int (k : Nat), .int (i : Nat)]) (Evs.cons (Ev.name rfl rfl) (Evs.cons (Ev.name rfl rfl) (Evs.cons (Ev.name rfl rfl) Evs.nil))))
    (Evs.cons (Ev.tuple (ds := [.int (k : Nat), .int (i : Nat), .int (j : Nat)]) (Evs.cons (Ev.name rfl rfl) (Evs.cons (Ev.name rfl rfl) (Evs.cons (Ev.name rfl rfl) Evs.nil)))) Evs.nil)))) (.inl rfl) ?_
  refine Run.assignComp (outs := txts o [textP M, textP M, textP M]) R ⟨rfl, rfl, by decide, fun _ => rfl, ?_⟩ (.inl rfl) ?_
  · refine ⟨_, _, triF fun p q r => .txt o (textP (med (pl x p) (pl x q) (pl x r))), triE, [(Str.ofString "crooked", .dat (.list (crookedD o x))), (Str.ofString "ways", .dat (.list (waysD o N x x.length)))], Ev.name rfl rfl, rfl, by simp, ?_, ⟨rfl, rfl, trivial⟩, rfl, AllDat.get (by trivial), fun C n di h => ?_, .inr ⟨_, _, _, rfl⟩, fun C n di h => ?_, fun C n di y h hy => ?_⟩
    · show [D.txt o (textP (med (pl x i) (pl x j) (pl x k))), D.txt o (textP (med (pl x j) (pl x k) (pl x i))), D.txt o (textP (med (pl x k) (pl x i) (pl x j)))] = _
      rw [m1, m2, m3]; rfl
    · obtain ⟨p, q, r, rfl, _⟩ := hcase di (tri_get h)
      exact CTgt.tuple3 rfl rfl rfl
    · obtain ⟨p, q, r, rfl, _⟩ := hcase di (tri_get h)
      rfl
    · obtain ⟨p, q, r, rfl, hp, hq, hr⟩ := hcase di (tri_get h)
      cases hy
      obtain ⟨t1, t2, t3, t4⟩ := f_told (prog := prog) (w := w) (o := o) hx hl hp hq hr
      have hfw := f_ways (prog := prog) (w := w) (o := o) (N := N) (i := p) (j0 := q) (js := [r]) hx hl hp (fun j hj => by simp at hj; rcases hj with rfl | rfl <;> assumption) (by simp)
      exact Ev.callf 16 (by decide) rfl rfl (Evs.cons (Ev.callf 14 (by decide) rfl rfl (Evs.cons (Ev.item (Ev.name rfl rfl) (Ev.name (d := .int (p : Nat)) rfl rfl) (i_list (crooked_at hp) (by omega))) (Evs.cons (Ev.callf 17 (by decide) rfl rfl (Evs.cons (Ev.list (ds := txts o ([q, r].map (wayT N x p))) (Evs.cons (Ev.item (Ev.item (Ev.name rfl rfl) (Ev.name (d := .int (p : Nat)) rfl rfl) (i_list (ways_at hp) (by omega))) (Ev.name (d := .int (q : Nat)) rfl rfl) (i_list (txts_getL (row_at hq)) (by omega)))
        (Evs.cons (Ev.item (Ev.item (Ev.name rfl rfl) (Ev.name (d := .int (p : Nat)) rfl rfl) (i_list (ways_at hp) (by omega))) (Ev.name (d := .int (r : Nat)) rfl rfl) (i_list (txts_getL (row_at hr)) (by omega))) Evs.nil)) rfl (by simp [txts])) Evs.nil) hfw) Evs.nil)) ((f_join (a := crookedN (pc x p)) (b := joinL 47 (lcp (stepsN (pl x p) (pl x q)) (stepsN (pl x p) (pl x r)))) (by unfold crookedN; simp) (join_head t1) (by omega)).le (by omega))) Evs.nil) t4
  refine Run.assignComp (outs := txts o [textP (lcp (pl x i) (pl x j)), textP (lcp (pl x j) (pl x k)), textP (lcp (pl x k) (pl x i))]) R ⟨rfl, rfl, by decide, fun _ => rfl, ?_⟩ (.inl rfl) ?_
  · refine ⟨_, _, triF fun p q r => .txt o (textP (lcp (pl x p) (pl x q))), triE, [(Str.ofString "plain", .dat (.list (plainD o x)))], Ev.name rfl rfl, rfl, by simp, rfl, ⟨rfl, trivial⟩, rfl, AllDat.get (by trivial), fun C n di h => ?_, .inr ⟨_, _, _, rfl⟩, fun C n di h => ?_, fun C n di y h hy => ?_⟩
    · obtain ⟨p, q, r, rfl, _⟩ := hcase di (tri_get h)
      exact CTgt.tuple3 rfl rfl rfl
    · obtain ⟨p, q, r, rfl, _⟩ := hcase di (tri_get h)
      rfl
    · obtain ⟨p, q, r, rfl, hp, hq, hr⟩ := hcase di (tri_get h)
      cases hy
      have okp := ok_at hx hl hp
      have okq := ok_at hx hl hq
      exact Ev.callf 17 (by decide) rfl rfl (Evs.cons (Ev.list (ds := [.txt o (textP (pl x p)), .txt o (textP (pl x q))]) (Evs.cons (Ev.item (Ev.name rfl rfl) (Ev.name (d := .int (p : Nat)) rfl rfl) (i_list (plain_at hp) (by omega))) (Evs.cons (Ev.item (Ev.name rfl rfl) (Ev.name (d := .int (q : Nat)) rfl rfl) (i_list (plain_at hq) (by omega))) Evs.nil))) Evs.nil) (f_meet okp.1 okq.1 okp.2.1 okq.2.1)
  have hj : ∀ {A B : List (List Nat)}, OkP A → A.length ≤ 25 → (textP (lcp A B)).length ≤ 1000 := fun {A B} hA hl => by
    have hT := lcp_left A B
    have := joinL_le2 fun y hy => (hA y (hT.subset hy)).1
    have := hT.length_le
    unfold textP; simp; omega
  have hmt : M = lcp (pl x i) (pl x j) ∨ M = lcp (pl x j) (pl x k) ∨ M = lcp (pl x k) (pl x i) := mM
  exact law_deep R (hj oki.1 oki.2.1) (hj okj.1 okj.2.1) (hj okk.1 okk.2.1) (by rcases hmt with h | h | h <;> (rw [← h]; simp)) (fun t ht => by
    have : ∃ m, t = textP m ∧ (m = lcp (pl x i) (pl x j) ∨ m = lcp (pl x j) (pl x k) ∨ m = lcp (pl x k) (pl x i)) := by
      rcases ht with rfl | rfl | rfl
      · exact ⟨_, rfl, .inl rfl⟩
      · exact ⟨_, rfl, .inr (.inl rfl)⟩
      · exact ⟨_, rfl, .inr (.inr rfl)⟩
    obtain ⟨m, rfl, hm⟩ := this
    rcases mo m hm with e | ⟨e1, e2⟩
    · exact .inl (by rw [e])
    · exact .inr (text_lt hM e1 e2)) fun s g => hQ s (g.weak ⟨rfl, rfl, rfl, rfl, rfl, rfl, rfl, rfl, rfl, trivial⟩)
end
end Mine
end
section
open PySem PyProof.Rows PySem.SeqAt
set_option maxRecDepth 100000
set_option linter.unusedVariables false
set_option linter.unusedSimpArgs false
namespace Mine
section
variable {prog : Program} {w : World}
theorem crook0 {l : List (List Nat)} (h : (crookedN l).length ≤ 8000) : ∃ c r, crookedN l = 47 :: c :: r ∧ c ≠ 47 ∧ r.length ≤ 9000 := by
  unfold crookedN at *
  exact ⟨46, 47 :: joinL 47 l, rfl, by decide, by simp at h ⊢; omega⟩
set_option maxHeartbeats 4000000 in
/-- the last loop -/
theorem law_last {A : Around} {s₀ : Shared} {Y X : List Addr} {pm code doc : Value} {L a : Addr} {o : Bool} {N : List Nat} {x : List PP} {Q : Flow → Shared → Prop} (R : Rm 11 A) (hx : OkB x) (hl : x.length ≤ 5)
    (hQ : ∀ s v, Ext [] s₀ s → Rep (X ++ Y) s.heap (.bool true) v → Q (.ret v) s) :
    Run prog w A s₀ s₀ Y (envF 27 pm code doc L a) X (ρ4 o N x) (lawDrop 11) Q := by
  conv in lawDrop 11 => whnf
  refine Run.for_ R (Ev.name rfl rfl) (d := .range 0 x.length 1) (items_many (by omega)) (fun _ => ρ4 o N x) (fun di ρ => (Str.ofString "i", .dat di) :: ρ) (fun i di hdi => Tgt.name (.inr ⟨rfl, _, rfl⟩)) ⟨rfl, rfl, rfl, rfl, rfl, rfl, rfl, trivial⟩ ?_ ?_ (.inl ⟨_, _, rfl⟩)
  · intro i di s1 J hdi
    obtain ⟨hi, rfl⟩ := range_get hdi
    refine Run.for_ (d := .range 0 (i : Nat) 1) R (Ev.callb (f := .type "range") rfl rfl (fun h t => glbT "range" _ (by decide) t) (fun _ e => by cases e) (Evs.cons (Ev.name rfl rfl) Evs.nil) cl_range1) (items_many (by omega)) (fun _ => (Str.ofString "i", .dat (.int (i : Nat))) :: ρ4 o N x) (fun di ρ => (Str.ofString "j", .dat di) :: ρ) (fun i di hdi => Tgt.name (.inl rfl)) ⟨rfl, rfl, rfl, rfl, rfl, rfl, rfl, rfl, trivial⟩ ?_ ?_ (.inl ⟨_, _, rfl⟩)
    · intro j di s2 J2 hdj
      obtain ⟨hj, rfl⟩ := range_get hdj
      refine Run.for_ (d := .range 0 (j : Nat) 1) R (Ev.callb (f := .type "range") rfl rfl (fun h t => glbT "range" _ (by decide) t) (fun _ e => by cases e) (Evs.cons (Ev.name rfl rfl) Evs.nil) cl_range1) (items_many (by omega)) (fun _ => (Str.ofString "j", .dat (.int (j : Nat))) :: (Str.ofString "i", .dat (.int (i : Nat))) :: ρ4 o N x) (fun di ρ => (Str.ofString "k", .dat di) :: ρ) (fun i di hdi => Tgt.name (.inl rfl)) ⟨rfl, rfl, rfl, rfl, rfl, rfl, rfl, rfl, rfl, trivial⟩ ?_ ?_ (.inl ⟨_, _, rfl⟩)
      · intro k di s3 J3 hdk
        obtain ⟨hk, rfl⟩ := range_get hdk
        exact law_tri R hx hl hi (by omega) (by omega) fun s g => g
      · exact Run.nil fun s g => g.weak ⟨rfl, rfl, rfl, rfl, rfl, rfl, rfl, rfl, trivial⟩
    · exact Run.nil fun s g => g.weak ⟨rfl, rfl, rfl, rfl, rfl, rfl, rfl, trivial⟩
  · exact Run.ret R Ev.bool hQ
set_option maxHeartbeats 4000000 in
theorem law_tail {A : Around} {s₀ : Shared} {Y X : List Addr} {pm code doc : Value} {L a : Addr} {o : Bool} {N : List Nat} {x : List PP} {Q : Flow → Shared → Prop} (R : Rm 11 A) (hx : OkB x) (hl : x.length ≤ 5) (hl3 : 3 ≤ x.length)
    (hQ : ∀ s v, Ext [] s₀ s → Rep (X ++ Y) s.heap (.bool true) v → Q (.ret v) s) :
    Run prog w A s₀ s₀ Y (envF 27 pm code doc L a) X (ρ3 o N x) (lawDrop 9) Q := by
  conv in lawDrop 9 => whnf
  have hend := law_last (prog := prog) (w := w) (pm := pm) (code := code) (doc := doc) (L := L) (a := a) (o := o) (N := N) R hx hl hQ
  refine Run.for_ R (Ev.name rfl rfl) (d := .range 0 x.length 1) (items_many (by omega)) (fun _ => ρ3 o N x) (fun di ρ => (Str.ofString "i", .dat di) :: ρ) (fun i di hdi => Tgt.name (.inr ⟨rfl, _, rfl⟩)) ⟨rfl, rfl, rfl, rfl, rfl, rfl, trivial⟩ ?_ ?_ (.inl ⟨_, _, rfl⟩)
  · intro i di s1 J hdi
    obtain ⟨hi, rfl⟩ := range_get hdi
    exact law_check R hx hl hl3 hi fun s g => g
  · refine Run.assign (d := .list (plainD o x)) R (CompOk.evn (outs := plainD o x) ⟨rfl, rfl, by decide, fun _ => rfl, ?_⟩).ev (.inr ⟨rfl, _, rfl⟩) hend
    refine ⟨_, _, (fun d => match d with | .txt _ p => some (.txt o (normS p)) | _ => none), (fun d ρ => (Str.ofString "one", .dat d) :: ρ), [], Ev.name (d := .list (crookedD o x)) rfl rfl, rfl, by simp [crookedD]; omega, ?_, trivial, rfl, AllDat.get (by trivial), fun C i di h => CTgt.name rfl, .inl ⟨_, _, rfl⟩, fun C i di h => ?_, fun C i di y h hy => ?_⟩
    · unfold crookedD plainD
      rw [List.filterMap_map]
      have : ∀ l : List PP, (∀ p ∈ l, p ∈ x) → l.filterMap ((fun d => match d with | .txt _ p => some (.txt o (normS p)) | _ => none) ∘ fun p => D.txt o (crookedN p.2)) = l.map fun p => D.txt o (textP p.1) := by
        intro l hlx
        induction l with
        | nil => rfl
        | cons p l ih =>
          have e1 := norm_crooked (hx p (hlx p List.mem_cons_self)).1
          have e2 := (hx p (hlx p List.mem_cons_self)).2.1
          rw [List.filterMap_cons_some (b := D.txt o (textP p.1)) (by
            show some (D.txt o (normS (crookedN p.2))) = _
            rw [e1, ← e2]; rfl), ih fun q hq => hlx q (List.mem_cons_of_mem _ hq)]
          rfl
      exact this x fun p hp => hp
    · unfold crookedD at h
      rw [List.getElem?_map] at h
      obtain ⟨p, hp, rfl⟩ := Option.map_eq_some_iff.mp h
      rfl
    · unfold crookedD at h
      rw [List.getElem?_map] at h
      obtain ⟨p, hp, rfl⟩ := Option.map_eq_some_iff.mp h
      cases hy
      have hpl := crooked_len hx hl p (List.mem_of_getElem? hp)
      exact Ev.callf 16 (by decide) rfl rfl (Evs.cons (Ev.name rfl rfl) Evs.nil) ((f_norm (crook0 (by omega))).le (by omega))
set_option maxHeartbeats 4000000 in
theorem law_body {A : Around} {s₀ : Shared} {Y : List Addr} {pm code doc : Value} {L a : Addr} {zs : List Int} (R : Rm 11 A) (hz : zs.length ≤ 63) :
    Run prog w A s₀ s₀ Y (envF 27 pm code doc L a) (ownX (envF 27 pm code doc L a)) [(Str.ofString "script", .dat (.list (zs.map D.int)))] (dfn 27).body (Gives s₀ Y (.bool true)) := by
  refine law_head R hz ?_
  have hN := nums_lt zs
  obtain ⟨hN3, hN5⟩ := nums_len zs
  generalize numsN zs = N at *
  generalize octN N = o at *
  have hx := build_ok N
  have hlx := build_len N
  generalize buildN N = x at *
  have htail := law_tail (prog := prog) (w := w) (s₀ := s₀) (Y := Y) (X := ownX (envF 27 pm code doc L a)) (pm := pm) (code := code) (doc := doc) (L := L) (a := a) (o := o) (N := N) (Q := Gives s₀ Y (.bool true)) R hx (by omega) (by omega) fun s v e r => gives_of e r
  conv in lawDrop 6 => whnf
  refine Run.assign (d := .range 0 x.length 1) R (Ev.callb (f := .type "range") rfl rfl (fun h t => glbT "range" _ (by decide) t) (fun _ e => by cases e) (Evs.cons (Ev.len (n := x.length) rfl (Ev.name rfl rfl) ((cl_len_list (ds := placesD x) (by simp [placesD]; omega)).eqd (by simp [placesD])) rfl) Evs.nil) cl_range1) (.inl rfl) ?_
  refine Run.newList (.inr ⟨rfl, _, rfl⟩) fun aW haW hbW => ?_
  refine Run.for_ R (Ev.name rfl rfl) (d := .range 0 x.length 1) (items_many (by omega)) (fun i => (Str.ofString "ways", .own aW (waysD o N x i)) :: (Str.ofString "many", .dat (.range 0 x.length 1)) :: ρ2 o N x) (fun di ρ => (Str.ofString "i", .dat di) :: ρ) (fun i di hdi => Tgt.name (.inr ⟨rfl, _, rfl⟩)) ⟨rfl, rfl, rfl, rfl, rfl, rfl, trivial⟩ ?_ ?_ (.inl ⟨_, _, rfl⟩)
  · intro i di s1 J hdi
    obtain ⟨hi, rfl⟩ := range_get hdi
    exact law_ways R hx (by omega) (by omega) hN hi fun s g => g
  · rw [List.length_map, List.length_range]
    exact Run.freeze (X₁ := []) (X₂ := ownX (envF 27 pm code doc L a)) (ρ' := (Str.ofString "many", .dat (.range 0 x.length 1)) :: ρ2 o N x) (x := Str.ofString "ways") (a := aW) rfl rfl haW ⟨rfl, rfl, rfl, rfl, rfl, trivial⟩ (OthAll.hd (by trivial)) hbW htail
end
end Mine
end
section
open PySem PySem.W PyProof.Rows
set_option maxRecDepth 100000
set_option maxHeartbeats 8000000
set_option linter.unusedVariables false
namespace Mine
theorem fnAt_of {p : Program} {loose : List Str} {mean : ExcName → Option Value} {mg mb : Str → Option Value} {h : Heap} {d : DefRec} (T : Top p loose mean mg mb h) (hd : d ∈ recsOf p) : ∃ a, FnAt h d a := by
  obtain ⟨a, o, pm, code, doc, h1, h2, h3, h4⟩ := T.fn d hd
  exact ⟨a, ⟨mg, mb, T.g, T.b, .inl h1⟩, o, pm, code, doc, h2, h3, h4⟩
theorem fns_of {p : Program} (h : [3, 5, 6, 7, 8, 9, 10, 11, 12, 13, 14, 15, 16, 17].map (fun i => (recsOf p)[i]?) = theDefs.map fun i => some (dfn i)) : ∀ i ∈ theDefs, dfn i ∈ recsOf p := by
  intro i hi
  have : some (dfn i) ∈ [3, 5, 6, 7, 8, 9, 10, 11, 12, 13, 14, 15, 16, 17].map fun i => (recsOf p)[i]? := h ▸ List.mem_map_of_mem hi
  obtain ⟨k, _, e⟩ := List.mem_map.mp this
  exact List.mem_of_getElem? e
def freeOf (p : Program) (loose : List Str) : Prop := ∀ x ∈ theBuiltins, Str.ofString x.1 ∉ startupNames ∧ Str.ofString x.1 ∉ loose ∧ Str.ofString x.1 ∉ (recsOf p).map (·.name) ∧ Str.ofString x.1 ∉ (litsOf p).map (·.1) ∧ Str.ofString x.1 ∉ (clssOf p loose).map (·.name) ∧ Str.ofString x.1 ≠ "__name__"
theorem view_blt : ∀ x ∈ theBuiltins, bootBuiltins (Str.ofString x.1) = some x.2 := by decide +kernel
theorem topF_of {p : Program} {loose : List Str} {mean : ExcName → Option Value} {mg mb : Str → Option Value} {h : Heap} (T : Top p loose mean mg mb h) (hf : ∀ i ∈ theDefs, dfn i ∈ recsOf p) (hr : freeOf p loose) : TopF h :=
  ⟨T.nolimit, fun q hq => by
    obtain ⟨h1, h2, h3, h4, h5, h6⟩ := hr q hq
    exact ⟨mg, mb, T.g, T.b, .inr ⟨T.free _ h1 h2 h3 h4 h5, (T.builtins _ h6).trans (view_blt q hq)⟩⟩, fun i hi => fnAt_of T (hf i hi)⟩
theorem fn27 {p : Program} {loose : List Str} {mean : ExcName → Option Value} {mg mb : Str → Option Value} {h : Heap} {fa : Addr} (T : Top p loose mean mg mb h) (hf : (recsOf p)[18]? = some (dfn 27)) (e : mg (Str.ofString "law") = some (.ref fa)) : FnAt h (dfn 27) fa := by
  obtain ⟨a, o, pm, code, doc, h1, h2, h3, h4⟩ := T.fn (dfn 27) (List.mem_of_getElem? hf)
  have h1' : mg (Str.ofString "law") = some (.ref a) := h1
  rw [e] at h1'
  cases h1'
  exact ⟨⟨mg, mb, T.g, T.b, .inl h1⟩, o, pm, code, doc, h2, h3, h4⟩
theorem reps_well {P : Params} {h : Heap} : ∀ (zs : List Int) (vs : List Value), WellAll P h vs (ofPys (zs.map PyData.int)) → Reps [] h (zs.map D.int) vs
  | [], vs, x => by cases x; exact Reps.nil
  | z :: zs, vs, x => by
    cases x with
    | cons a b =>
      cases a
      exact Reps.cons ⟨_, rfl⟩ (reps_well zs _ b)
theorem rep_well {P : Params} {h : Heap} {zs : List Int} {v : Value} (x : Well P h v (ofPy (.list (zs.map PyData.int)))) : Rep [] h (.list (zs.map D.int)) v := by
  cases x with
  | list a b => exact ⟨_, _, rfl, by simp, ⟨_, a⟩, reps_well zs _ b⟩
theorem law_call {prog : Program} {w : World} {s : Shared} {a : Addr} {v : Value} {zs : List Int} (hz : zs.length ≤ 63) (top : TopF s.heap) (F : FnAt s.heap (dfn 27) a) (r : Rep [] s.heap (.list (zs.map D.int)) v) : Tr prog w callerA [] (call (.ref a) [v]) (.bool true) s := by
  refine run_at (k := 11) 27 (xs := [Str.ofString "script"]) (ds := [.list (zs.map D.int)]) rfl (fun pm code doc vs hv => ?_) (fun n x hx => ?_) (h := fun A s₀ Y pm code doc L a R => law_body R hz) (R := ⟨rfl, by decide, by decide⟩) (top := top) (al := fun _ h => by simp at h) (F := F) (r := Reps.cons r Reps.nil)
  · obtain ⟨v, rfl⟩ := List.length_eq_one_iff.mp hv
    rfl
  · rw [List.mem_singleton.mp hx]; left; rfl
/-- the text's top as the head views it: its defs and classes -/
noncomputable def view : Program := { PySem.Challenge.pw_pd0036_01 with main := { PySem.Challenge.pw_pd0036_01.main with body := PySem.Challenge.pw_pd0036_01.main.body.filter fun st => match st with | .FunctionDef .. => true | .ClassDef .. => true | _ => false } }
end Mine
end
open PySem PySem.W PyProof.Rows
set_option maxRecDepth 100000 in
set_option maxHeartbeats 8000000 in
theorem PySem.Challenge.cw_pd0036_01_holds : PySem.Challenge.rw_pd0036_01.Holds := by
  w_on
  o_law
  refine holds_open (q := Mine.view) (loose := []) (Xt := fun s => xlAt Mine.view [] s && recOk (RowW.records (OpenRow.toRowW (OpenLaw.row PySem.Challenge.rw_pd0036_01))) s) (XP := XL Mine.view []) (Yf := Hook.obs Hook.none) (Ya := Hook.val Hook.none) (YP := Hook.says Hook.none) (N := 2432) ?hl (Hook.of Hook.none) (Hook.keeps Hook.none) (fun s e => xl_of s (Bool.and_eq_true_iff.mp e).1) XL.keeps (by rfl) (by rfl) (by rfl) (fun s e => recFacts_of (Bool.and_eq_true_iff.mp e).2) (by rfl) (by first | assumption | decide +kernel) (by decide +kernel) ⟨rfl, rfl, rfl, rfl, rfl, by decide +kernel⟩ ?hw ?hc
  case hw => w_witness2
  case hl => intro w; kernel_rfl
  intro w s₀ s₁ mg mb G Y fa o pm cd doc dV kV ho hd hcd hD hmg hg args vals as hpre hlay hrd hwl hlo
  clear hd hcd hD Y
  refine Ground.open G ?_
  intro T B D TE TW
  wrow_args hpre hlay hrd hwl hlo
  have F := Mine.fn27 T rfl hmg
  have TF := Mine.topF_of T (Mine.fns_of rfl) (by unfold Mine.freeOf; decide +kernel)
  clear hmg
  rename List Int => zs; rename Well _ _ _ _ => hw; rename (¬ ((63 : Nat) : Int) < _) => hz
  refine Mine.wp_no (Mine.law_call (zs := zs) (by omega) TF F (Mine.rep_well hw)) fun v s' ⟨x, r⟩ => ?_
  cases r
  exact ⟨.inl ⟨.bool true, .bool true, [], rfl, raisesW_false (by wrow_none_raised), .bool true, by wrow_post, fun _ => ⟨List.nodup_nil, fun a h => by simp at h⟩⟩, .of_keep x.keep, x.os, .of_eq (x.gens.trans hg)⟩
