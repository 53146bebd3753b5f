import PyProof.Rows.All
import Wide.All
import OpenK.AllK
import KE.KIntText
import Wide.FinOn
import Lean
import PySem.Challenge.RW_pd0064_01
set_option Elab.async false
set_option maxRecDepth 100000
set_option linter.unusedVariables false
set_option linter.unusedSimpArgs false
section
open PySem PySem.W PyProof.Rows
namespace Mine

noncomputable abbrev pw : Program := PySem.Challenge.pw_pd0064_01

/-- the text's statement at a place -/
noncomputable def stAt (k : Nat) : Option Stmt := pw.main.body[k]?
noncomputable def parAt (k : Nat) : Arguments := match stAt k with
  | some (.FunctionDef _ a _ _ _ _ _ _ _ _) => a
  | _ => ⟨[], [], none, [], [], none, []⟩
noncomputable def bodAt (k : Nat) : List Stmt := match stAt k with
  | some (.FunctionDef _ _ b _ _ _ _ _ _ _) => b
  | _ => []
noncomputable def scoAt (k : Nat) : Scope := match stAt k with
  | some (.FunctionDef _ _ _ _ _ _ s _ _ _) => s
  | _ => { kind := .function, names := [], isGenerator := false, isCoroutine := false, more := [] }

/-- plain data -/
inductive Da where
  | str (x : Str)
  | int (i : Int)
  | bool (b : Bool)
  | none
  | atom (v : Value)
  | list (l : List Da)
  | tup (l : List Da)
  deriving Inhabited

noncomputable abbrev lObj (vs : List Value) (n : Nat) : Obj := { cls := .type "list", data := .seq vs.toArray n }
noncomputable abbrev tObj (vs : List Value) (n : Nat) : Obj := { cls := .type "tuple", data := .seq vs.toArray n }
/-- a list's or a tuple's object -/
noncomputable def SeqAt (h : Heap) (a : Addr) (T : String) (vs : List Value) : Prop := ∃ o, h.get? a = some o ∧ o.cls = .type T ∧ ∃ n, o.data = .seq vs.toArray n
theorem SeqAt.list {h : Heap} {a : Addr} {vs : List Value} (x : SeqAt h a "list" vs) : h.IsList a vs.toArray := x
theorem SeqAt.of_list {h : Heap} {a : Addr} {items : Array Value} (x : h.IsList a items) : SeqAt h a "list" items.toList := by
  obtain ⟨o, h1, h2, n, h3⟩ := x
  exact ⟨o, h1, h2, n, by rw [h3]⟩
theorem SeqAt.at {h h' : Heap} {a : Addr} {T : String} {vs : List Value} (x : SeqAt h a T vs) (e : ∀ o, h.get? a = some o → h'.get? a = some o) : SeqAt h' a T vs := by
  obtain ⟨o, h1, r⟩ := x
  exact ⟨o, e o h1, r⟩
theorem SeqAt.some {h : Heap} {a : Addr} {T : String} {vs : List Value} (x : SeqAt h a T vs) : ∃ o, h.get? a = some o := let ⟨o, h1, _⟩ := x; ⟨o, h1⟩
theorem SeqAt.type {s : Shared} {a : Addr} {T : String} {vs : List Value} (x : SeqAt s.heap a T vs) : s.TypeIs (.ref a) T := let ⟨o, h1, h2, _⟩ := x; ⟨o, h1, h2⟩
theorem SeqAt.lnew (h : Heap) (vs : List Value) : SeqAt (h.push { cls := .type "list", data := .seq vs.toArray }) h.objs.size "list" vs := ⟨_, Heap.get?_push_size _ rfl, rfl, 0, rfl⟩
theorem SeqAt.tnew (h : Heap) (vs : List Value) : SeqAt (h.push { cls := .type "tuple", data := .seq vs.toArray }) h.objs.size "tuple" vs := ⟨_, Heap.get?_push_size _ rfl, rfl, 0, rfl⟩

mutual
/-- a heap holds a datum at a value; every object of it is in X -/
noncomputable def Holds (X : Addr → Prop) (h : Heap) : Da → Value → Prop
  | .str x, v => ∃ t, v = .str x t
  | .int i, v => ∃ t, v = .int i t
  | .bool b, v => v = .bool b
  | .none, v => v = .none
  | .atom u, v => v = u
  | .list l, v => ∃ a vs, v = .ref a ∧ X a ∧ SeqAt h a "list" vs ∧ HoldsL X h l vs
  | .tup l, v => ∃ a vs, v = .ref a ∧ X a ∧ SeqAt h a "tuple" vs ∧ HoldsL X h l vs
noncomputable def HoldsL (X : Addr → Prop) (h : Heap) : List Da → List Value → Prop
  | [], vs => vs = []
  | d :: ds, vs => ∃ v r, vs = v :: r ∧ Holds X h d v ∧ HoldsL X h ds r
end

mutual
theorem Holds.ext {X Y : Addr → Prop} {h h' : Heap} (hx : ∀ b o, X b → h.get? b = some o → Y b ∧ h'.get? b = some o) : ∀ {d : Da} {v : Value}, Holds X h d v → Holds Y h' d v
  | .str _, _, x => x
  | .int _, _, x => x
  | .bool _, _, x => x
  | .none, _, x => x
  | .atom _, _, x => x
  | .list l, v, x => by
    obtain ⟨a, vs, rfl, xa, ho, hl⟩ := x
    obtain ⟨o, h1⟩ := ho.some
    exact ⟨a, vs, rfl, (hx a o xa h1).1, ho.at fun o e => (hx a o xa e).2, HoldsL.ext hx hl⟩
  | .tup l, v, x => by
    obtain ⟨a, vs, rfl, xa, ho, hl⟩ := x
    obtain ⟨o, h1⟩ := ho.some
    exact ⟨a, vs, rfl, (hx a o xa h1).1, ho.at fun o e => (hx a o xa e).2, HoldsL.ext hx hl⟩
theorem HoldsL.ext {X Y : Addr → Prop} {h h' : Heap} (hx : ∀ b o, X b → h.get? b = some o → Y b ∧ h'.get? b = some o) : ∀ {ds : List Da} {vs : List Value}, HoldsL X h ds vs → HoldsL Y h' ds vs
  | [], _, x => x
  | d :: ds, vs, x => by
    obtain ⟨v, r, rfl, hd, hr⟩ := x
    exact ⟨v, r, rfl, Holds.ext hx hd, HoldsL.ext hx hr⟩
end

theorem HoldsL.length {X : Addr → Prop} {h : Heap} : ∀ {ds : List Da} {vs : List Value}, HoldsL X h ds vs → vs.length = ds.length
  | [], _, x => by rw [show _ = [] from x]; rfl
  | _ :: ds, _, x => by
    obtain ⟨v, r, rfl, _, hr⟩ := x
    simp [HoldsL.length hr]
theorem HoldsL.get {X : Addr → Prop} {h : Heap} : ∀ {ds : List Da} {vs : List Value}, HoldsL X h ds vs → ∀ {i : Nat} {v : Value}, vs[i]? = some v → ∃ d, ds[i]? = some d ∧ Holds X h d v
  | [], _, x, i, v, e => by rw [show _ = [] from x] at e; simp at e
  | d :: ds, _, x, i, v, e => by
    obtain ⟨u, r, rfl, hd, hr⟩ := x
    cases i with
    | zero => simp at e; subst e; exact ⟨d, rfl, hd⟩
    | succ i => simpa using HoldsL.get hr (by simpa using e)
theorem HoldsL.append {X : Addr → Prop} {h : Heap} : ∀ {ds : List Da} {vs : List Value} {ds' : List Da} {vs' : List Value}, HoldsL X h ds vs → HoldsL X h ds' vs' → HoldsL X h (ds ++ ds') (vs ++ vs')
  | [], _, _, _, x, y => by rw [show _ = [] from x]; exact y
  | _ :: _, _, _, _, x, y => by
    obtain ⟨v, r, rfl, hd, hr⟩ := x
    exact ⟨v, _, rfl, hd, hr.append y⟩
theorem HoldsL.one {X : Addr → Prop} {h : Heap} {d : Da} {v : Value} (x : Holds X h d v) : HoldsL X h [d] [v] := ⟨v, [], rfl, x, rfl⟩

/-- growth -/
noncomputable abbrev Grow (h h' : Heap) : Prop := ∀ b o, h.get? b = some o → h'.get? b = some o
theorem Grow.refl (h : Heap) : Grow h h := fun _ _ e => e
theorem Grow.trans {h h' h'' : Heap} (x : Grow h h') (y : Grow h' h'') : Grow h h'' := fun b o e => y b o (x b o e)

theorem keeps_refl (s : Shared) : Keeps s s := ⟨s.heap, s.toks, rfl, fun _ _ e => e⟩
theorem keeps_tok (s : Shared) (t : Nat) : Keeps s { s with toks := t } := ⟨s.heap, t, rfl, fun _ _ e => e⟩
theorem keeps_heap (s : Shared) {h' : Heap} (x : Grow s.heap h') (t : Nat) : Keeps s { s with heap := h', toks := t } := ⟨h', t, rfl, x⟩
theorem kg {s s' : Shared} (x : Keeps s s') : Grow s.heap s'.heap := by obtain ⟨h, t, rfl, hk⟩ := x; exact hk
theorem kt {s s' s'' : Shared} (x : Keeps s s') (y : Keeps s' s'') : Keeps s s'' := by
  obtain ⟨h, t, rfl, hk⟩ := x
  obtain ⟨h', t', rfl, hk'⟩ := y
  exact ⟨h', t', rfl, fun b o e => hk' b o (hk b o e)⟩

noncomputable abbrev New (h : Heap) (b : Addr) : Prop := h.get? b = none
theorem New.back {h h' : Heap} (g : Grow h h') {b : Addr} (x : New h' b) : New h b := by
  cases e : h.get? b with
  | none => exact e
  | some o => have := g b o e; rw [show h'.get? b = none from x] at this; cases this
theorem new_but {a : Addr} {h h' : Heap} (hs : Heap.SameBut a h h') (ha : ∃ o, h'.get? a = some o) {b : Addr} (hb : New h' b) : New h b := by
  by_cases e : b = a
  · subst e; obtain ⟨o, ho⟩ := ha; rw [show h'.get? b = none from hb] at ho; cases ho
  · exact (hs.2 b e).symm.trans hb
noncomputable abbrev Any (_ : Addr) : Prop := True

theorem Holds.grow {X : Addr → Prop} {h h' : Heap} {d : Da} {v : Value} (x : Holds X h d v) (g : Grow h h') : Holds X h' d v := x.ext fun b o xb e => ⟨xb, g b o e⟩
theorem HoldsL.grow {X : Addr → Prop} {h h' : Heap} {d : List Da} {v : List Value} (x : HoldsL X h d v) (g : Grow h h') : HoldsL X h' d v := x.ext fun b o xb e => ⟨xb, g b o e⟩
theorem Holds.weak {X Y : Addr → Prop} {h : Heap} {d : Da} {v : Value} (x : Holds X h d v) (g : ∀ b, X b → Y b) : Holds Y h d v := x.ext fun b _ xb e => ⟨g b xb, e⟩
theorem HoldsL.weak {X Y : Addr → Prop} {h : Heap} {d : List Da} {v : List Value} (x : HoldsL X h d v) (g : ∀ b, X b → Y b) : HoldsL Y h d v := x.ext fun b _ xb e => ⟨g b xb, e⟩

/-- a def of the text stands at an address -/
noncomputable def FnAt (h : Heap) (a : Addr) (name : Str) (k : Nat) : Prop :=
  ∃ o pm cd doc, h.get? a = some o ∧ o.data = .func (Calls.docDef name (parAt k) (bodAt k) (scoAt k) pm cd doc) ∧ h.CodeRec cd name

theorem FnAt.keeps {h h' : Heap} {a : Addr} {name : Str} {k : Nat} (x : FnAt h a name k) (hk : Grow h h') : FnAt h' a name k := by
  obtain ⟨o, pm, cd, doc, h1, h2, h3⟩ := x
  exact ⟨o, pm, cd, doc, hk _ _ h1, h2, h3.keeps hk⟩

/-- the names of the text's defs, with their places -/
noncomputable def fns : List (Str × Nat) := [("fspath", 9), ("_get_sep", 13), ("dirname", 14), ("commonpath", 15), ("in_table_b1", 18), ("map_table_b3", 20),
  ("_law_gone", 22), ("_law_special", 23), ("_law_path", 24), ("_law_prepared", 25), ("_law_asked", 26), ("_law_above", 27), ("_law_common", 28), ("law", 29)]

/-- the two tables of the text -/
noncomputable def b1L : List Int := [173, 847, 6150, 6155, 6156, 6157, 8203, 8204, 8205, 8288, 65279] ++ (List.range 16).map fun i : Nat => (65024 : Int) + i
noncomputable def b3T : List (Int × Str) := match stAt 19 with
  | some (.Assign _ (.Dict ks vs _) _) => (ks.zip vs).filterMap fun
    | (some (.Constant (.int k) _ _), .Constant (.str x) _ _) => some (k, x)
    | _ => none
  | _ => []
noncomputable def b3 (k : Int) : Option Str := b3T.reverse.lookup k

/-- what the call may lean on -/
structure TopF (mg mb : Str → Option Value) (h : Heap) : Prop where
  g : h.Ns mainGlobals mg
  b : h.Ns builtinsNs mb
  lim : h.NoLimit
  blt : ∀ x : Str, x ≠ "__name__" → mb x = bootBuiltins x
  free : ∀ x ∈ (["type", "issubclass", "str", "bytes", "isinstance", "len", "tuple", "map", "ValueError", "min", "max", "enumerate", "TypeError", "AttributeError", "ord", "chr", "int", "all", "zip", "sum", "range"] : List Str), mg x = none
  fn : ∀ p ∈ fns, ∃ a, mg p.1 = some (.ref a) ∧ FnAt h a p.1 p.2
  b1 : ∃ a o n, mg "b1_set" = some (.ref a) ∧ h.get? a = some o ∧ o.IntSetOf (fun k => b1L.any (· == k)) n ∧ n < scanBound
  b3 : ∃ a f, mg "b3_exceptions" = some (.ref a) ∧ (a == sysModules) = false ∧ (∀ w, h.MapOf (intKind pw w) a f) ∧ ∀ k, (b3 k = none ∧ f k = none) ∨ ∃ x t, b3 k = some x ∧ f k = some (.str x t)

theorem TopF.keeps {mg mb : Str → Option Value} {h h' : Heap} (x : TopF mg mb h) (hk : Grow h h') : TopF mg mb h' :=
  ⟨x.g.keeps hk, x.b.keeps hk, x.lim.keeps hk, x.blt, x.free, fun p hp => let ⟨a, h1, h2⟩ := x.fn p hp; ⟨a, h1, h2.keeps hk⟩,
    let ⟨a, o, n, h1, h2, h3⟩ := x.b1; ⟨a, o, n, h1, hk _ _ h2, h3⟩, let ⟨a, f, h1, h2, h3, h4⟩ := x.b3; ⟨a, f, h1, h2, fun w => let ⟨o, es, ep, g, r⟩ := h3 w; ⟨o, es, ep, hk _ _ g, r⟩, h4⟩⟩

/-- not of the frame's own objects -/
noncomputable def Away (env : Env) (b : Addr) : Prop := b ≠ env.locals ∧ ∀ n c, env.cells.lookup n = some c → b ≠ c

/-- what a block of the text stands on -/
structure Base where
  sh : Shared
  B : Addr → Obj → Prop
noncomputable def Base.of (s : Shared) : Base := ⟨s, fun b o => s.heap.get? b = some o⟩

/-- where a block of the text stands: its names, its cells, its data -/
structure Cx (mg mb : Str → Option Value) (s₀ : Base) (X : Addr → Prop) (env : Env) (l c : List (Str × Value)) (D : List (Da × Value)) (s : Shared) : Prop where
  kind : env.scope.kind = .function
  glob : env.globals = mainGlobals
  blt : env.builtins = builtinsNs
  same : ∃ h tk, s = { s₀.sh with heap := h, toks := tk }
  keep : ∀ b o, s₀.B b o → s.heap.get? b = some o
  top : ∀ h : Heap, (∀ b o, s₀.B b o → h.get? b = some o) → TopF mg mb h
  ns : s.heap.Ns env.locals (fun x => l.lookup x)
  cell : ∀ n c', env.cells.lookup n = some c' → s.heap.IsCell c' (c.lookup n)
  apart : ∀ n n' c', env.cells.lookup n = some c' → env.cells.lookup n' = some c' → n = n'
  off : ∀ n c', env.cells.lookup n = some c' → c' ≠ env.locals
  old : ∀ b o, s₀.B b o → Away env b
  xl : ∀ b, X b → Away env b
  xn : ∀ b, New s.heap b → X b
  led : ∀ p ∈ D, Holds X s.heap p.1 p.2

section
variable {mg mb : Str → Option Value} {s₀ : Base} {s s' : Shared} {X : Addr → Prop} {env : Env} {l c : List (Str × Value)} {D : List (Da × Value)}

theorem Cx.keeps (F : Cx mg mb s₀ X env l c D s) (k : Keeps s s') : Cx mg mb s₀ X env l c D s' := by
  obtain ⟨h, t, rfl, hk⟩ := k
  exact ⟨F.kind, F.glob, F.blt, let ⟨_, _, e⟩ := F.same; ⟨h, t, by rw [e]⟩, fun b o e => hk b o (F.keep b o e), F.top, F.ns.keeps hk, fun n c' e => (F.cell n c' e).keeps hk, F.apart, F.off, F.old, F.xl, fun b hb => F.xn b (New.back hk hb), fun p hp => (F.led p hp).grow hk⟩
theorem Cx.tok (F : Cx mg mb s₀ X env l c D s) (t : Nat) : Cx mg mb s₀ X env l c D { s with toks := t } := F.keeps (keeps_tok s t)
theorem Cx.add (F : Cx mg mb s₀ X env l c D s) {d : Da} {v : Value} (x : Holds X s.heap d v) : Cx mg mb s₀ X env l c ((d, v) :: D) s :=
  ⟨F.kind, F.glob, F.blt, F.same, F.keep, F.top, F.ns, F.cell, F.apart, F.off, F.old, F.xl, F.xn, fun p hp => by
    rcases List.mem_cons.mp hp with rfl | hp
    · exact x
    · exact F.led p hp⟩
theorem Cx.sub (F : Cx mg mb s₀ X env l c D s) {D' : List (Da × Value)} (x : ∀ p ∈ D', p ∈ D) : Cx mg mb s₀ X env l c D' s :=
  ⟨F.kind, F.glob, F.blt, F.same, F.keep, F.top, F.ns, F.cell, F.apart, F.off, F.old, F.xl, F.xn, fun p hp => F.led p (x p hp)⟩
theorem Cx.topNow (F : Cx mg mb s₀ X env l c D s) : TopF mg mb s.heap := F.top _ F.keep
theorem Cx.done {s₁ : Shared} (F : Cx mg mb (.of s₁) X env l c D s) : Keeps s₁ s := by
  obtain ⟨h, t, e⟩ := F.same
  subst e
  exact ⟨h, t, rfl, F.keep⟩
/-- what is new to the state is free -/
theorem Cx.away (F : Cx mg mb s₀ X env l c D s) {b : Addr} (hb : New s.heap b) : X b := F.xn b hb
theorem Cx.fresh (F : Cx mg mb s₀ X env l c D s) {h' : Heap} {d : Da} {v : Value} (x : Holds (New s.heap) h' d v) : Holds X h' d v := x.weak fun _ hb => F.away hb

theorem grow_push (h : Heap) (o : Obj) : Grow h (h.push o) := fun _ _ e => Heap.get?_push_of_some _ e
theorem new_size (h : Heap) : New h h.objs.size := by
  cases e : h.get? h.objs.size with
  | none => exact e
  | some o => exact absurd (Heap.lt_size e) (Nat.lt_irrefl _)
theorem new_ge {h : Heap} {b : Addr} (hb : h.objs.size ≤ b) : New h b := by
  cases e : h.get? b with
  | none => exact e
  | some o => exact absurd (Heap.lt_size e) (Nat.not_lt.mpr hb)

theorem lk_cons (x : Str) (v : Value) (l : List (Str × Value)) : (fun y => if y = x then some v else l.lookup y) = fun y => List.lookup y ((x, v) :: l) := by
  funext y
  rw [List.lookup_cons]
  by_cases h : y = x
  · rw [if_pos h, beq_iff_eq.mpr h]
  · rw [if_neg h, beq_eq_false_iff_ne.mpr h]

variable {M : Model} {A : Around} {E : Value → Shared → Prop}

/-- a store into a local name -/
theorem Cx.st (F : Cx mg mb s₀ X env l c D s) {x : Str} {v : Value} {Q : Unit → Shared → Prop} (hx : env.kindOf x = some .local)
    (h : ∀ s', Cx mg mb s₀ X env ((x, v) :: l) c D s' → Q () s') : wpAny M A (storeName env x v) Q E s := by
  refine wpAny_storeName_local hx F.ns (fun h' hn hs => h _ ?_) (by rw [F.kind]; rfl)
  refine ⟨F.kind, F.glob, F.blt, let ⟨_, _, e⟩ := F.same; ⟨h', _, by rw [e]⟩, fun b o e => hs.extBut b o (F.old b o e).1 (F.keep b o e), F.top, by rw [lk_cons] at hn; exact hn,
    fun n c' e => (F.cell n c' e).sameBut hs (F.off n c' e), F.apart, F.off, F.old, F.xl, fun b hb => F.xn b (new_but hs (let ⟨o, _, _, ho, _⟩ := hn; ⟨o, ho⟩) hb), fun p hp => (F.led p hp).ext fun b o hb e => ⟨hb, hs.extBut b o (F.xl b hb).1 e⟩⟩

/-- a store into a cell -/
theorem Cx.stC (F : Cx mg mb s₀ X env l c D s) {x : Str} {v : Value} {Q : Unit → Shared → Prop} {a : Addr} (hx : env.kindOf x = some .cell) (ha : env.cells.lookup x = some a)
    (h : ∀ s', Cx mg mb s₀ X env l ((x, v) :: c) D s' → Q () s') : wpAny M A (storeName env x v) Q E s := by
  refine wpAny_storeName_cell F.kind hx ha (F.cell x a ha) fun h' hc hs => h _ ?_
  refine ⟨F.kind, F.glob, F.blt, let ⟨_, t, e⟩ := F.same; ⟨h', t, by rw [e]⟩, fun b o e => hs.extBut b o ((F.old b o e).2 x a ha) (F.keep b o e), F.top, F.ns.sameBut hs (Ne.symm (F.off x a ha)),
    fun n c' e => ?_, F.apart, F.off, F.old, F.xl, fun b hb => F.xn b (new_but hs (let ⟨o, ho, _⟩ := hc; ⟨o, ho⟩) hb), fun p hp => (F.led p hp).ext fun b o hb e => ⟨hb, hs.extBut b o ((F.xl b hb).2 x a ha) e⟩⟩
  by_cases hn : n = x
  · subst hn
    rw [ha] at e; cases e
    simpa using hc
  · rw [List.lookup_cons, beq_eq_false_iff_ne.mpr hn]
    exact (F.cell n c' e).sameBut hs fun q => hn (F.apart n x a (by rw [e, q]) ha)

theorem Cx.ldN (F : Cx mg mb s₀ X env l c D s) {x : Str} {v : Value} {Q : Value → Shared → Prop} (hx : env.kindOf x = some .local) (hv : l.lookup x = some v) (h : Q v s) :
    wpAny M A (loadName env x) Q E s := wpAny_loadName_local F.kind hx F.ns hv h
theorem Cx.ldC (F : Cx mg mb s₀ X env l c D s) {x : Str} {v : Value} {a : Addr} {Q : Value → Shared → Prop} (hx : env.kindOf x = some .cell) (ha : env.cells.lookup x = some a) (hv : c.lookup x = some v) (h : Q v s) :
    wpAny M A (loadName env x) Q E s := wpAny_loadName_cell F.kind hx ha (hv ▸ F.cell x a ha) h
theorem Cx.ldG (F : Cx mg mb s₀ X env l c D s) {x : Str} {v : Value} {pos : Pos} {Q : Value → Shared → Prop} (hx : env.kindOf x = some .globalImplicit) (hv : mg x = some v) (h : Q v s)
    (hd : (x == ("__debug__" : Str)) = false) : wpAny M A (eval (.Name x pos) env) Q E s :=
  Calls.Name_function_global F.kind hx (Calls.loadGlobal_global (by rw [F.glob]; exact F.topNow.g) hv h) hd
theorem Cx.ldB (F : Cx mg mb s₀ X env l c D s) {x : Str} {v : Value} {pos : Pos} {Q : Value → Shared → Prop} (hx : env.kindOf x = some .globalImplicit) (hm : mg x = none) (hn : x ≠ "__name__") (hv : bootBuiltins x = some v) (h : Q v s)
    (hd : (x == ("__debug__" : Str)) = false) : wpAny M A (eval (.Name x pos) env) Q E s :=
  Calls.Name_function_global F.kind hx (Calls.loadGlobal_builtin (by rw [F.glob]; exact F.topNow.g) hm (by rw [F.blt]; exact F.topNow.b) ((F.topNow.blt x hn).trans hv) h) hd
end

/-! judgements: in every state of a block, what a tree gives -/
section
variable (w : World) (A : Around)

/-- a tree gives a datum, and the heap grows -/
noncomputable def Giv (C : Shared → Prop) (X : Addr → Prop) (t : Sem Value) (d : Da) : Prop :=
  ∀ s E, C s → wpAny (model pw w) A t (fun v s' => Keeps s s' ∧ Holds X s'.heap d v) E s
/-- a test comes out -/
noncomputable def Tst (C : Shared → Prop) (t : Sem Bool) (b : Bool) : Prop :=
  ∀ s E, C s → wpAny (model pw w) A t (fun r s' => Keeps s s' ∧ r = b) E s
/-- a row of trees gives data -/
noncomputable def GivL (C : Shared → Prop) (X : Addr → Prop) (t : Sem (List Value)) (ds : List Da) : Prop :=
  ∀ s E, C s → wpAny (model pw w) A t (fun vs s' => Keeps s s' ∧ HoldsL X s'.heap ds vs) E s
end

end Mine

end
section
open PySem PySem.W PyProof.Rows
namespace Mine

section
variable {w : World} {A : Around} {mg mb : Str → Option Value} {s₀ : Base} {X : Addr → Prop} {env : Env} {l c : List (Str × Value)} {D : List (Da × Value)}

noncomputable abbrev Ev (w : World) (A : Around) (mg mb : Str → Option Value) (s₀ : Base) (X : Addr → Prop) (env : Env) (l c : List (Str × Value)) (D : List (Da × Value)) (e : Expr) (d : Da) : Prop :=
  Giv w A (Cx mg mb s₀ X env l c D) X (eval e env) d
noncomputable abbrev EvL (w : World) (A : Around) (mg mb : Str → Option Value) (s₀ : Base) (X : Addr → Prop) (env : Env) (l c : List (Str × Value)) (D : List (Da × Value)) (pos : Pos) (es : List Expr) (ds : List Da) : Prop :=
  GivL w A (Cx mg mb s₀ X env l c D) X (spliced (backTo pos (starEach es env))) ds
noncomputable abbrev Ts (w : World) (A : Around) (mg mb : Str → Option Value) (s₀ : Base) (X : Addr → Prop) (env : Env) (l c : List (Str × Value)) (D : List (Da × Value)) (e : Expr) (b : Bool) : Prop :=
  Tst w A (Cx mg mb s₀ X env l c D) (isTrue e env (eval e env)) b

/-- a def's contract -/
noncomputable def Spec (w : World) (A : Around) (name : Str) (k : Nat) (ds : List Da) (d : Da) : Prop :=
  ∀ X mg mb s E a vs, TopF mg mb s.heap → FnAt s.heap a name k → (∀ b, New s.heap b → X b) → HoldsL X s.heap ds vs → wpAny (model pw w) A (call (.ref a) vs) (fun v s' => Keeps s s' ∧ Holds X s'.heap d v) E s
/-- a built-in's contract -/
noncomputable def BSpec (w : World) (A : Around) (f : Value) (ds : List Da) (d : Da) : Prop :=
  ∀ X s E vs, (∀ b, New s.heap b → X b) → HoldsL X s.heap ds vs → wpAny (model pw w) A (call f vs) (fun v s' => Keeps s s' ∧ Holds X s'.heap d v) E s

theorem ev_local {x : Str} {pos : Pos} {v : Value} {d : Da} (hx : env.kindOf x = some .local) (hv : l.lookup x = some v) (hd : (d, v) ∈ D) (hn : (x == ("__debug__" : Str)) = false := by decide +kernel) :
    Ev w A mg mb s₀ X env l c D (.Name x pos) d := fun s _ F => wpAny_Name (F.ldN hx hv ⟨keeps_refl s, F.led _ hd⟩) hn
theorem ev_cell {x : Str} {pos : Pos} {v : Value} {a : Addr} {d : Da} (hx : env.kindOf x = some .cell) (ha : env.cells.lookup x = some a) (hv : c.lookup x = some v) (hd : (d, v) ∈ D)
    (hn : (x == ("__debug__" : Str)) = false := by decide +kernel) : Ev w A mg mb s₀ X env l c D (.Name x pos) d := fun s _ F => wpAny_Name (F.ldC hx ha hv ⟨keeps_refl s, F.led _ hd⟩) hn
theorem ev_str {x : Str} {k : Nat} {pos : Pos} : Ev w A mg mb s₀ X env l c D (.Constant (.str x) k pos) (.str x) := fun s _ _ => wpAny_Constant_str ⟨keeps_tok s _, _, rfl⟩
theorem ev_int {i : Int} {k : Nat} {pos : Pos} : Ev w A mg mb s₀ X env l c D (.Constant (.int i) k pos) (.int i) := fun s _ _ => wpAny_Constant_int ⟨keeps_tok s _, _, rfl⟩
theorem ev_none {k : Nat} {pos : Pos} : Ev w A mg mb s₀ X env l c D (.Constant .none k pos) .none := fun s _ _ => wpAny_Constant_none ⟨keeps_refl s, rfl⟩
theorem ev_bool {b : Bool} {k : Nat} {pos : Pos} : Ev w A mg mb s₀ X env l c D (.Constant (.bool b) k pos) (.bool b) := fun s _ _ => wpAny_Constant_bool ⟨keeps_refl s, rfl⟩

theorem evl_nil {pos : Pos} : EvL w A mg mb s₀ X env l c D pos [] [] := fun s _ _ => wpAny_items_nil ⟨keeps_refl s, rfl⟩
theorem evl_cons {pos : Pos} {e : Expr} {es : List Expr} {d : Da} {ds : List Da} (h : Ev w A mg mb s₀ X env l c D e d) (hs : EvL w A mg mb s₀ X env l c D pos es ds)
    (he : starEach (e :: es) env = (false, eval e env) :: starEach es env := by rfl) : EvL w A mg mb s₀ X env l c D pos (e :: es) (d :: ds) := fun s E F => by
  refine wpAny_items_cons (wpAny_mono (h s E F) (fun v s₁ h₁ => ?_) fun _ _ e => e) he
  refine wpAny_mono (hs s₁ E (F.keeps h₁.1)) (fun vs s₂ h₂ => ?_) fun _ _ e => e
  exact ⟨kt h₁.1 h₂.1, v, vs, rfl, h₁.2.grow (kg h₂.1), h₂.2⟩

theorem evalArgs_of {f : Value} {pos : Pos} {e : Expr} {es : List Expr} {Q : Args → Shared → Prop} {E : Value → Shared → Prop} {s : Shared} {M : Model}
    (he : starEach (e :: es) env = (false, eval e env) :: starEach es env)
    (h : wpAny M A (spliced (backTo pos (starEach (e :: es) env))) (fun vs s' => Q ⟨vs, []⟩ s') E s) : wpAny M A (evalArgs f true (backTo pos (starEach (e :: es) env)) []) Q E s := by
  rw [he] at h ⊢
  exact Calls.evalArgs_plain h

/-- a call of a def of the text -/
theorem ev_fn {f : Str} {k : Nat} {fp pos : Pos} {e : Expr} {es : List Expr} {ds : List Da} {d : Da} (hx : env.kindOf f = some .globalImplicit) (hf : (f, k) ∈ fns)
    (ha : EvL w A mg mb s₀ X env l c D pos (e :: es) ds) (sp : Spec w A f k ds d)
    (he : starEach (e :: es) env = (false, eval e env) :: starEach es env := by rfl) (hn : (f == ("__debug__" : Str)) = false := by decide +kernel) :
    Ev w A mg mb s₀ X env l c D (.Call (.Name f fp) (e :: es) [] pos) d := fun s E F => by
  obtain ⟨a, hm, hfn⟩ := F.topNow.fn (f, k) hf
  show wpAny _ A (eval (.Name f fp) env >>= fun fv => callWith pos fv [] (backTo pos (starEach (e :: es) env)) (backToKw pos (keywordEach [] env))) _ _ s
  refine wpAny_bind (F.ldG hx hm ?_ hn)
  obtain ⟨o, pm, cd, doc, ho, hd, hcd⟩ := id hfn
  refine Calls.callWith_function (o := o) (fd := Calls.docDef f (parAt k) (bodAt k) (scoAt k) pm cd doc) (evalArgs_of he (wpAny_mono (ha s E F) (fun vs s₁ h₁ => ?_) fun _ _ e => e))
  have F₁ := F.keeps h₁.1
  refine ⟨⟨kg h₁.1 _ _ ho, hd⟩, ?_⟩
  refine wpAny_mono (sp X mg mb s₁ E a vs F₁.topNow (hfn.keeps (kg h₁.1)) F₁.xn h₁.2) (fun v s₂ h₂ => ?_) fun _ _ e => e
  exact ⟨kt h₁.1 h₂.1, h₂.2⟩

/-- a call of a built-in function -/
theorem ev_blt {f : Str} {id : String} {fp pos : Pos} {e : Expr} {es : List Expr} {ds : List Da} {d : Da} (hx : env.kindOf f = some .globalImplicit) (hm : ∀ {h}, TopF mg mb h → mg f = none)
    (hb : bootBuiltins f = some (.builtin id)) (ha : EvL w A mg mb s₀ X env l c D pos (e :: es) ds) (sp : BSpec w A (.builtin id) ds d) (hpl : (backTo pos (starEach (e :: es) env)).any (·.1) = false := by rfl)
    (he : starEach (e :: es) env = (false, eval e env) :: starEach es env := by rfl) (hn : (f == ("__debug__" : Str)) = false := by decide +kernel) (hnn : f ≠ ("__name__" : Str) := by decide +kernel) :
    Ev w A mg mb s₀ X env l c D (.Call (.Name f fp) (e :: es) [] pos) d := fun s E F => by
  show wpAny _ A (eval (.Name f fp) env >>= fun fv => callWith pos fv [] (backTo pos (starEach (e :: es) env)) (backToKw pos (keywordEach [] env))) _ _ s
  refine wpAny_bind (F.ldB hx (hm F.topNow) hnn hb ?_ hn)
  refine Calls.callWith_builtin hpl (evalArgs_of he (wpAny_mono (ha s E F) (fun vs s₁ h₁ => ?_) fun _ _ e => e))
  refine wpAny_mono (sp X s₁ E vs (F.keeps h₁.1).xn h₁.2) (fun v s₂ h₂ => ?_) fun _ _ e => e
  exact ⟨kt h₁.1 h₂.1, h₂.2⟩
theorem ev_typ {f : Str} {T : String} {fp pos : Pos} {e : Expr} {es : List Expr} {ds : List Da} {d : Da} (hx : env.kindOf f = some .globalImplicit) (hm : ∀ {h}, TopF mg mb h → mg f = none)
    (hb : bootBuiltins f = some (.type T)) (ha : EvL w A mg mb s₀ X env l c D pos (e :: es) ds) (sp : BSpec w A (.type T) ds d) (hpl : (backTo pos (starEach (e :: es) env)).any (·.1) = false := by rfl)
    (he : starEach (e :: es) env = (false, eval e env) :: starEach es env := by rfl) (hn : (f == ("__debug__" : Str)) = false := by decide +kernel) (hnn : f ≠ ("__name__" : Str) := by decide +kernel) :
    Ev w A mg mb s₀ X env l c D (.Call (.Name f fp) (e :: es) [] pos) d := fun s E F => by
  show wpAny _ A (eval (.Name f fp) env >>= fun fv => callWith pos fv [] (backTo pos (starEach (e :: es) env)) (backToKw pos (keywordEach [] env))) _ _ s
  refine wpAny_bind (F.ldB hx (hm F.topNow) hnn hb ?_ hn)
  refine PySem.callWith_type hpl (evalArgs_of he (wpAny_mono (ha s E F) (fun vs s₁ h₁ => ?_) fun _ _ e => e))
  refine wpAny_mono (sp X s₁ E vs (F.keeps h₁.1).xn h₁.2) (fun v s₂ h₂ => ?_) fun _ _ e => e
  exact ⟨kt h₁.1 h₂.1, h₂.2⟩

theorem TopF.fr {h : Heap} (x : TopF mg mb h) (f : Str) (hf : (["type", "issubclass", "str", "bytes", "isinstance", "len", "tuple", "map", "ValueError", "min", "max", "enumerate", "TypeError", "AttributeError", "ord", "chr", "int", "all", "zip", "sum", "range"] : List Str).contains f = true) : mg f = none :=
  x.free f (List.contains_iff_mem.mp hf)

theorem bindL_eq {kd : Str → Option NameKind} : ∀ (bs l : List (Str × Value)), (∀ x ∈ bs, kd x.1 = some .local) → bindL kd bs (fun x => l.lookup x) = fun x => (bs.reverse ++ l).lookup x
  | [], _, _ => rfl
  | (n, v) :: r, l, h => by
    unfold bindL
    rw [if_pos (h (n, v) List.mem_cons_self), lk_cons, bindL_eq r ((n, v) :: l) fun x hx => h x (List.mem_cons_of_mem _ hx)]
    simp
theorem bindC_eq {kd : Str → Option NameKind} : ∀ (bs : List (Str × Value)) (m : Str → Option Value), (∀ x ∈ bs, kd x.1 = some .local) → bindC kd bs m = m
  | [], _, _ => rfl
  | (n, v) :: r, m, h => by
    unfold bindC
    rw [if_pos (h (n, v) List.mem_cons_self), bindC_eq r m fun x hx => h x (List.mem_cons_of_mem _ hx)]
theorem HoldsL.zip {X : Addr → Prop} {h : Heap} : ∀ {ds : List Da} {vs : List Value}, HoldsL X h ds vs → ∀ p ∈ ds.zip vs, Holds X h p.1 p.2
  | [], _, _, p, hp => by simp at hp
  | d :: ds, _, x, p, hp => by
    obtain ⟨v, r, rfl, hd, hr⟩ := x
    rcases List.mem_cons.mp hp with rfl | hp
    · exact hd
    · exact hr.zip p hp

/-- entering a def -/
theorem enter {name : Str} {k : Nat} {ds : List Da} {d : Da} {ps : List Str} (hroom : A.depth < recursionLimit)
    (hbind : ∀ pm cd doc vs, vs.length = ds.length → bindArgs (Calls.docDef name (parAt k) (bodAt k) (scoAt k) pm cd doc) ⟨vs, []⟩ = pure (ps.zip vs))
    (hloc : ∀ x ∈ ps, (scoAt k).names.lookup x = some .local)
    (hco : (scoAt k).isCoroutine = false) (hgen : (scoAt k).isGenerator = false) (hk : (scoAt k).kind = .function)
    (h : ∀ X mg mb s s' E a env vs, env.scope = scoAt k → env.cells = cellsFrom (env.locals + 1) (scoAt k).names [] → HoldsL X s.heap ds vs → vs.length = ds.length →
      env.frame = some env.locals → env.func = some a → env.locals = s.heap.objs.size →
      Cx mg mb (.of s) (fun b => X b ∧ Away env b) env (ps.zip vs).reverse [] (ds.zip vs) s' →
      wpAny (model pw w) (A.deeper env) (execs (bodAt k) env) (fun f s' => Keeps s s' ∧ Holds (fun b => X b ∧ Away env b) s'.heap d (match f with | .ret v => v | _ => .none)) E s') : Spec w A name k ds d := by
  intro X mg mb s E a vs T hf hX hh
  obtain ⟨o, pm, cd, doc, ho, hd, hcd⟩ := id hf
  have hlen := hh.length
  have hl : ∀ x ∈ ps.zip vs, (scoAt k).names.lookup x.1 = some .local := fun x hx => hloc x.1 (List.of_mem_zip hx).1
  refine wpAny_call (codeAny_call_cells hroom ho hd T.lim hcd rfl (hbind pm cd doc vs hlen) rfl (fun x hx => .inl (hl x hx)) (fun s₁ hc => ?_) hco hgen hk)
  generalize he : callEnvC (Calls.docDef name (parAt k) (bodAt k) (scoAt k) pm cd doc) s.heap.objs.size a = env at hc ⊢
  have e1 : env.scope = scoAt k := by rw [← he]; rfl
  have e2 : env.cells = cellsFrom (env.locals + 1) (scoAt k).names [] := by rw [← he]; rfl
  have e3 : env.locals = s.heap.objs.size := by rw [← he]; rfl
  have e4 : env.frame = some env.locals := by rw [← he]; rfl
  have e5 : env.func = some a := by rw [← he]; rfl
  have e6 : env.globals = mainGlobals := by rw [← he]; rfl
  have e7 : env.builtins = builtinsNs := by rw [← he]; rfl
  have hkd : ∀ x ∈ ps.zip vs, env.kindOf x.1 = some .local := fun x hx => by unfold Env.kindOf; rw [e1]; exact hl x hx
  have off : ∀ n c', env.cells.lookup n = some c' → env.locals < c' := fun n c' hm => hc.above n c' (mem_of_lookup hm)
  have old : ∀ b o, s.heap.get? b = some o → Away env b := fun b o hb => by
    have hlt := Heap.lt_size hb
    rw [← e3] at hlt
    exact ⟨Nat.ne_of_lt hlt, fun n c' hm => Nat.ne_of_lt (Nat.lt_trans hlt (off n c' hm))⟩
  refine wpAny_mono (h X mg mb s s₁ (fun e s' => wpAny (model pw w) (A.deeper env) (PySem.leaving env e) (fun _ s'' => E e s'') (fun e' s'' => E e' s'') s') a env vs e1 e2 hh hlen e4 e5 e3 ?_) (fun f s' h' => ⟨h'.1, h'.2.weak fun _ x => x.1⟩) fun e s' h' => h'
  have hns := hc.toInCall.ns
  rw [show (fun _ => none : Str → Option Value) = (fun x => ([] : List (Str × Value)).lookup x) from rfl, bindL_eq _ _ hkd, List.append_nil] at hns
  refine ⟨by rw [e1]; exact hk, e6, e7, hc.toInCall.same, hc.toInCall.keep, fun h hk => T.keeps fun b o e => hk b o e, hns, fun n c' hm => ?_, fun n n' c' h1 h2 => name_of_addr hc.apart (mem_of_lookup h1) (mem_of_lookup h2), fun n c' hm => Nat.ne_of_gt (off n c' hm), old, fun _ x => x.2, fun b hb => ?_, fun p hp => ?_⟩
  · have := hc.cell n c' hm
    rw [bindC_eq _ _ hkd] at this
    exact this
  · refine ⟨hX b (New.back hc.toInCall.keep hb), fun e => ?_, fun n c' hm e => ?_⟩
    · subst e
      obtain ⟨o, _, _, ho, _⟩ := hns
      rw [show s₁.heap.get? env.locals = none from hb] at ho; cases ho
    · subst e
      obtain ⟨o, ho, _⟩ := hc.cell n _ hm
      rw [show s₁.heap.get? b = none from hb] at ho; cases ho
  · exact (hh.zip p hp).ext fun b o xb e => ⟨⟨xb, old b o e⟩, hc.toInCall.keep b o e⟩

/-- statements -/
theorem ex_ret {e : Expr} {pos : Pos} {rest : List Stmt} {d : Da} {s : Shared} {Q : Flow → Shared → Prop} {E : Value → Shared → Prop} (F : Cx mg mb s₀ X env l c D s) (he : Ev w A mg mb s₀ X env l c D e d)
    (h : ∀ v s', Keeps s s' → Holds X s'.heap d v → Q (.ret v) s') : wpAny (model pw w) A (execs (.Return (some e) pos :: rest) env) Q E s :=
  wpAny_execs_cons (wpAny_Return_some (wpAny_mono (he s E F) (fun v s' hv => h v s' hv.1 hv.2) fun _ _ e => e))
theorem ex_assign {x : Str} {e : Expr} {px pos : Pos} {rest : List Stmt} {d : Da} {s : Shared} {Q : Flow → Shared → Prop} {E : Value → Shared → Prop} (F : Cx mg mb s₀ X env l c D s) (he : Ev w A mg mb s₀ X env l c D e d)
    (hx : env.kindOf x = some .local) (h : ∀ v s', Cx mg mb s₀ X env ((x, v) :: l) c ((d, v) :: D) s' → wpAny (model pw w) A (execs rest env) Q E s')
    (hs : swapsWith e (some (.Name x px)) pos.line env = pure false := by rfl) : wpAny (model pw w) A (execs (.Assign [.Name x px] e pos :: rest) env) Q E s :=
  wpAny_execs_cons (wpAny_Assign_Name (wpAny_mono (he s E F) (fun v s₁ hv => ((F.keeps hv.1).add hv.2).st hx fun s' F' => h v s' F') fun _ _ e => e) hs)
theorem ex_if {e : Expr} {body els : List Stmt} {pos : Pos} {rest : List Stmt} {b : Bool} {s : Shared} {Q : Flow → Shared → Prop} {E : Value → Shared → Prop} (F : Cx mg mb s₀ X env l c D s) (he : Ts w A mg mb s₀ X env l c D e b)
    (h : ∀ s', Keeps s s' → wpAny (model pw w) A (execs (if b then body else els) env) (fun f s'' => match f with | .next => wpAny (model pw w) A (execs rest env) Q E s'' | f => Q f s'') E s') :
    wpAny (model pw w) A (execs (.If e body els pos :: rest) env) Q E s :=
  wpAny_execs_cons (wpAny_If (wpAny_mono (he s E F) (fun r s₁ hr => by
    obtain ⟨hk, rfl⟩ := hr
    have := h s₁ hk
    cases r <;> exact this) fun _ _ e => e))
end
end Mine

end
section
open PySem PySem.W PyProof.Rows
namespace Mine
open PySem.Builtin PySem.Builtin.Str

/-- a text by its signs' numbers -/
noncomputable def S (l : List Nat) : Str := ⟨l.toArray⟩
@[simp] theorem S_cps (l : List Nat) : (S l).cps.toList = l := rfl
@[simp] theorem S_len (l : List Nat) : (S l).length = l.length := by simp [S, Str.length]
theorem S_inj {a b : List Nat} (h : S a = S b) : a = b := by simpa using congrArg (fun x : Str => x.cps.toList) h
theorem S_of (x : Str) : S x.cps.toList = x := by cases x; simp [S]
theorem S_append (a b : List Nat) : S a ++ S b = S (a ++ b) := by
  apply PySem.Str.ext'
  rw [PySem.Str.cps_append]
  simp [S]
theorem S_nil : S [] = Str.empty := rfl

noncomputable def joinL : List (List Nat) → List Nat
  | [] => []
  | [p] => p
  | p :: q :: r => p ++ 47 :: joinL (q :: r)
noncomputable def splitL : List Nat → List (List Nat)
  | [] => [[]]
  | c :: r => if c = 47 then [] :: splitL r else match splitL r with
    | p :: ps => (c :: p) :: ps
    | [] => [[c]]

theorem join_S : ∀ ps : List (List Nat), Str.join (S [47]) (ps.map S) = S (joinL ps)
  | [] => rfl
  | [p] => rfl
  | p :: q :: r => by
    show S p ++ S [47] ++ Str.join (S [47]) ((q :: r).map S) = _
    rw [join_S (q :: r), S_append, S_append]
    simp [joinL]

theorem splitL_ne (l : List Nat) : splitL l ≠ [] := by
  cases l with
  | nil => simp [splitL]
  | cons c r =>
    unfold splitL
    split
    · simp
    · split <;> simp

theorem splitL_free_app : ∀ (p : List Nat) (l : List Nat), 47 ∉ p → splitL (p ++ l) = match splitL l with | q :: qs => (p ++ q) :: qs | [] => [p]
  | [], l, _ => by
    have hne := splitL_ne l
    show splitL l = _
    cases hs : splitL l with
    | nil => exact absurd hs hne
    | cons q qs => rfl
  | c :: p, l, h => by
    have hc : c ≠ 47 := fun e => h (by rw [e]; exact List.mem_cons_self)
    have ih := splitL_free_app p l fun e => h (List.mem_cons_of_mem _ e)
    show splitL (c :: (p ++ l)) = _
    rw [splitL, if_neg hc, ih]
    have hne := splitL_ne l
    cases hs : splitL l with
    | nil => exact absurd hs hne
    | cons q qs => rfl
theorem splitL_joinL : ∀ ps : List (List Nat), ps ≠ [] → (∀ p ∈ ps, 47 ∉ p) → splitL (joinL ps) = ps
  | [], h, _ => absurd rfl h
  | [p], _, h => by
    have := splitL_free_app p [] (h p List.mem_cons_self)
    simpa [joinL, splitL] using this
  | p :: q :: r, _, h => by
    show splitL (p ++ 47 :: joinL (q :: r)) = _
    rw [splitL_free_app p _ (h p List.mem_cons_self), splitL, if_pos rfl, splitL_joinL (q :: r) (by simp) fun x hx => h x (List.mem_cons_of_mem _ hx)]
    simp
theorem joinL_splitL : ∀ l : List Nat, joinL (splitL l) = l
  | [] => rfl
  | c :: r => by
    have ih := joinL_splitL r
    have hne := splitL_ne r
    unfold splitL
    split
    · rename_i hc
      cases hs : splitL r with
      | nil => exact absurd hs hne
      | cons p ps =>
        rw [hs] at ih
        show [] ++ 47 :: joinL (p :: ps) = _
        rw [ih, hc]; rfl
    · cases hs : splitL r with
      | nil => exact absurd hs hne
      | cons p ps =>
        rw [hs] at ih
        cases ps with
        | nil => show c :: p = _; rw [← ih]; rfl
        | cons q qs => show c :: p ++ 47 :: joinL (q :: qs) = _; rw [← ih]; rfl
theorem splitL_free : ∀ l : List Nat, ∀ p ∈ splitL l, 47 ∉ p
  | [], p, hp => by simp [splitL] at hp; subst hp; simp
  | c :: r, p, hp => by
    have ih := splitL_free r
    unfold splitL at hp
    split at hp
    · rcases List.mem_cons.mp hp with rfl | hp
      · simp
      · exact ih p hp
    · rename_i hc
      cases hs : splitL r with
      | nil => rw [hs] at hp; simp at hp; subst hp; simp; exact fun e => hc e.symm
      | cons q qs =>
        rw [hs] at hp ih
        rcases List.mem_cons.mp hp with rfl | hp
        · intro e
          rcases List.mem_cons.mp e with e | e
          · exact hc e.symm
          · exact ih q List.mem_cons_self e
        · exact ih p (List.mem_cons_of_mem _ hp)

theorem map_S_of (xs : List Str) : ∃ ps : List (List Nat), xs = ps.map S := ⟨xs.map fun x => x.cps.toList, by simp [Function.comp_def, S_of]⟩

theorem split_S (l : List Nat) : Txt.split (S l) (S [47]) = (splitL l).map S := by
  obtain ⟨ps, hp⟩ := map_S_of (Txt.split (S l) (S [47]))
  have h1 := StrLaws.join_split (S l) (S [47])
  have h2 := StrLaws.split_free (S l) 47
  rw [show (⟨#[47]⟩ : Str) = S [47] from rfl] at h2
  rw [hp, join_S] at h1
  have h1 := S_inj h1
  rw [hp]
  congr 1
  have hne : ps ≠ [] := by
    rintro rfl
    have : l = [] := h1.symm
    subst this
    unfold Txt.split at hp
    simp at hp
  rw [← h1, splitL_joinL ps hne]
  intro p hm
  have := h2 (S p) (by rw [hp]; exact List.mem_map_of_mem hm)
  simpa using this

/-- the part up to the last slash, with it -/
noncomputable def upto (l : List Nat) : List Nat := (l.reverse.dropWhile (· != 47)).reverse
theorem upto_take (l : List Nat) : upto l = l.take (upto l).length := by
  have h : l.reverse.dropWhile (· != 47) <:+ l.reverse := List.dropWhile_suffix _
  have h2 : upto l <+: l := by
    have := List.reverse_prefix.mpr h
    simpa [upto] using this
  exact List.prefix_iff_eq_take.mp h2
theorem sub1 (l : List Nat) (i : Nat) : StrLaws.At (S l) (S [47]) (S l).length i ↔ l[i]? = some 47 := by
  have := StrLaws.subAt_one (S l) 47 i
  rw [show (⟨#[47]⟩ : Str) = S [47] from rfl] at this
  simpa [StrLaws.At] using this
theorem upto_length (l : List Nat) : (∀ i : Nat, l[i]? ≠ some 47) ∧ upto l = [] ∨ ∃ i : Nat, l[i]? = some 47 ∧ (∀ k : Nat, i < k → l[k]? ≠ some 47) ∧ (upto l).length = i + 1 := by
  by_cases h : ∃ i : Nat, l[i]? = some 47
  · right
    have hm : 47 ∈ l := by obtain ⟨i, hi⟩ := h; exact List.mem_of_getElem? hi
    obtain ⟨a, b, hb, hab⟩ : ∃ a b, 47 ∉ b ∧ l = a ++ 47 :: b := by
      clear h
      induction l with
      | nil => cases hm
      | cons c r ih =>
        by_cases hr : 47 ∈ r
        · obtain ⟨a, b, h1, h2⟩ := ih hr
          exact ⟨c :: a, b, h1, by rw [h2]; rfl⟩
        · rcases List.mem_cons.mp hm with e | e
          · exact ⟨[], r, hr, by rw [e]; rfl⟩
          · exact absurd e hr
    refine ⟨a.length, by rw [hab]; simp, fun k hk => ?_, ?_⟩
    · rw [hab, List.getElem?_append_right (by omega)]
      obtain ⟨j, hj⟩ : ∃ j, k - a.length = j + 1 := ⟨k - a.length - 1, by omega⟩
      rw [hj, List.getElem?_cons_succ]
      intro e
      exact hb (List.mem_of_getElem? e)
    · have : upto l = a ++ [47] := by
        unfold upto
        rw [hab, List.reverse_append, List.reverse_cons, List.append_assoc, List.dropWhile_append_of_pos]
        · simp
        · intro x hx
          have : x ≠ 47 := fun e => hb (by rw [← e]; exact List.mem_reverse.mp hx)
          simpa using this
      rw [this]; simp
  · left
    have h : ∀ i : Nat, l[i]? ≠ some 47 := fun i e => h ⟨i, e⟩
    refine ⟨h, ?_⟩
    unfold upto
    have : l.reverse.dropWhile (· != 47) = [] := by
      have key : ∀ m : List Nat, (∀ x ∈ m, (x != 47) = true) → m.dropWhile (· != 47) = [] := by
        intro m
        induction m with
        | nil => intro _; rfl
        | cons y r ih => intro h; rw [List.dropWhile_cons, if_pos (h y List.mem_cons_self)]; exact ih fun x hx => h x (List.mem_cons_of_mem _ hx)
      refine key _ ?_
      intro x hx
      have hx' := List.mem_reverse.mp hx
      obtain ⟨i, hi, e⟩ := List.mem_iff_getElem.mp hx'
      have := h i
      rw [List.getElem?_eq_getElem hi, e] at this
      have : x ≠ 47 := fun q => this (by rw [q])
      simpa using this
    rw [this]; rfl
theorem rfind_S (l : List Nat) : Txt.rfind (S l) (S [47]) + 1 = ((upto l).length : Int) := by
  unfold Txt.rfind
  rcases StrLaws.last_spec (S l) (S [47]) with ⟨e, h⟩ | ⟨i, e, h1, h2⟩
  · rw [e]
    rcases upto_length l with ⟨_, hu⟩ | ⟨i, hi, _⟩
    · rw [hu]; rfl
    · exact absurd ((sub1 l i).mpr hi) (h i)
  · rw [e]
    rcases upto_length l with ⟨hn, _⟩ | ⟨j, hj, hk, hu⟩
    · exact absurd ((sub1 l i).mp h1) (hn i)
    · have : i = j := by
        rcases Nat.lt_trichotomy i j with q | q | q
        · exact absurd ((sub1 l j).mpr hj) (h2 j q)
        · exact q
        · exact absurd ((sub1 l i).mp h1) (hk i q)
      subst this
      rw [hu]; simp

theorem slice_upto (l : List Nat) (k : Nat) : Txt.slice (S l) none (some (k : Int)) = S (l.take k) := by
  have h := slice_to_min_closes (x := S l) (n := (k : Int)) (by omega) rfl
  rw [beq_iff_eq.mp h]
  show S _ = S _
  congr 1
  simp only [S_cps, S_len, Int.toNat_zero, List.drop_zero, Int.sub_zero]
  by_cases hk : (l.length : Int) < k
  · rw [if_pos hk, Int.toNat_natCast, List.take_of_length_le (Nat.le_refl _), List.take_of_length_le (by omega)]
  · rw [if_neg hk, Int.toNat_natCast]

/-- without its slashes at the end -/
noncomputable def rstripL (l : List Nat) : List Nat := (l.reverse.dropWhile (· == 47)).reverse
theorem rstripL_take (l : List Nat) : rstripL l = l.take (l.length - (l.reverse.takeWhile (· == 47)).length) := by
  unfold rstripL
  have h := List.takeWhile_append_dropWhile (p := (· == 47)) (l := l.reverse)
  have e : l = (l.reverse.dropWhile (· == 47)).reverse ++ (l.reverse.takeWhile (· == 47)).reverse := by
    rw [← List.reverse_append, h, List.reverse_reverse]
  have hl : l.length = (l.reverse.dropWhile (· == 47)).length + (l.reverse.takeWhile (· == 47)).length := by
    have := congrArg List.length e
    simpa using this
  conv => rhs; arg 2; rw [e]
  rw [List.take_append_of_le_length (by rw [List.length_reverse]; omega), List.take_of_length_le (by rw [List.length_reverse]; omega)]
theorem rstrip_S (l : List Nat) : Txt.rstripChars (S l) (S [47]) = S (rstripL l) := by
  have hg : (fun c => (S [47]).cps.contains c) = fun c => c == 47 := by
    funext c
    show (#[47] : Array Nat).contains c = _
    by_cases h : c = 47
    · subst h; simp
    · simp [h]
  unfold Txt.rstripChars Txt.stripBy
  have h0 : ∀ g, stripLo g false (S l) = 0 := fun _ => rfl
  have h1 : stripHi (S [47]).cps.contains true (S l) 0 = l.length - (l.reverse.takeWhile (· == 47)).length := by
    unfold stripHi
    simp only [if_true, S_len, S_cps, List.drop_zero]
    rw [show ((S [47]).cps.contains) = fun c => c == 47 from hg]
  unfold stripSame PySem.stripped
  rw [h0, h1, rstripL_take]
  generalize hn : l.length - (l.reverse.takeWhile (· == 47)).length = n
  split
  · rename_i h
    have : n = l.length := by simpa using h
    rw [this, List.take_length]
  · apply PySem.Str.ext'
    apply Array.toList_inj.mp
    rw [StrLaws.strSub_toList]
    simp
theorem startswith_S (l : List Nat) : Txt.startswith (S l) (S [47]) = (l.head? == some 47) := by
  unfold Txt.startswith
  rw [StrLaws.subAt_eq]
  cases l with
  | nil => rfl
  | cons c r => simp
theorem mul_S (n : Nat) : Txt.mul (S [47]) (n : Int) = S (List.replicate n 47) := by
  unfold Txt.mul
  by_cases h0 : n = 0
  · subst h0; rfl
  · rw [if_neg (by omega)]
    by_cases h1 : n = 1
    · subst h1; rfl
    · rw [if_neg (by simp [S_len]; omega)]
      have : ∀ (n : Nat) (acc : Array Nat), (List.replicate n (#[47] : Array Nat)).foldl (· ++ ·) acc = acc ++ (List.replicate n 47).toArray := by
        intro n
        induction n with
        | zero => intro acc; simp
        | succ n ih =>
          intro acc
          rw [List.replicate_succ, List.foldl_cons, ih, List.replicate_succ]
          apply Array.toList_inj.mp
          simp
      show (⟨(List.replicate (n : Int).toNat (#[47] : Array Nat)).foldl (· ++ ·) #[]⟩ : Str) = _
      rw [this, Int.toNat_natCast]
      simp [S]
end Mine

end
section
open PySem PySem.W PyProof.Rows
namespace Mine
section
variable {w : World} {A : Around} {mg mb : Str → Option Value} {s₀ : Base} {X : Addr → Prop} {env : Env} {l c : List (Str × Value)} {D : List (Da × Value)}

theorem ev_bname {x : Str} {v : Value} {pos : Pos} (hx : env.kindOf x = some .globalImplicit) (hm : ∀ {h}, TopF mg mb h → mg x = none) (hb : bootBuiltins x = some v)
    (hn : (x == ("__debug__" : Str)) = false := by decide +kernel) (hnn : x ≠ ("__name__" : Str) := by decide +kernel) : Ev w A mg mb s₀ X env l c D (.Name x pos) (.atom v) :=
  fun s _ F => F.ldB hx (hm F.topNow) hnn hb ⟨keeps_refl s, rfl⟩ hn

theorem ev_tuple {es : List Expr} {k : Nat} {pos : Pos} {ds : List Da} (h : EvL w A mg mb s₀ X env l c D pos es ds) (hsz : ds.length ≤ sizeLine) : Ev w A mg mb s₀ X env l c D (.Tuple es k pos) (.tup ds) := fun s E F => by
  refine wpAny_Tuple (wpAny_mono (h s E F) (fun vs s₁ h₁ => ⟨by rw [h₁.2.length]; exact hsz, kt h₁.1 ⟨_, s₁.toks, rfl, grow_push _ _⟩, ?_⟩) fun _ _ e => e)
  exact ⟨s₁.heap.objs.size, vs, rfl, (F.keeps h₁.1).away (new_size _), SeqAt.tnew _ _, h₁.2.grow (grow_push _ _)⟩
theorem ev_list {es : List Expr} {pos : Pos} {ds : List Da} (h : EvL w A mg mb s₀ X env l c D pos es ds) (hsz : ds.length ≤ sizeLine) : Ev w A mg mb s₀ X env l c D (.List es pos) (.list ds) := fun s E F => by
  refine wpAny_List (wpAny_mono (h s E F) (fun vs s₁ h₁ => ⟨by rw [h₁.2.length]; exact hsz, kt h₁.1 ⟨_, s₁.toks, rfl, grow_push _ _⟩, ?_⟩) fun _ _ e => e)
  exact ⟨s₁.heap.objs.size, vs, rfl, (F.keeps h₁.1).away (new_size _), SeqAt.lnew _ _, h₁.2.grow (grow_push _ _)⟩

/-! type(x), issubclass, isinstance -/
theorem b_type_str {x : Str} : BSpec w A (.type "type") [.str x] (.atom (.type "str")) := fun X s E vs hX h => by
  obtain ⟨v, r, rfl, ⟨t, rfl⟩, rfl⟩ := h
  exact call_type_of (typeIs_str _ _ _) (by decide) ⟨keeps_refl s, rfl⟩

theorem nested_str {p : Program} {t : Tok} {i : Int} {s : Shared} {Q : Fin → Shared → Prop} {E : Value → Shared → Prop} (hq : Q (.done (.ret (.bool true))) s) :
    wpAny (model p w) A (Builtin.«issubclass.nested» ⟨[.type "str", .type "str", .int i t], []⟩) Q E s := by
  have f1 : typeOf (.type "str") = pure (.type "type") := F.isi_meta_str
  have f2 : isSubtype (.type "str") (.type "str") = pure true := isSubtype_str_str
  repeat (any_goals (first | assumption | wp_step))
theorem kind_isn : builtinKind "issubclass.nested" = none := by
  first | rw [PySem.W.Fast.te11380579304954806539] | skip
  kernel_rfl
theorem plain_isn : plainId "issubclass.nested" = true := by decide +kernel
theorem args_isn (a b c : Value) : argsOk "issubclass.nested" ⟨[a, b, c], []⟩ := by
  unfold argsOk
  first | rw [PySem.W.Fast.signatureY_eq] | skip
  kernel_rfl
theorem nested_tup {p : Program} {t : Tok} {tp : Addr} {vs r : List Value} {s : Shared} {Q : Fin → Shared → Prop} {E : Value → Shared → Prop} (ht : SeqAt s.heap tp "tuple" vs) (hv : vs = .type "str" :: r)
    (hq : Q (.done (.ret (.bool true))) s) : wpAny (model p w) A (Builtin.«issubclass.nested» ⟨[.type "str", .ref tp, .int 0 t], []⟩) Q E s := by
  have hT2 := ht.type
  obtain ⟨h, g, d, t, os⟩ := s
  obtain ⟨⟨oc, od, odt, osl⟩, ho, hc, n, hd⟩ := ht
  dsimp only at hc hd
  subst hc hd
  have f1 := F.isi_sub_tuple
  repeat (any_goals (first | assumption | wp_step))
  refine wpAny_arrayLoop ?_
  subst hv
  simp only [Option.getD_some, List.toList_toArray, List.forIn_cons]
  refine wpAny_bind (wpAny_bind (Calls.call_function_entry kind_isn plain_isn PySem.F.entry_issubclass_nested (args_isn _ _ _) (nested_str ⟨_, rfl, ?_⟩)))
  refine wpAny_bind (m := truthy (.bool true)) (wpAny_pure ?_)
  repeat (any_goals (first | assumption | wp_step))
theorem b_issub {ds : List Da} : BSpec w A (.builtin "issubclass") [.atom (.type "str"), .tup (.atom (.type "str") :: ds)] (.bool true) := fun X s E vs hX h => by
  obtain ⟨v, r, rfl, rfl, u, r', rfl, ⟨a, us, rfl, _, ho, x, r₁, rfl, rfl, _⟩, rfl⟩ := h
  refine call_issubclass (S := fun A R s => SeqAt s.heap a "tuple" (.type "str" :: r₁) ∧ R (.ok (.ret (.bool true))) s) ?_ ⟨ho, ⟨keeps_refl s, rfl⟩⟩
  intro p w' A' R s' h'
  exact issubclass_outer (nested_tup h'.1 rfl h'.2)

theorem b_isi_bytes {x : Str} : BSpec w A (.builtin "isinstance") [.str x, .atom (.type "bytes")] (.bool false) := fun X s E vs hX h => by
  obtain ⟨v, r, rfl, ⟨t, rfl⟩, u, r', rfl, rfl, rfl⟩ := h
  exact call_isinstance (isinstance_false_str (by decide) F.isi_meta_bytes (by rw [isSubtype_type]; kernel_rfl)) ⟨keeps_tok s _, rfl⟩

theorem ts_call {f : Expr} {args : List Expr} {pos : Pos} {b : Bool} (h : Ev w A mg mb s₀ X env l c D (.Call f args [] pos) (.bool b)) : Ts w A mg mb s₀ X env l c D (.Call f args [] pos) b := fun s E F =>
  wpAny_isTrue_value (wpAny_mono (h s E F) (fun v s₁ h₁ => by
    obtain ⟨hk, rfl⟩ := h₁
    exact wpAny_truthy_bool ⟨hk, rfl⟩) fun _ _ e => e)

theorem kindOf_eq {k : Nat} {x : Str} {kd : NameKind} (he : env.scope = scoAt k) (h : (scoAt k).names.lookup x = some kd) : env.kindOf x = some kd := by unfold Env.kindOf; rw [he]; exact h

/-! fspath -/
theorem fspath_spec {x : Str} (hd : A.depth < recursionLimit) : Spec w A "fspath" 9 [.str x] (.str x) := by
  refine enter (ps := ["path"]) hd (fun pm cd doc vs hl => ?_) (by decide +kernel) rfl rfl rfl ?_
  · match vs, hl with
    | [v], _ => rfl
  · intro X mg mb s s' E a env vs hs hc hh hl _ _ _ F
    match vs, hl with
    | [v], _ =>
    have kd : ∀ {x : Str} {kd : NameKind}, (scoAt 9).names.lookup x = some kd → env.kindOf x = some kd := fun h => kindOf_eq hs h
    refine ex_assign F (ev_typ (kd (by decide +kernel)) (fun T => T.fr "type" (by decide +kernel)) Boot.«type» (evl_cons (ev_local (kd (by decide +kernel)) rfl (.head _)) evl_nil) b_type_str) (kd (by decide +kernel)) fun v₁ s₁ F => ?_
    refine ex_if (b := true) F (ts_call (ev_blt (kd (by decide +kernel)) (fun T => T.fr "issubclass" (by decide +kernel)) Boot.«issubclass»
      (evl_cons (ev_local (kd (by decide +kernel)) rfl (.head _)) (evl_cons (ev_tuple (evl_cons (ev_bname (kd (by decide +kernel)) (fun T => T.fr "str" (by decide +kernel)) Boot.«str») (evl_cons (ev_bname (kd (by decide +kernel)) (fun T => T.fr "bytes" (by decide +kernel)) Boot.«bytes») evl_nil)) (by decide)) evl_nil)) (b_issub (ds := [.atom (.type "bytes")])))) fun s₂ k₂ => ?_
    refine ex_ret (F.keeps k₂) (ev_local (d := .str x) (kd (by decide +kernel)) rfl (.tail _ (.head _))) fun v₃ s₃ k₃ h₃ => ⟨(((F.keeps k₂).keeps k₃)).done, h₃⟩

/-! _get_sep -/
theorem getsep_spec {x : Str} (hd : A.depth < recursionLimit) : Spec w A "_get_sep" 13 [.str x] (.str "/") := by
  refine enter (ps := ["path"]) hd (fun pm cd doc vs hl => ?_) (by decide +kernel) rfl rfl rfl ?_
  · match vs, hl with
    | [v], _ => rfl
  · intro X mg mb s s' E a env vs hs hc hh hl _ _ _ F
    match vs, hl with
    | [v], _ =>
    have kd : ∀ {x : Str} {kd : NameKind}, (scoAt 13).names.lookup x = some kd → env.kindOf x = some kd := fun h => kindOf_eq hs h
    refine ex_if (b := false) F (ts_call (ev_blt (kd (by decide +kernel)) (fun T => T.fr "isinstance" (by decide +kernel)) Boot.«isinstance»
      (evl_cons (ev_local (kd (by decide +kernel)) rfl (.head _)) (evl_cons (ev_bname (kd (by decide +kernel)) (fun T => T.fr "bytes" (by decide +kernel)) Boot.«bytes») evl_nil)) b_isi_bytes)) fun s₂ k₂ => ?_
    exact ex_ret (F.keeps k₂) ev_str fun v₃ s₃ k₃ h₃ => ⟨(((F.keeps k₂).keeps k₃)).done, h₃⟩
end
end Mine

end
section
open PySem PySem.W PyProof.Rows
namespace Mine
section
variable {w : World} {A : Around} {mg mb : Str → Option Value} {s₀ : Base} {X : Addr → Prop} {env : Env} {l c : List (Str × Value)} {D : List (Da × Value)}

theorem ev_bin {a b : Expr} {op : Operator} {pos : Pos} {da db d : Da} (ha : Ev w A mg mb s₀ X env l c D a da) (hb : Ev w A mg mb s₀ X env l c D b db)
    (hop : ∀ s E va vb, (∀ b, New s.heap b → X b) → Holds X s.heap da va → Holds X s.heap db vb → wpAny (model pw w) A (binaryOp op va vb) (fun v s' => Keeps s s' ∧ Holds X s'.heap d v) E s) :
    Ev w A mg mb s₀ X env l c D (.BinOp a op b pos) d := fun s E F => by
  refine wpAny_BinOp (wpAny_mono (ha s E F) (fun va s₁ h₁ => wpAny_mono (hb s₁ E (F.keeps h₁.1)) (fun vb s₂ h₂ => ?_) fun _ _ e => e) fun _ _ e => e)
  refine wpAny_mono (hop s₂ E va vb (F.keeps (kt h₁.1 h₂.1)).xn (h₁.2.grow (kg h₂.1)) h₂.2) (fun v s₃ h₃ => ?_) fun _ _ e => e
  exact ⟨kt (kt h₁.1 h₂.1) h₃.1, h₃.2⟩
theorem ev_addI {a b : Expr} {pos : Pos} {i j : Int} (ha : Ev w A mg mb s₀ X env l c D a (.int i)) (hb : Ev w A mg mb s₀ X env l c D b (.int j)) : Ev w A mg mb s₀ X env l c D (.BinOp a .Add b pos) (.int (i + j)) :=
  ev_bin ha hb fun s E va vb hX h1 h2 => by
    obtain ⟨t, rfl⟩ := h1
    obtain ⟨u, rfl⟩ := h2
    exact wpAny_add_int ⟨keeps_tok s _, _, rfl⟩
theorem ev_addS {a b : Expr} {pos : Pos} {x y : List Nat} (ha : Ev w A mg mb s₀ X env l c D a (.str (S x))) (hb : Ev w A mg mb s₀ X env l c D b (.str (S y))) (hsz : x.length + y.length ≤ sizeLine) :
    Ev w A mg mb s₀ X env l c D (.BinOp a .Add b pos) (.str (S (x ++ y))) :=
  ev_bin ha hb fun s E va vb hX h1 h2 => by
    obtain ⟨t, rfl⟩ := h1
    obtain ⟨u, rfl⟩ := h2
    refine P.add_str (SB.post_add (by simpa using hsz) fun t' k => ⟨keeps_tok s _, _, by rw [S_append]⟩)
theorem ev_mulS {a b : Expr} {pos : Pos} {n : Nat} (ha : Ev w A mg mb s₀ X env l c D a (.str (S [47]))) (hb : Ev w A mg mb s₀ X env l c D b (.int n)) (hsz : n < 65536) :
    Ev w A mg mb s₀ X env l c D (.BinOp a .Mult b pos) (.str (S (List.replicate n 47))) :=
  ev_bin ha hb fun s E va vb hX h1 h2 => by
    obtain ⟨t, rfl⟩ := h1
    obtain ⟨u, rfl⟩ := h2
    refine SB.mul ⟨?_, fun h1 h2 => ?_, fun h1 h2 => ?_⟩ fun t' k => ⟨keeps_tok s _, _, by rw [mul_S]⟩
    · have h1 : ¬ ((n : Int) < -(2 ^ 63)) := by omega
      have h2 : ¬ ((n : Int) ≥ 2 ^ 63) := by omega
      rw [decide_eq_false h1, decide_eq_false h2]; rfl
    · have : (2 ^ 63 - 1) / (n : Int) ≥ 1 := (Int.le_ediv_iff_mul_le (by omega)).mpr (by omega)
      rw [S_len]; simp only [List.length_cons, List.length_nil]; omega
    · have h3 : (S [47]).length * (n : Int).toNat = n := by rw [S_len]; simp
      rw [h3]
      have h4 : ¬ (n > sizeLine) := by rw [sizeLine_eq]; omega
      exact decide_eq_false h4

theorem b_len {x : List Nat} (hx : x.length < 2 ^ 62) : BSpec w A (.builtin "len") [.str (S x)] (.int x.length) := fun X s E vs hX h => by
  obtain ⟨v, r, rfl, ⟨t, rfl⟩, rfl⟩ := h
  exact P.len_str (by rw [S_len]; omega) ⟨keeps_tok s _, _, by rw [S_len]⟩

/-- a method of a text -/
theorem ev_meth1 {o e : Expr} {name : Str} {apos pos : Pos} {x y : Str} {d : Da} (ho : Ev w A mg mb s₀ X env l c D o (.str x)) (he : Ev w A mg mb s₀ X env l c D e (.str y))
    (hm : ∀ s E t Q, wpAny (model pw w) A (eval e env) (fun v s₁ => ∃ u, v = .str y u ∧ ∀ v' s', Keeps s₁ s' → Holds (New s₁.heap) s'.heap d v' → Q v' s') E s → MethodOnS pw w A E name (.str x t) pos [(false, eval e env)] Q s)
    (hbase : attributeBase o name env (eval o env) = eval o env := by rfl) (hs : starEach [e] env = [(false, eval e env)] := by rfl) (hline : (apos.endLine == pos.line) = true := by rfl) :
    Ev w A mg mb s₀ X env l c D (.Call (.Attribute o name apos) [e] [] pos) d := fun s E F => by
  refine Call_method1 hbase hs hline (wpAny_mono (ho s E F) (fun v s₁ h₁ => ?_) fun _ _ e => e)
  obtain ⟨hk, t, rfl⟩ := h₁
  refine hm s₁ E t _ (wpAny_mono (he s₁ E (F.keeps hk)) (fun v s₂ h₂ => ?_) fun _ _ e => e)
  obtain ⟨hk₂, u, rfl⟩ := h₂
  exact ⟨u, rfl, fun v' s' k' h' => ⟨kt (kt hk hk₂) k', (F.keeps (kt hk hk₂)).fresh h'⟩⟩
theorem ev_rfind {o e : Expr} {apos pos : Pos} {x y : Str} (ho : Ev w A mg mb s₀ X env l c D o (.str x)) (he : Ev w A mg mb s₀ X env l c D e (.str y))
    (hbase : attributeBase o "rfind" env (eval o env) = eval o env := by rfl) (hs : starEach [e] env = [(false, eval e env)] := by rfl) (hline : (apos.endLine == pos.line) = true := by rfl) :
    Ev w A mg mb s₀ X env l c D (.Call (.Attribute o "rfind" apos) [e] [] pos) (.int (Txt.rfind x y)) :=
  ev_meth1 ho he (fun s E t Q h => SB.rfind (wpAny_mono h (fun v s₁ ⟨u, e, q⟩ => ⟨y, u, e, q _ _ (keeps_tok _ _) ⟨_, rfl⟩⟩) fun _ _ e => e)) hbase hs hline
theorem ev_startswith {o e : Expr} {apos pos : Pos} {x y : Str} (ho : Ev w A mg mb s₀ X env l c D o (.str x)) (he : Ev w A mg mb s₀ X env l c D e (.str y))
    (hbase : attributeBase o "startswith" env (eval o env) = eval o env := by rfl) (hs : starEach [e] env = [(false, eval e env)] := by rfl) (hline : (apos.endLine == pos.line) = true := by rfl) :
    Ev w A mg mb s₀ X env l c D (.Call (.Attribute o "startswith" apos) [e] [] pos) (.bool (Txt.startswith x y)) :=
  ev_meth1 ho he (fun s E t Q h => SB.startswith (wpAny_mono h (fun v s₁ ⟨u, e, q⟩ => ⟨y, u, e, q _ _ (keeps_refl _) rfl⟩) fun _ _ e => e)) hbase hs hline
theorem ev_rstrip {o e : Expr} {apos pos : Pos} {x y : Str} (ho : Ev w A mg mb s₀ X env l c D o (.str x)) (he : Ev w A mg mb s₀ X env l c D e (.str y)) (hsz : x.length ≤ sizeLine)
    (hbase : attributeBase o "rstrip" env (eval o env) = eval o env := by rfl) (hs : starEach [e] env = [(false, eval e env)] := by rfl) (hline : (apos.endLine == pos.line) = true := by rfl) :
    Ev w A mg mb s₀ X env l c D (.Call (.Attribute o "rstrip" apos) [e] [] pos) (.str (Txt.rstripChars x y)) :=
  ev_meth1 ho he (fun s E t Q h => SB.rstripChars (wpAny_mono h (fun v s₁ ⟨u, e, q⟩ => ⟨y, u, e, fun t' k => q _ _ (keeps_tok _ _) ⟨_, rfl⟩⟩) fun _ _ e => e) hsz) hbase hs hline

/-- a cut at the end -/
theorem ev_cutS {o u : Expr} {p pos : Pos} {x : List Nat} {k : Nat} (ho : Ev w A mg mb s₀ X env l c D o (.str (S x))) (hu : Ev w A mg mb s₀ X env l c D u (.int k)) (hsz : x.length ≤ sizeLine)
    (ht : ∀ v r, letTemporaryGo o v r = pure () := by intro _ _; rfl) : Ev w A mg mb s₀ X env l c D (.Subscript o (.Slice none (some u) none p) pos) (.str (S (x.take k))) := fun s E F => by
  refine wpAny_Subscript_str_slice (wpAny_mono (ho s E F) (fun v s₁ h₁ => evalPart_none_step (evalPart_some_step (wpAny_mono (hu s₁ E (F.keeps h₁.1)) (fun vu s₂ h₂ => ?_) fun _ _ e => e))) fun _ _ e => e) ht
  obtain ⟨hk, t, rfl⟩ := h₁
  obtain ⟨hk₂, u, rfl⟩ := h₂
  refine ⟨_, t, none, some ((k : Int), u), rfl, rfl, rfl, ?_⟩
  refine post_val_or_str (y := S x) ⟨Nat.le_trans (Txt.slice_le (S x) none (some (k : Int))) (by simpa using hsz), fun t' n => ⟨kt (kt hk hk₂) ⟨_, n, rfl, grow_push _ _⟩, ?_⟩⟩
  exact ⟨t', by rw [← slice_upto]; rfl⟩

/-! tests -/
theorem ts_str {e : Expr} {x : Str} (h : Ev w A mg mb s₀ X env l c D e (.str x)) (hx : x.length < 2 ^ 62)
    (he : isTrue e env (eval e env) = (do let v ← eval e env; standAt e.pos; holding [v] (truthy v)) := by rfl) : Ts w A mg mb s₀ X env l c D e (x.length != 0) := fun s E F => by
  refine wpAny_isTrue_value (wpAny_mono (h s E F) (fun v s₁ h₁ => ?_) fun _ _ e => e) he
  obtain ⟨hk, t, rfl⟩ := h₁
  refine P.truthy_str (by omega) ⟨kt hk (keeps_tok _ _), ?_⟩
  cases x.length <;> rfl
theorem ts_neS {a b : Expr} {pos : Pos} {x y : List Nat} (ha : Ev w A mg mb s₀ X env l c D a (.str (S x))) (hb : Ev w A mg mb s₀ X env l c D b (.str (S y))) (hm : behindInMarks .NotEq b = false := by with_unfolding_all rfl) :
    Ts w A mg mb s₀ X env l c D (.Compare a [.NotEq] [b] pos) (x != y) := fun s E F => by
  refine wpAny_isTrue_Compare1 (wpAny_mono (ha s E F) (fun va s₁ h₁ => wpAny_mono (hb s₁ E (F.keeps h₁.1)) (fun vb s₂ h₂ => ?_) fun _ _ e => e) fun _ _ e => e) hm
  obtain ⟨hk, t, rfl⟩ := h₁
  obtain ⟨hk₂, u, rfl⟩ := h₂
  exact P.ne_str (wpAny_truthy_bool ⟨kt hk hk₂, rfl⟩)
theorem ts_and {a b : Expr} {pos : Pos} {p q : Bool} (ha : Ts w A mg mb s₀ X env l c D a p) (hb : p = true → Ts w A mg mb s₀ X env l c D b q) : Ts w A mg mb s₀ X env l c D (.BoolOp .And [a, b] pos) (p && q) := fun s E F => by
  refine wpAny_isTrue_BoolOp (wpAny_allTrue_And_cons (wpAny_mono (ha s E F) (fun r s₁ h₁ => ?_) fun _ _ e => e))
  obtain ⟨hk, rfl⟩ := h₁
  cases r with
  | false => exact ⟨hk, rfl⟩
  | true =>
    refine wpAny_allTrue_And_cons (wpAny_mono (hb rfl s₁ E (F.keeps hk)) (fun r s₂ h₂ => ?_) fun _ _ e => e)
    obtain ⟨hk₂, rfl⟩ := h₂
    cases r with
    | false => exact ⟨kt hk hk₂, rfl⟩
    | true => exact wpAny_allTrue_And_nil ⟨kt hk hk₂, rfl⟩

/-! dirname -/
noncomputable def dirL (l : List Nat) : List Nat := if (upto l).all (· == 47) then upto l else rstripL (upto l)
theorem dir_test (h : List Nat) : ((h.length != 0) && (h != List.replicate h.length 47)) = !(h.all (· == 47)) := by
  by_cases e : h.all (· == 47) = true
  · have : h = List.replicate h.length 47 := List.eq_replicate_of_mem fun x hx => by simpa using List.all_eq_true.mp e x hx
    rw [e]
    simp [bne_iff_ne, ← this]
  · have e' : h.all (· == 47) = false := by simpa using e
    rw [e']
    have h0 : h ≠ [] := by rintro rfl; simp at e'
    have h1 : h ≠ List.replicate h.length 47 := fun q => by
      apply e
      rw [q]; simp
    simp [h0, h1]
theorem upto_le (l : List Nat) : (upto l).length ≤ l.length := by
  unfold upto
  rw [List.length_reverse, ← List.length_reverse (as := l)]
  exact (List.dropWhile_suffix _).length_le
theorem dirname_spec {x : List Nat} (hd : A.depth + 1 < recursionLimit) (hx : x.length < 65536) : Spec w A "dirname" 14 [.str (S x)] (.str (S (dirL x))) := by
  have hsz : sizeLine = 16777216 := sizeLine_eq
  refine enter (ps := ["p"]) (by omega) (fun pm cd doc vs hl => ?_) (by decide +kernel) rfl rfl rfl ?_
  · match vs, hl with
    | [v], _ => rfl
  · intro X mg mb s s' E a env vs hs hc hh hl _ _ _ F
    match vs, hl with
    | [v], _ =>
    have kd : ∀ {x : Str} {kd : NameKind}, (scoAt 14).names.lookup x = some kd → env.kindOf x = some kd := fun h => kindOf_eq hs h
    have hu := upto_le x
    refine ex_assign F (ev_fn (k := 9) (kd (by decide +kernel)) (by decide +kernel) (evl_cons (ev_local (kd (by decide +kernel)) rfl (.head _)) evl_nil) (fspath_spec hd)) (kd (by decide +kernel)) fun v₁ s₁ F => ?_
    refine ex_assign F (ev_fn (k := 13) (kd (by decide +kernel)) (by decide +kernel) (evl_cons (ev_local (kd (by decide +kernel)) rfl (.head _)) evl_nil) (getsep_spec hd)) (kd (by decide +kernel)) fun v₂ s₂ F => ?_
    refine ex_assign F (ev_addI (ev_rfind (y := S [47]) (ev_local (d := .str (S x)) (v := v₁) (kd (by decide +kernel)) rfl (.tail _ (.head _))) (ev_local (kd (by decide +kernel)) rfl (.head _))) ev_int) (kd (by decide +kernel)) fun v₃ s₃ F => ?_
    rw [rfind_S] at F
    refine ex_assign F (ev_cutS (ev_local (d := .str (S x)) (kd (by decide +kernel)) rfl (.tail _ (.tail _ (.head _)))) (ev_local (kd (by decide +kernel)) rfl (.head _)) (by omega)) (kd (by decide +kernel)) fun v₄ s₄ F => ?_
    rw [← upto_take] at F
    refine ex_if F (ts_and (ts_str (ev_local (d := .str (S (upto x))) (kd (by decide +kernel)) rfl (.head _)) (by rw [S_len]; omega))
      fun _ => ts_neS (ev_local (d := .str (S (upto x))) (kd (by decide +kernel)) rfl (.head _)) (ev_mulS (n := (upto x).length) (ev_local (v := v₂) (kd (by decide +kernel)) rfl (.tail _ (.tail _ (.head _))))
        (ev_blt (kd (by decide +kernel)) (fun T => T.fr "len" (by decide +kernel)) Boot.«len» (evl_cons (ev_local (d := .str (S (upto x))) (kd (by decide +kernel)) rfl (.head _)) evl_nil) (b_len (by omega))) (by omega))) fun s₅ k₅ => ?_
    rw [S_len, dir_test]
    have F := F.keeps k₅
    unfold dirL
    cases hb : (upto x).all (· == 47) with
    | true => exact wpAny_execs_nil (ex_ret F (ev_local (d := .str (S (upto x))) (kd (by decide +kernel)) rfl (.head _)) fun v₆ s₆ k₆ h₆ => ⟨(F.keeps k₆).done, h₆⟩)
    | false =>
      refine ex_assign F (ev_rstrip (y := S [47]) (ev_local (d := .str (S (upto x))) (kd (by decide +kernel)) rfl (.head _)) (ev_local (v := v₂) (kd (by decide +kernel)) rfl (.tail _ (.tail _ (.head _)))) (by rw [S_len]; omega)) (kd (by decide +kernel)) fun v₆ s₆ F => ?_
      rw [rstrip_S] at F
      exact wpAny_execs_nil (ex_ret F (ev_local (kd (by decide +kernel)) rfl (.head _)) fun v₇ s₇ k₇ h₇ => ⟨(F.keeps k₇).done, h₇⟩)
end
end Mine

end
section
open PySem PySem.W PyProof.Rows
namespace Mine
section
variable {w : World} {A : Around} {mg mb : Str → Option Value} {s₀ : Base} {X : Addr → Prop} {env : Env} {l c : List (Str × Value)} {D : List (Da × Value)}

theorem ev_use {e : Expr} {d : Da} {s : Shared} {E : Value → Shared → Prop} {Q : Value → Shared → Prop} (h : Ev w A mg mb s₀ X env l c D e d) (F : Cx mg mb s₀ X env l c D s)
    (hq : ∀ v s', Keeps s s' → Holds X s'.heap d v → Q v s') : wpAny (model pw w) A (eval e env) Q E s := wpAny_mono (h s E F) (fun v s' h' => hq v s' h'.1 h'.2) fun _ _ e => e

/-- a subscript -/
theorem ev_sub {value slice : Expr} {pos : Pos} {da di d : Da} {T id : String} (hv : Ev w A mg mb s₀ X env l c D value da) (hi : Ev w A mg mb s₀ X env l c D slice di)
    (hl : typeLookup (.type T) "__getitem__" = pure (some (.builtin id)))
    (hg : ∀ s E vo vi, (∀ b, New s.heap b → X b) → Holds X s.heap da vo → Holds X s.heap di vi → s.TypeIs vo T ∧ wpAny (model pw w) A (getItem vo vi) (fun v s' => Keeps s s' ∧ Holds X s'.heap d v) E s)
    (hs : ∀ o i, subscripted slice false o i = operate [o, i] (getItem o i) := by intro _ _; with_unfolding_all rfl) : Ev w A mg mb s₀ X env l c D (.Subscript value slice pos) d := fun s E F => by
  refine Subscript_ (wpAny_mono (hv s E F) (fun vo s₁ h₁ => wpAny_mono (hi s₁ E (F.keeps h₁.1)) (fun vi s₂ h₂ => ?_) fun _ _ e => e) fun _ _ e => e)
  have K := kt h₁.1 h₂.1
  obtain ⟨hT, hq⟩ := hg s₂ E vo vi (F.keeps K).xn (h₁.2.grow (kg h₂.1)) h₂.2
  unfold subscriptTail
  refine wpAny_bind ?_
  rw [getitemInPython_of_ne hT.not_modules]
  refine wpAny_bind (wpAny_specialOf hT hl ?_)
  have fin : wpAny (model pw w) A (subscripted slice false vo vi) (fun r s₃ => wpAny (model pw w) A (letTemporaryGo value vo r >>= fun _ => pure r) (fun v s' => Keeps s s' ∧ Holds X s'.heap d v) E s₃) E s₂ := by
    rw [hs]
    exact wpAny_operating (wpAny_mono hq (fun r s₃ h₃ => wpAny_bind (wpAny_letTemporaryGo (wpAny_pure ⟨kt K h₃.1, h₃.2⟩))) fun _ _ x => x)
  first
    | exact wpAny_pure (wpAny_bind fin)
    | exact wpAny_bind (wpAny_pure (wpAny_bind fin))
    | exact wpAny_bind fin

theorem HoldsL.nth {X : Addr → Prop} {h : Heap} : ∀ {ds : List Da} {vs : List Value}, HoldsL X h ds vs → ∀ {i : Nat} {d : Da}, ds[i]? = some d → ∃ v, vs[i]? = some v ∧ Holds X h d v
  | [], _, x, i, v, e => by simp at e
  | d :: ds, _, x, i, v, e => by
    obtain ⟨u, r, rfl, hd, hr⟩ := x
    cases i with
    | zero => simp at e; subst e; exact ⟨u, rfl, hd⟩
    | succ i => simpa using HoldsL.nth hr (by simpa using e)

theorem ev_itemT {value slice : Expr} {pos : Pos} {ds : List Da} {k : Nat} {d : Da} (hv : Ev w A mg mb s₀ X env l c D value (.tup ds)) (hi : Ev w A mg mb s₀ X env l c D slice (.int k)) (hk : ds[k]? = some d) (hb : k < 65536)
    (hs : ∀ o i, subscripted slice false o i = operate [o, i] (getItem o i) := by intro _ _; with_unfolding_all rfl) : Ev w A mg mb s₀ X env l c D (.Subscript value slice pos) d :=
  ev_sub (T := "tuple") hv hi F.slot_tuple_getitem.lookup (fun s E vo vi hX h1 h2 => by
    obtain ⟨a, vs, rfl, xa, ho, hl⟩ := h1
    obtain ⟨t, rfl⟩ := h2
    obtain ⟨v, e1, e2⟩ := hl.nth hk
    have hlt : k < vs.length := (List.getElem?_eq_some_iff.mp e1).1
    refine ⟨ho.type, PyProof.Rows.getItem_tuple (items := vs.toArray) (j := k) ho (by omega) (by omega) ?_ (by simpa using e1) ⟨keeps_refl s, e2⟩⟩
    unfold seqIndex?
    simp only [List.size_toArray]
    have h1 : ¬ ((k : Int) < 0) := by omega
    simp [h1, hlt]) hs
theorem ev_itemL {value slice : Expr} {pos : Pos} {ds : List Da} {k : Nat} {d : Da} (hv : Ev w A mg mb s₀ X env l c D value (.list ds)) (hi : Ev w A mg mb s₀ X env l c D slice (.int k)) (hk : ds[k]? = some d) (hb : k < 65536)
    (hs : ∀ o i, subscripted slice false o i = operate [o, i] (getItem o i) := by intro _ _; with_unfolding_all rfl) : Ev w A mg mb s₀ X env l c D (.Subscript value slice pos) d :=
  ev_sub (T := "list") hv hi slot_list_getitem.lookup (fun s E vo vi hX h1 h2 => by
    obtain ⟨a, vs, rfl, xa, ho, hl⟩ := h1
    obtain ⟨t, rfl⟩ := h2
    obtain ⟨v, e1, e2⟩ := hl.nth hk
    exact ⟨ho.type, wpAny_getItem_list ho.list (by omega) (by omega) (by simpa using e1) ⟨keeps_refl s, e2⟩⟩) hs
theorem ev_itemS {value slice : Expr} {pos : Pos} {x : List Nat} {k : Nat} {n : Nat} (hv : Ev w A mg mb s₀ X env l c D value (.str (S x))) (hi : Ev w A mg mb s₀ X env l c D slice (.int k)) (hk : x[k]? = some n) (hb : k < 65536)
    (hs : ∀ o i, subscripted slice false o i = operate [o, i] (getItem o i) := by intro _ _; with_unfolding_all rfl) : Ev w A mg mb s₀ X env l c D (.Subscript value slice pos) (.str (S [n])) :=
  ev_sub (T := "str") hv hi F.slot_str_getitem.lookup (fun s E vo vi hX h1 h2 => by
    obtain ⟨t, rfl⟩ := h1
    obtain ⟨u, rfl⟩ := h2
    have hlt : k < x.length := (List.getElem?_eq_some_iff.mp hk).1
    have hc : Txt.charAt (S x) (k : Int) = some n := by
      have h1 : seqIndex? (k : Int) x.length = some k := by
        unfold seqIndex?
        have h1 : ¬ ((k : Int) < 0) := by omega
        simp [h1, hlt]
      simp [Txt.charAt, S, Str.length, hk, h1]
    refine ⟨typeIs_str _ _ _, SB.getItem (by simp [fitsSsize]; omega) (by rw [hc]; rfl) ⟨keeps_tok s _, s.toks, ?_⟩⟩
    unfold Txt.item; rw [hc]; rfl) hs

/-- a comparison as a value, and as a test -/
theorem ev_cmp {a b : Expr} {op : CmpOp} {pos : Pos} {da db d : Da} (ha : Ev w A mg mb s₀ X env l c D a da) (hb : Ev w A mg mb s₀ X env l c D b db)
    (hop : ∀ s E va vb, TopF mg mb s.heap → (∀ b, New s.heap b → X b) → Holds X s.heap da va → Holds X s.heap db vb → wpAny (model pw w) A (compareOp op va vb) (fun v s' => Keeps s s' ∧ Holds X s'.heap d v) E s)
    (hm : behindInMarks op b = false := by with_unfolding_all rfl) : Ev w A mg mb s₀ X env l c D (.Compare a [op] [b] pos) d := fun s E F => by
  refine wpAny_Compare1 (wpAny_mono (ha s E F) (fun va s₁ h₁ => wpAny_mono (hb s₁ E (F.keeps h₁.1)) (fun vb s₂ h₂ => ?_) fun _ _ e => e) fun _ _ e => e) hm
  have K := kt h₁.1 h₂.1
  exact wpAny_mono (hop s₂ E va vb (F.keeps K).topNow (F.keeps K).xn (h₁.2.grow (kg h₂.1)) h₂.2) (fun v s₃ h₃ => ⟨kt K h₃.1, h₃.2⟩) fun _ _ e => e
theorem ts_cmp {a b : Expr} {op : CmpOp} {pos : Pos} {da db : Da} {r : Bool} (ha : Ev w A mg mb s₀ X env l c D a da) (hb : Ev w A mg mb s₀ X env l c D b db)
    (hop : ∀ s E va vb, TopF mg mb s.heap → (∀ b, New s.heap b → X b) → Holds X s.heap da va → Holds X s.heap db vb → wpAny (model pw w) A (compareOp op va vb) (fun v s' => Keeps s s' ∧ v = .bool r) E s)
    (hm : behindInMarks op b = false := by with_unfolding_all rfl) : Ts w A mg mb s₀ X env l c D (.Compare a [op] [b] pos) r := fun s E F => by
  refine wpAny_isTrue_Compare1 (wpAny_mono (ha s E F) (fun va s₁ h₁ => wpAny_mono (hb s₁ E (F.keeps h₁.1)) (fun vb s₂ h₂ => ?_) fun _ _ e => e) fun _ _ e => e) hm
  have K := kt h₁.1 h₂.1
  exact wpAny_mono (hop s₂ E va vb (F.keeps K).topNow (F.keeps K).xn (h₁.2.grow (kg h₂.1)) h₂.2) (fun v s₃ h₃ => by
    obtain ⟨k, rfl⟩ := h₃
    exact wpAny_truthy_bool ⟨kt K k, rfl⟩) fun _ _ e => e
theorem ts_ltI {a b : Expr} {pos : Pos} {i j : Int} (ha : Ev w A mg mb s₀ X env l c D a (.int i)) (hb : Ev w A mg mb s₀ X env l c D b (.int j)) (hm : behindInMarks .Lt b = false := by with_unfolding_all rfl) :
    Ts w A mg mb s₀ X env l c D (.Compare a [.Lt] [b] pos) (decide (i < j)) := ts_cmp ha hb (fun s E va vb _ hX h1 h2 => by
    obtain ⟨t, rfl⟩ := h1
    obtain ⟨u, rfl⟩ := h2
    exact wpAny_lt_int ⟨keeps_refl s, rfl⟩) hm
theorem ts_eqS {a b : Expr} {pos : Pos} {x y : List Nat} (ha : Ev w A mg mb s₀ X env l c D a (.str (S x))) (hb : Ev w A mg mb s₀ X env l c D b (.str (S y))) (hm : behindInMarks .Eq b = false := by with_unfolding_all rfl) :
    Ts w A mg mb s₀ X env l c D (.Compare a [.Eq] [b] pos) (x == y) := ts_cmp ha hb (fun s E va vb _ hX h1 h2 => by
    obtain ⟨t, rfl⟩ := h1
    obtain ⟨u, rfl⟩ := h2
    refine P.eq_str ⟨keeps_refl s, ?_⟩
    rfl) hm
theorem ts_isNotNone {a : Expr} {k : Nat} {p pos : Pos} {d : Da} {r : Bool} (ha : Ev w A mg mb s₀ X env l c D a d) (hr : ∀ h v, Holds X h d v → (!(v == .none)) = r) :
    Ts w A mg mb s₀ X env l c D (.Compare a [.IsNot] [.Constant .none k p] pos) r := ts_cmp ha ev_none (fun s E va vb _ hX h1 h2 => by
    obtain rfl : vb = .none := h2
    exact isNot_none ⟨keeps_refl s, by rw [hr _ _ h1]⟩)
theorem ts_isNone {a : Expr} {k : Nat} {p pos : Pos} {d : Da} {r : Bool} (ha : Ev w A mg mb s₀ X env l c D a d) (hr : ∀ h v, Holds X h d v → (v == .none) = r) :
    Ts w A mg mb s₀ X env l c D (.Compare a [.Is] [.Constant .none k p] pos) r := ts_cmp ha ev_none (fun s E va vb _ hX h1 h2 => by
    obtain rfl : vb = .none := h2
    exact is_none ⟨keeps_refl s, by rw [hr _ _ h1]⟩)
theorem ts_not {e : Expr} {pos : Pos} {r : Bool} (h : Ts w A mg mb s₀ X env l c D e r) : Ts w A mg mb s₀ X env l c D (.UnaryOp .Not e pos) (!r) := fun s E F =>
  wpAny_isTrue_Not (wpAny_mono (h s E F) (fun b s₁ h₁ => ⟨h₁.1, by rw [h₁.2]⟩) fun _ _ e => e)
/-- a value of a truth as a test -/
theorem ts_bool {e : Expr} {b : Bool} (h : Ev w A mg mb s₀ X env l c D e (.bool b)) (he : isTrue e env (eval e env) = (do let v ← eval e env; standAt e.pos; holding [v] (truthy v)) := by rfl) : Ts w A mg mb s₀ X env l c D e b := fun s E F =>
  wpAny_isTrue_value (wpAny_mono (h s E F) (fun v s₁ h₁ => by
    obtain ⟨hk, rfl⟩ := h₁
    exact wpAny_truthy_bool ⟨hk, rfl⟩) fun _ _ e => e) he
theorem ev_ifexp {t a b : Expr} {pos : Pos} {r : Bool} {d : Da} (ht : Ts w A mg mb s₀ X env l c D t r) (ha : r = true → Ev w A mg mb s₀ X env l c D a d) (hb : r = false → Ev w A mg mb s₀ X env l c D b d) :
    Ev w A mg mb s₀ X env l c D (.IfExp t a b pos) d := fun s E F => by
  refine wpAny_IfExp (wpAny_mono (ht s E F) (fun q s₁ h₁ => ?_) fun _ _ e => e)
  obtain ⟨hk, rfl⟩ := h₁
  cases q with
  | true => exact wpAny_mono (ha rfl s₁ E (F.keeps hk)) (fun v s₂ h₂ => ⟨kt hk h₂.1, h₂.2⟩) fun _ _ e => e
  | false => exact wpAny_mono (hb rfl s₁ E (F.keeps hk)) (fun v s₂ h₂ => ⟨kt hk h₂.1, h₂.2⟩) fun _ _ e => e
theorem ev_modI {a b : Expr} {pos : Pos} {i j : Int} (ha : Ev w A mg mb s₀ X env l c D a (.int i)) (hb : Ev w A mg mb s₀ X env l c D b (.int j)) (hj : 0 < j) : Ev w A mg mb s₀ X env l c D (.BinOp a .Mod b pos) (.int (i % j)) :=
  ev_bin ha hb fun s E va vb hX h1 h2 => by
    obtain ⟨t, rfl⟩ := h1
    obtain ⟨u, rfl⟩ := h2
    refine IsLeap.wpAny_mod_int (by omega) ⟨keeps_tok s _, _, by rw [Int.fmod_eq_emod_of_nonneg _ (by omega)]⟩

theorem b_ord {n : Nat} : BSpec w A (.builtin "ord") [.str (S [n])] (.int n) := fun X s E vs hX h => by
  obtain ⟨v, r, rfl, ⟨t, rfl⟩, rfl⟩ := h
  exact P.ord_of_char ⟨keeps_tok s _, _, rfl⟩
theorem b_chr {n : Nat} (hn : n < 1114112) : BSpec w A (.builtin "chr") [.int n] (.str (S [n])) := fun X s E vs hX h => by
  obtain ⟨v, r, rfl, ⟨t, rfl⟩, rfl⟩ := h
  refine P.chr_of_int ?_ ⟨keeps_tok s _, s.toks, by simp [S]⟩
  have h1 : ¬ ((n : Int) < 0) := by omega
  have h2 : ¬ ((n : Int) > 0x10FFFF) := by omega
  rw [decide_eq_false h1, decide_eq_false h2]; rfl

/-- the call context's own facts, in a judgement -/
theorem ev_of_top {e : Expr} {d : Da} (h : ∀ {h'}, TopF mg mb h' → Ev w A mg mb s₀ X env l c D e d) : Ev w A mg mb s₀ X env l c D e d := fun s E F => h F.topNow s E F

/-! in_table_b1 -/
noncomputable def inB1 (n : Nat) : Bool := b1L.any (· == (n : Int))
theorem b1_spec {n : Nat} (hd : A.depth < recursionLimit) : Spec w A "in_table_b1" 18 [.str (S [n])] (.bool (inB1 n)) := by
  refine enter (ps := ["code"]) hd (fun pm cd doc vs hl => ?_) (by decide +kernel) rfl rfl rfl ?_
  · match vs, hl with
    | [v], _ => rfl
  · intro X mg mb s s' E a env vs hs hc hh hl _ _ _ F
    match vs, hl with
    | [v], _ =>
    have kd : ∀ {x : Str} {kd : NameKind}, (scoAt 18).names.lookup x = some kd → env.kindOf x = some kd := fun h => kindOf_eq hs h
    obtain ⟨a, o, m, e1, e2, e3, e4⟩ := F.topNow.b1
    refine ex_ret F (d := .bool (inB1 n)) (fun s₁ E₁ F₁ => ?_) fun v₃ s₃ k₃ h₃ => ⟨((F.keeps k₃)).done, h₃⟩
    refine wpAny_Compare1 (ev_use (ev_blt (kd (by decide +kernel)) (fun T => T.fr "ord" (by decide +kernel)) Boot.«ord» (evl_cons (ev_local (kd (by decide +kernel)) rfl (.head _)) evl_nil) (b_ord (n := n))) F₁ fun va s₂ k₂ h₂ => ?_)
    obtain ⟨t, rfl⟩ := h₂
    obtain ⟨a, o, m, e1, e2, e3, e4⟩ := (F₁.keeps k₂).topNow.b1
    refine (F₁.keeps k₂).ldG (kd (by decide +kernel)) e1 ?_ (by decide +kernel)
    exact wpAny_inSet_of (knd := intKind pw w) (intKind_is pw w n t) rfl ((e3.kind pw w).setOf e2 e4) ⟨kt k₂ (keeps_tok _ _), rfl⟩

/-! map_table_b3 -/
noncomputable def b3L (n : Nat) : List Nat := match b3 (n : Int) with | some x => x.cps.toList | none => (Txt.lower (S [n])).cps.toList
theorem b3_spec {n : Nat} (hd : A.depth < recursionLimit) : Spec w A "map_table_b3" 20 [.str (S [n])] (.str (S (b3L n))) := by
  refine enter (ps := ["code"]) hd (fun pm cd doc vs hl => ?_) (by decide +kernel) rfl rfl rfl ?_
  · match vs, hl with
    | [v], _ => rfl
  · intro X mg mb s s' E a env vs hs hc hh hl _ _ _ F
    match vs, hl with
    | [v], _ =>
    have kd : ∀ {x : Str} {kd : NameKind}, (scoAt 20).names.lookup x = some kd → env.kindOf x = some kd := fun h => kindOf_eq hs h
    have hget : ∀ {p1 p2 p3 p4 p5 p6 : Pos}, (p2.endLine == p6.line) = true → Ev w (A.deeper env) mg mb (.of s) (fun b => X b ∧ Away env b) env [("code", v)] [] [(.str (S [n]), v)]
      (.Call (.Attribute (.Name "b3_exceptions" p1) "get" p2) [.Call (.Name "ord" p3) [.Name "code" p4] [] p5] [] p6) (match b3 (n : Int) with | some x => .str x | none => .none) := by
      intro p1 p2 p3 p4 p5 p6 hp s₁ E₁ F₁
      refine Call_method1 rfl rfl hp ?_
      obtain ⟨d, f, e1, e2, e3, e4⟩ := F₁.topNow.b3
      refine F₁.ldG (kd (by decide +kernel)) e1 ?_ (by decide +kernel)
      refine ⟨"dict", "dict.get", PySem.F.plainAttrs_dict, PySem.F.slot_dict_get, PySem.F.type_dict_get, (e3 w).typeIs, (e3 w).noDict, wpAny_dict_get1 (knd := intKind pw w) e2 (ev_use (ev_blt (kd (by decide +kernel)) (fun T => T.fr "ord" (by decide +kernel)) Boot.«ord» (evl_cons (ev_local (kd (by decide +kernel)) rfl (.head _)) evl_nil) (b_ord (n := n))) F₁ fun va s₂ k₂ h₂ => ?_)⟩
      obtain ⟨t, rfl⟩ := h₂
      refine ⟨(n : Int), f, intKind_is pw w n t, ?_, kt k₂ (keeps_tok _ _), ?_⟩
      · obtain ⟨o, es, ep, g, r⟩ := e3 w
        exact ⟨o, es, ep, kg k₂ _ _ g, r⟩
      · rcases e4 n with ⟨h1, h2⟩ | ⟨x, t, h1, h2⟩
        · rw [h1, h2]; rfl
        · rw [h1, h2]; exact ⟨t, rfl⟩
    refine ex_assign F (hget rfl) (kd (by decide +kernel)) fun v₁ s₁ F => ?_
    unfold b3L
    cases hb : b3 (n : Int) with
    | some x =>
      rw [hb] at F
      refine ex_if (b := true) F (ts_isNotNone (ev_local (d := .str x) (kd (by decide +kernel)) rfl (.head _)) fun h v hv => by obtain ⟨t, rfl⟩ := hv; rfl) fun s₂ k₂ => ?_
      refine ex_ret (F.keeps k₂) (ev_local (d := .str x) (kd (by decide +kernel)) rfl (.head _)) fun v₃ s₃ k₃ h₃ => ⟨((F.keeps k₂).keeps k₃).done, ?_⟩
      show Holds _ _ (.str (S x.cps.toList)) _
      rw [S_of]; exact h₃
    | none =>
      rw [hb] at F
      refine ex_if (b := false) F (ts_isNotNone (ev_local (d := .none) (kd (by decide +kernel)) rfl (.head _)) fun h v hv => by obtain rfl : v = .none := hv; rfl) fun s₂ k₂ => ?_
      refine wpAny_execs_nil ?_
      refine ex_ret (F.keeps k₂) (d := .str (Txt.lower (S [n]))) (fun s₃ E₃ F₃ => ?_) fun v₃ s₃ k₃ h₃ => ⟨((F.keeps k₂).keeps k₃).done, ?_⟩
      · refine Call_method0 rfl rfl (ev_use (ev_local (d := .str (S [n])) (kd (by decide +kernel)) rfl (.tail _ (.head _))) F₃ fun va s₄ k₄ h₄ => ?_)
        obtain ⟨t, rfl⟩ := h₄
        exact SBL.lower (by rw [S_len]; simp) fun _ => ⟨kt k₄ (keeps_tok _ _), _, rfl⟩
      · show Holds _ _ (.str (S (Txt.lower (S [n])).cps.toList)) _
        rw [S_of]; exact h₃
end
end Mine

end
section
open PySem PySem.W PyProof.Rows
namespace Mine

/-- what the machine may do with a tuple that an iterator gave -/
noncomputable def Own (w : World) (A : Around) (wr : Addr → Prop) (I : Addr) (v : Value) (St : Heap → Prop) (s : Shared) : Prop :=
  ∀ elts k pos (Q : Unit → Shared → Prop) (E : Value → Shared → Prop), (∀ h', St h' → (∀ b o, ¬ wr b → s.heap.get? b = some o → h'.get? b = some o) → Q () { s with heap := h' }) →
    wpAny (model pw w) A (letOwnedTupleGo (.Tuple elts k pos) (.ref I) v) Q E s

/-- an iterator over data -/
structure Walk (w : World) (A : Around) (X wr : Addr → Prop) (I : Addr) (ds : List Da) (St : Nat → Heap → Prop) : Prop where
  off : ∀ b, X b → ¬ wr b
  live : ∀ i h, St i h → ∀ b, wr b → ∃ o, h.get? b = some o
  frame : ∀ i h h', St i h → (∀ b o, X b ∨ wr b → h.get? b = some o → h'.get? b = some o) → St i h'
  item : ∀ i d (s : Shared) (Q : Option Value → Shared → Prop) (E : Value → Shared → Prop), ds[i]? = some d → St i s.heap → (∀ b, New s.heap b → X b) →
    (∀ v h' tk, Holds X h' d v → St (i + 1) h' → (∀ b o, ¬ wr b → s.heap.get? b = some o → h'.get? b = some o) → Own w A wr I v (St (i + 1)) { s with heap := h', toks := tk } →
      Q (some v) { s with heap := h', toks := tk }) → wpAny (model pw w) A (pyNext (.ref I)) Q E s
  done : ∀ (s : Shared) (Q : Option Value → Shared → Prop) (E : Value → Shared → Prop), St ds.length s.heap →
    (∀ h' tk, (∀ b o, ¬ wr b → s.heap.get? b = some o → h'.get? b = some o) → Q none { s with heap := h', toks := tk }) → wpAny (model pw w) A (pyNext (.ref I)) Q E s
  self : ∀ i (s : Shared) (Q : Value → Shared → Prop) (E : Value → Shared → Prop), St i s.heap → Q (.ref I) s → wpAny (model pw w) A (pyIter (.ref I)) Q E s

theorem own_plain {w : World} {A : Around} {I : Addr} {v : Value} {wr : Addr → Prop} {St : Heap → Prop} {s : Shared} {o : Obj} (ho : s.heap.get? I = some o) {n : String} (hc : o.cls = .type n)
    (hn : ["enumerate", "zip", "dict_itemiterator", "dict_reverseitemiterator", "odict_iterator", "itertools.zip_longest", "itertools.pairwise"].contains n = false) (hst : St s.heap) : Own w A wr I v St s := by
  intro elts k pos Q E hQ
  have hq := hQ s.heap hst fun _ _ _ e => e
  unfold letOwnedTupleGo
  cases v with
  | ref a =>
    show wpAny _ _ (load I >>= _) _ _ s
    refine wpAny_bind (wpAny_load ho ?_)
    obtain ⟨oc, od, odt, osl⟩ := o
    dsimp only at hc
    subst hc
    cases odt with
    | fields vs =>
      show wpAny _ A (if (_ && _) = true then _ else _) Q E s
      rw [hn, Bool.false_and, if_neg (by decide)]
      exact wpAny_pure hq
    | _ => exact wpAny_pure hq
  | _ => exact wpAny_pure hq

/-- from the library's walks over a held row of values -/
theorem Walk.of {w : World} {A : Around} {X : Addr → Prop} {I : Addr} {fp : List Addr} {vs : List Value} {P : Nat → Value → Prop} {St : Nat → Heap → Prop} {ds : List Da} {m : Nat} {n : String}
    (W : Walks pw w A I fp [I] m P St) (hm : m = ds.length) (hX : ∀ b, X b → ¬ b = I) (hfp : ∀ b ∈ fp, b = I ∨ X b) (hI : ∀ i h, St i h → ∃ o, h.get? I = some o ∧ o.cls = .type n)
    (hn : ["enumerate", "zip", "dict_itemiterator", "dict_reverseitemiterator", "odict_iterator", "itertools.zip_longest", "itertools.pairwise"].contains n = false)
    (hP : ∀ i d v, ds[i]? = some d → P i v → ∀ h, HoldsL X h ds vs → Holds X h d v) :
    Walk w A X (fun b => b = I) I ds (fun i h => St i h ∧ HoldsL X h ds vs) where
  off := hX
  live := fun i h st b hb => by
    obtain ⟨o, ho, _⟩ := hI i h st.1
    subst hb; exact ⟨o, ho⟩
  frame := fun i h h' st hk => ⟨W.frame i h h' st.1 fun b hb o e => hk b o (by
    by_cases q : b = I
    · exact .inr q
    · exact .inl ((hfp b hb).resolve_left q)) e, st.2.ext fun b o xb e => ⟨xb, hk b o (.inl xb) e⟩⟩
  item := fun i d s Q E hd st hn' hQ => by
    have hlt : i < m := by rw [hm]; exact (List.getElem?_eq_some_iff.mp hd).1
    refine W.item i s Q E hlt st.1 fun v h' tk hp st' hk => ?_
    have hk' : ∀ b o, ¬ b = I → s.heap.get? b = some o → h'.get? b = some o := fun b o q => hk b o (by simpa using q)
    have hl : HoldsL X h' ds vs := st.2.ext fun b o xb e => ⟨xb, hk' b o (hX b xb) e⟩
    obtain ⟨o, ho, hc⟩ := hI _ _ st'
    exact hQ v h' tk (hP i d v hd hp h' hl) ⟨st', hl⟩ hk' (own_plain ho hc hn ⟨st', hl⟩)
  done := fun s Q E st hQ => W.done s Q E (hm ▸ st.1) fun h' tk hk => hQ h' tk fun b o q => hk b o (by simpa using q)
  self := fun i s Q E st hQ => W.self i s Q E st.1 hQ

section
variable {w : World} {A : Around} {mg mb : Str → Option Value} {s₀ : Base} {X : Addr → Prop} {env : Env} {l c : List (Str × Value)} {D : List (Da × Value)}

/-- an expression's value may be walked, and gives data -/
noncomputable def It (w : World) (A : Around) (mg mb : Str → Option Value) (s₀ : Base) (X : Addr → Prop) (env : Env) (l c : List (Str × Value)) (D : List (Da × Value)) (e : Expr) (ds : List Da) : Prop :=
  ∀ s E, Cx mg mb s₀ X env l c D s → wpAny (model pw w) A (eval e env) (fun v s₁ => Keeps s s₁ ∧ wpAny (model pw w) A (pyIter v) (fun it s₂ => Keeps s₁ s₂ ∧
    ∃ I wr, it = .ref I ∧ (∀ b, wr b → New s.heap b) ∧ (∀ b, wr b → ∃ o, s₂.heap.get? b = some o) ∧ ∀ Y : Addr → Prop, (∀ b, Y b → X b ∧ ¬ wr b) → (∀ b o, X b → ¬ wr b → s₂.heap.get? b = some o → Y b) →
      ∃ St, Walk w A Y wr I ds St ∧ St 0 s₂.heap) E s₁) E s

theorem new_ne {h : Heap} {b I : Addr} {o : Obj} (hI : New h I) (e : h.get? b = some o) : ¬ b = I := fun q => by rw [q, hI] at e; cases e

theorem it_list {e : Expr} {ds : List Da} (hh : A.handled = none) (h : Ev w A mg mb s₀ X env l c D e (.list ds)) : It w A mg mb s₀ X env l c D e ds := fun s E F => by
  refine ev_use h F fun v s₁ k₁ h₁ => ?_
  obtain ⟨a, vs, rfl, xa, ho, hl⟩ := h₁
  refine ⟨k₁, wpAny_pyIter_list ho.list ?_⟩
  obtain ⟨oa, hoa⟩ := ho.some
  have hnew : New s₁.heap s₁.heap.objs.size := new_size _
  have hne : a ≠ s₁.heap.objs.size := new_ne hnew hoa
  have hlen := hl.length
  refine ⟨⟨_, s₁.toks, rfl, grow_push _ _⟩, s₁.heap.objs.size, fun b => b = s₁.heap.objs.size, rfl, fun b hb => by subst hb; exact New.back (kg k₁) hnew, fun b hb => by subst hb; exact ⟨_, Heap.get?_push_size _ rfl⟩, fun Y hY hY' => ?_⟩
  have W := Walk.of (X := Y) (vs := vs) (ds := ds) (n := "list_iterator") (Walks.list (prog := pw) (w := w) hh s₁.heap.objs.size a hne vs.toArray) (by simpa using hlen) (fun b hb => (hY b hb).2)
    (fun b hb => by
      rcases List.mem_cons.mp hb with rfl | hb
      · exact .inl rfl
      · rw [List.mem_singleton.mp hb]; exact .inr (hY' _ _ xa hne (grow_push _ _ _ _ hoa)))
    (fun i h st => by obtain ⟨o, ho, hc, _⟩ := st.1; exact ⟨o, ho, hc⟩) (by decide)
    (fun i d v hd hv h hh => by
      obtain ⟨u, e1, e2⟩ := hh.nth hd
      have : v = u := by simpa [e1] using hv.symm
      subst this; exact e2)
  exact ⟨_, W, ⟨⟨_, Heap.get?_push_size _ rfl, rfl, rfl⟩, ho.at (grow_push _ _ _)⟩, hl.ext fun b o xb e => ⟨hY' b o xb (new_ne hnew e) (grow_push _ _ _ _ e), grow_push _ _ _ _ e⟩⟩
theorem it_tup {e : Expr} {ds : List Da} (hh : A.handled = none) (h : Ev w A mg mb s₀ X env l c D e (.tup ds)) : It w A mg mb s₀ X env l c D e ds := fun s E F => by
  refine ev_use h F fun v s₁ k₁ h₁ => ?_
  obtain ⟨a, vs, rfl, xa, ho, hl⟩ := h₁
  refine ⟨k₁, iter_tuple (items := vs.toArray) ho ?_⟩
  obtain ⟨oa, hoa⟩ := ho.some
  have hnew : New s₁.heap s₁.heap.objs.size := new_size _
  have hne : a ≠ s₁.heap.objs.size := new_ne hnew hoa
  have hlen := hl.length
  refine ⟨⟨_, s₁.toks, rfl, grow_push _ _⟩, s₁.heap.objs.size, fun b => b = s₁.heap.objs.size, rfl, fun b hb => by subst hb; exact New.back (kg k₁) hnew, fun b hb => by subst hb; exact ⟨_, Heap.get?_push_size _ rfl⟩, fun Y hY hY' => ?_⟩
  have W := Walk.of (X := Y) (vs := vs) (ds := ds) (n := "tuple_iterator") (Walks.tuple (prog := pw) (w := w) hh s₁.heap.objs.size a hne vs.toArray) (by simpa using hlen) (fun b hb => (hY b hb).2)
    (fun b hb => by
      rcases List.mem_cons.mp hb with rfl | hb
      · exact .inl rfl
      · rw [List.mem_singleton.mp hb]; exact .inr (hY' _ _ xa hne (grow_push _ _ _ _ hoa)))
    (fun i h st => by obtain ⟨o, ho, hc, _⟩ := st.1; exact ⟨o, ho, hc⟩) (by decide)
    (fun i d v hd hv h hh => by
      obtain ⟨u, e1, e2⟩ := hh.nth hd
      have : v = u := by simpa [e1] using hv.symm
      subst this; exact e2)
  exact ⟨_, W, ⟨⟨_, Heap.get?_push_size _ rfl, rfl, rfl⟩, ho.at (grow_push _ _ _)⟩, hl.ext fun b o xb e => ⟨hY' b o xb (new_ne hnew e) (grow_push _ _ _ _ e), grow_push _ _ _ _ e⟩⟩
theorem it_str {e : Expr} {x : List Nat} (hh : A.handled = none) (h : Ev w A mg mb s₀ X env l c D e (.str (S x))) : It w A mg mb s₀ X env l c D e (x.map fun n => .str (S [n])) := fun s E F => by
  refine ev_use h F fun v s₁ k₁ h₁ => ?_
  obtain ⟨t, rfl⟩ := h₁
  refine ⟨k₁, ?_⟩
  have hnew : New s₁.heap s₁.heap.objs.size := new_size _
  have hP : ∀ (Y : Addr → Prop) i d v, (x.map fun n => Da.str (S [n]))[i]? = some d → SignAt (S x) i v → ∀ h, HoldsL Y h (x.map fun n => Da.str (S [n])) (x.map fun n => .str (S [n]) 0) →
      Holds Y h d v := fun Y i d v hd hv h hh => by
    obtain ⟨n, u, e1, rfl⟩ := hv
    have e2 : x[i]? = some n := by simpa [S] using e1
    rw [List.getElem?_map, e2] at hd
    cases hd
    exact ⟨u, rfl⟩
  have hl : ∀ (X : Addr → Prop) (h : Heap) (y : List Nat), HoldsL X h (y.map fun n => Da.str (S [n])) (y.map fun n => .str (S [n]) 0) := by
    intro X h y
    induction y with
    | nil => rfl
    | cons n y ih => exact ⟨_, _, rfl, ⟨0, rfl⟩, ih⟩
  cases ha : (S x).cps.all (· < 128)
  · refine wpAny_pyIter_wide ha ?_
    refine ⟨⟨_, s₁.toks, rfl, grow_push _ _⟩, s₁.heap.objs.size, fun b => b = s₁.heap.objs.size, rfl, fun b hb => by subst hb; exact New.back (kg k₁) hnew, fun b hb => by subst hb; exact ⟨_, Heap.get?_push_size _ rfl⟩, fun Y hY hY' => ?_⟩
    have W := Walk.of (X := Y) (n := "str_iterator") (Walks.strWide (prog := pw) (w := w) hh s₁.heap.objs.size (S x) t) (by simp [S]) (fun b hb => (hY b hb).2) (fun b hb => .inl (List.mem_singleton.mp hb))
      (fun i h st => by obtain ⟨o, ho, hc, _⟩ := st; exact ⟨o, ho, hc⟩) (by decide) (hP Y)
    exact ⟨_, W, ⟨_, Heap.get?_push_size _ rfl, rfl, rfl⟩, hl _ _ _⟩
  · refine wpAny_pyIter_ascii ha ?_
    refine ⟨⟨_, s₁.toks, rfl, grow_push _ _⟩, s₁.heap.objs.size, fun b => b = s₁.heap.objs.size, rfl, fun b hb => by subst hb; exact New.back (kg k₁) hnew, fun b hb => by subst hb; exact ⟨_, Heap.get?_push_size _ rfl⟩, fun Y hY hY' => ?_⟩
    have W := Walk.of (X := Y) (n := "str_ascii_iterator") (Walks.strAscii (prog := pw) (w := w) hh s₁.heap.objs.size (S x) t) (by simp [S]) (fun b hb => (hY b hb).2) (fun b hb => .inl (List.mem_singleton.mp hb))
      (fun i h st => by obtain ⟨o, ho, hc, _⟩ := st; exact ⟨o, ho, hc⟩) (by decide) (hP Y)
    exact ⟨_, W, ⟨_, Heap.get?_push_size _ rfl, rfl, rfl⟩, hl _ _ _⟩

/-- a move of objects that are none of the context's -/
theorem Cx.move {s : Shared} (F : Cx mg mb s₀ X env l c D s) {h' : Heap} {tk : Nat} (T : Addr → Prop) (hT : ∀ b o, ¬ T b → s.heap.get? b = some o → h'.get? b = some o) (h1 : ∀ b o, s₀.B b o → ¬ T b)
    (h2 : ¬ T env.locals) (h3 : ∀ n c', env.cells.lookup n = some c' → ¬ T c') (h4 : ∀ b, X b → ¬ T b) (h5 : ∀ b, T b → ∃ o, h'.get? b = some o) : Cx mg mb s₀ X env l c D { s with heap := h', toks := tk } := by
  refine ⟨F.kind, F.glob, F.blt, let ⟨_, _, e⟩ := F.same; ⟨h', tk, by rw [e]⟩, fun b o e => hT b o (h1 b o e) (F.keep b o e), F.top, F.ns.at' fun o e => hT _ o h2 e, fun n c' e => ?_, F.apart, F.off, F.old, F.xl, fun b hb => ?_,
    fun p hp => (F.led p hp).ext fun b o xb e => ⟨xb, hT b o (h4 b xb) e⟩⟩
  · obtain ⟨o, ho, r⟩ := F.cell n c' e
    exact ⟨o, hT _ o (h3 n c' e) ho, r⟩
  · by_cases q : T b
    · obtain ⟨o, ho⟩ := h5 b q
      rw [show h'.get? b = none from hb] at ho; cases ho
    · refine F.xn b ?_
      cases e : s.heap.get? b with
      | none => exact e
      | some o => have := hT b o q e; rw [show h'.get? b = none from hb] at this; cases this

/-- the tests of a comprehension -/
noncomputable abbrev Tsts (w : World) (A : Around) (mg mb : Str → Option Value) (s₀ : Base) (X : Addr → Prop) (env : Env) (l c : List (Str × Value)) (D : List (Da × Value)) (ifs : List Expr) (b : Bool) : Prop :=
  Tst w A (Cx mg mb s₀ X env l c D) (forIn ifs true fun c r => if r = true then do let ok ← isTrue c env (eval c env); pure (ForInStep.yield ok) else pure (ForInStep.yield r)) b
theorem tsts_nil : Tsts w A mg mb s₀ X env l c D [] true := fun s E F => wpAny_tests_nil ⟨keeps_refl s, rfl⟩
theorem tsts_one {e : Expr} {b : Bool} (h : Ts w A mg mb s₀ X env l c D e b) : Tsts w A mg mb s₀ X env l c D [e] b := fun s E F => wpAny_tests_one (h s E F)
end

theorem loop_own {w : World} {A : Around} {R : Result → Shared → Prop} {s : Shared} {elt target iter : Expr} {ifs : List Expr} {scope : Scope} {pos : Pos} {it acc : Value} {env : Env} (I : Nat → Shared → Prop)
    (turn : ∀ n s, I n s → wpAny (model pw w) A (pyNext it) (fun r s₁ => match r with
      | none => R (.ok .next) s₁
      | some v => wpAny (model pw w) A (letOwnedTupleGo target it v) (fun _ s₁ => wpAny (model pw w) A (assign target env v) (fun _ s₂ =>
          wpAny (model pw w) A (forIn ifs true fun c r => if r = true then do let ok ← isTrue c env (eval c env); pure (ForInStep.yield ok) else pure (ForInStep.yield r)) (fun ok s₃ =>
            if ok = true then wpAny (model pw w) A (eval elt env) (fun x s₄ =>
              wpAny (model pw w) A (call (.builtin "list.append") [acc, x]) (fun _ s₅ => ∃ m, m < n ∧ I m s₅) (notedBy (model pw w) A env fun e s' => R (.error e) s') s₄) (notedBy (model pw w) A env fun e s' => R (.error e) s') s₃
            else ∃ m, m < n ∧ I m s₃) (notedBy (model pw w) A env fun e s' => R (.error e) s') s₂) (notedBy (model pw w) A env fun e s' => R (.error e) s') s₁) (notedBy (model pw w) A env fun e s' => R (.error e) s') s₁)
            (notedBy (model pw w) A env fun e s' => R (.error e) s') s)
    (n : Nat) (h : I n s) : codeAny (model pw w) A (.compLoop (.ListComp elt [⟨target, iter, ifs, 0⟩] scope pos) 0 it acc env) R s := by
  refine codeAny_loop rfl I (fun n s hI => ?_) n h
  show wpAny _ A ((compTurn (.ListComp elt [⟨target, iter, ifs, 0⟩] scope pos) 0 it acc env).onRaise (fun x => do noteFrame x env; theTreesLotGoes x)) _ _ s
  refine wpAny_noted ?_
  rw [compTurn_list]
  refine wpAny_bind (wpAny_standAt (wpAny_bind (wpAny_mono (turn n s hI) (fun r s₁ h₁ => ?_) fun _ _ h' => h')))
  cases r with
  | none => exact wpAny_pure h₁
  | some v =>
    refine wpAny_bind (wpAny_mono h₁ (fun _ s₂ h₂ => ?_) fun _ _ h' => h')
    refine wpAny_bind (wpAny_mono h₂ (fun _ s₃ h₃ => wpAny_bind (wpAny_mono h₃ (fun ok s₄ h₄ => ?_) fun _ _ h' => h')) fun _ _ h' => h')
    cases ok with
    | false => exact wpAny_pure ⟨rfl, h₄⟩
    | true => exact wpAny_bind (wpAny_bind (wpAny_mono h₄ (fun x s₅ h₅ => wpAny_bind (wpAny_mono h₅ (fun _ s₆ h₆ => wpAny_pure (wpAny_pure ⟨rfl, h₆⟩)) fun _ _ h' => h')) fun _ _ h' => h'))

section
variable {w : World} {A : Around} {mg mb : Str → Option Value} {s₀ : Base} {X : Addr → Prop} {env : Env} {l c : List (Str × Value)} {D : List (Da × Value)}

/-- the loop of a comprehension -/
theorem comp_loop {α : Type} {xs : List α} {dat f : α → Da} {p : α → Bool} {elt tgt iter : Expr} {ifs : List Expr} {scope : Scope} {pos : Pos} {I acc : Addr} {wr T : Addr → Prop} {St : Nat → Heap → Prop} {R : Result → Shared → Prop} {s : Shared}
    {JC : List (Str × Value) → Prop} {J : α → List (Str × Value) → List (Str × Value) → List (Da × Value) → Prop}
    (F : Cx mg mb s₀ X env l c D s) (hjc : JC c) (W : Walk w A X wr I (xs.map dat) St) (hst : St 0 s.heap) (hacc : s.heap.PlainList acc #[])
    (hsz : xs.length ≤ sizeLine) (a0 : ¬ X acc) (a1 : acc ≠ env.locals) (a2 : ∀ n c', env.cells.lookup n = some c' → acc ≠ c') (a3 : ¬ wr acc) (a4 : ¬ T acc)
    (w1 : ¬ wr env.locals) (w2 : ∀ n c', env.cells.lookup n = some c' → ¬ wr c') (old : ∀ b o, s₀.B b o → ¬ wr b ∧ b ≠ acc) (t1 : ∀ b, X b → ¬ T b) (t2 : ∀ b, wr b → ¬ T b)
    (hown : (∀ it v, letOwnedTupleGo tgt it v = pure ()) ∨ ∃ elts k pos, tgt = .Tuple elts k pos)
    (hasg : ∀ x ∈ xs, ∀ L C s v (Q : Shared → Prop) E, Cx mg mb s₀ X env L C D s → JC C → Holds X s.heap (dat x) v →
      (∀ h' tk L' C' P, (∀ b o, ¬ T b → s.heap.get? b = some o → h'.get? b = some o) → Cx mg mb s₀ X env L' C' (P ++ D) { s with heap := h', toks := tk } → J x L' C' P → JC C' → Q { s with heap := h', toks := tk }) →
      wpAny (model pw w) A (assign tgt env v) (fun _ s' => Q s') E s)
    (htst : ∀ x ∈ xs, ∀ L C P, J x L C P → Tsts w A mg mb s₀ X env L C (P ++ D) ifs (p x))
    (helt : ∀ x ∈ xs, p x = true → ∀ L C P, J x L C P → Ev w A mg mb s₀ X env L C (P ++ D) elt (f x))
    (hR : ∀ h' tk m ys, h'.Ns env.locals m → h'.PlainList acc ys → HoldsL X h' ((xs.filter p).map f) ys.toList → (∀ b o, ¬ T b → ¬ wr b → b ≠ acc → s.heap.get? b = some o → h'.get? b = some o) →
      R (.ok .next) { s with heap := h', toks := tk }) :
    codeAny (model pw w) A (.compLoop (.ListComp elt [⟨tgt, iter, ifs, 0⟩] scope pos) 0 (.ref I) (.ref acc) env) R s := by
  refine loop_own (fun k s' => ∃ h' tk L C ys i, s' = { s with heap := h', toks := tk } ∧ Cx mg mb s₀ X env L C D s' ∧ JC C ∧ St i h' ∧ h'.PlainList acc ys ∧ HoldsL X h' (((xs.take i).filter p).map f) ys.toList ∧ i ≤ xs.length ∧ k = xs.length + 1 - i ∧
    (∀ b o, ¬ T b → ¬ wr b → b ≠ acc → s.heap.get? b = some o → h'.get? b = some o)) ?_ (xs.length + 1) ⟨s.heap, s.toks, l, c, #[], 0, rfl, F, hjc, hst, hacc, rfl, Nat.zero_le _, rfl, fun _ _ _ _ _ e => e⟩
  rintro k s' ⟨H, tk, L, C, ys, i, rfl, F', hjc', hst', hacc', hys, hi, rfl, hk⟩
  by_cases hlt : i < xs.length
  · have hd : (xs.map dat)[i]? = some (dat xs[i]) := by simp [hlt]
    have hx : xs[i] ∈ xs := List.getElem_mem hlt
    refine W.item i _ _ _ _ hd hst' F'.xn fun v h₁ tk₁ hv hst₁ hk₁ hown₁ => ?_
    -- the machine's tuple
    have step : ∀ h₂ : Heap, St (i + 1) h₂ → (∀ b o, ¬ wr b → H.get? b = some o → h₂.get? b = some o) → Holds X h₂ (dat xs[i]) v →
        wpAny (model pw w) A (assign tgt env v) (fun _ s₂ =>
          wpAny (model pw w) A (forIn ifs true fun c r => if r = true then do let ok ← isTrue c env (eval c env); pure (ForInStep.yield ok) else pure (ForInStep.yield r)) (fun ok s₃ =>
            if ok = true then wpAny (model pw w) A (eval elt env) (fun x s₄ =>
              wpAny (model pw w) A (call (.builtin "list.append") [.ref acc, x]) (fun _ s₅ => ∃ m, m < xs.length + 1 - i ∧ ∃ h' tk L C ys i, s₅ = { s with heap := h', toks := tk } ∧ Cx mg mb s₀ X env L C D s₅ ∧ JC C ∧ St i h' ∧ h'.PlainList acc ys ∧
                HoldsL X h' (((xs.take i).filter p).map f) ys.toList ∧ i ≤ xs.length ∧ m = xs.length + 1 - i ∧ (∀ b o, ¬ T b → ¬ wr b → b ≠ acc → s.heap.get? b = some o → h'.get? b = some o))
                (notedBy (model pw w) A env fun e s' => R (.error e) s') s₄) (notedBy (model pw w) A env fun e s' => R (.error e) s') s₃
            else ∃ m, m < xs.length + 1 - i ∧ ∃ h' tk L C ys i, s₃ = { s with heap := h', toks := tk } ∧ Cx mg mb s₀ X env L C D s₃ ∧ JC C ∧ St i h' ∧ h'.PlainList acc ys ∧
                HoldsL X h' (((xs.take i).filter p).map f) ys.toList ∧ i ≤ xs.length ∧ m = xs.length + 1 - i ∧ (∀ b o, ¬ T b → ¬ wr b → b ≠ acc → s.heap.get? b = some o → h'.get? b = some o))
              (notedBy (model pw w) A env fun e s' => R (.error e) s') s₂) (notedBy (model pw w) A env fun e s' => R (.error e) s') { s with heap := h₂, toks := tk₁ } := by
      intro h₂ hst₂ hk₂ hv₂
      have F₂ : Cx mg mb s₀ X env L C D { s with heap := h₂, toks := tk₁ } := F'.move (h' := h₂) (tk := tk₁) wr hk₂ (fun b o e => (old b o e).1) w1 w2 W.off (W.live _ _ hst₂)
      refine hasg _ hx L C _ v _ _ F₂ hjc' hv₂ fun h₃ tk₃ L' C' P hk₃ F₃ hj hjc₃ => ?_
      refine wpAny_mono (htst _ hx L' C' P hj _ _ F₃) (fun ok s₄ h₄ => ?_) fun _ _ e => e
      obtain ⟨⟨h₄, tk₄, rfl, hk₄⟩, rfl⟩ := h₄
      have F₄ := F₃.keeps ⟨h₄, tk₄, rfl, hk₄⟩
      have hst₄ : St (i + 1) h₄ := W.frame _ _ _ (W.frame _ _ _ hst₂ fun b o q e => hk₃ b o (q.elim (t1 b) (t2 b)) e) fun b o _ e => hk₄ b o e
      have up : ∀ b o, ¬ T b → ¬ wr b → H.get? b = some o → h₄.get? b = some o := fun b o q1 q2 e => hk₄ b o (hk₃ b o q1 (hk₂ b o q2 e))
      have hacc₄ : h₄.PlainList acc ys := hacc'.at fun o e => up _ o a4 a3 e
      have hys₄ : HoldsL X h₄ (((xs.take i).filter p).map f) ys.toList := hys.ext fun b o xb e => ⟨xb, up b o (t1 b xb) (W.off b xb) e⟩
      have htk : xs.take (i + 1) = xs.take i ++ [xs[i]] := by rw [List.take_add_one]; simp [hlt]
      have sub₄ : Cx mg mb s₀ X env L' C' D { s with heap := h₄, toks := tk₄ } := F₄.sub fun p hp => List.mem_append_right _ hp
      cases hp : p xs[i] with
      | false =>
        simp only [Bool.false_eq_true, if_false]
        refine ⟨_, ?_, h₄, tk₄, L', C', ys, i + 1, rfl, sub₄, hjc₃, hst₄, hacc₄, ?_, hlt, rfl, fun b o q1 q2 q3 e => up b o q1 q2 (hk b o q1 q2 q3 e)⟩
        · omega
        · rw [htk, List.filter_append]; simpa [hp] using hys₄
      | true =>
        simp only [if_true]
        refine wpAny_mono (helt _ hx hp L' C' P hj _ _ F₄) (fun y s₅ h₅ => ?_) fun _ _ e => e
        obtain ⟨⟨h₅, tk₅, rfl, hk₅⟩, hy⟩ := h₅
        have hys5 : ys.size ≤ sizeLine := by
          have e1 := hys.length
          have e2 : ((xs.take i).filter p).length ≤ (xs.take i).length := List.length_filter_le _ _
          have e4 : ys.toList.length = ys.size := by simp
          simp only [List.length_map] at e1
          rw [List.length_take] at e2
          omega
        refine wpAny_list_append_plain (hsz := hys5) (hacc₄.at fun o e => hk₅ _ o e) fun h₆ hl₆ hs₆ => ?_
        have F₅ := sub₄.keeps ⟨h₅, tk₅, rfl, hk₅⟩
        refine ⟨_, ?_, h₆, tk₅, L', C', ys.push y, i + 1, rfl, F₅.move (h' := h₆) (tk := tk₅) (fun b => b = acc) (fun b o q e => hs₆.extBut b o q e) (fun b o e => (old b o e).2) (fun q => a1 q.symm) (fun n c' e q => a2 n c' e q.symm)
          (fun b xb q => a0 (q ▸ xb)) (fun b q => by obtain ⟨n, e⟩ := hl₆; subst q; exact ⟨_, e⟩), hjc₃, ?_, hl₆, ?_, hlt, rfl, fun b o q1 q2 q3 e => hs₆.extBut b o q3 (hk₅ b o (up b o q1 q2 (hk b o q1 q2 q3 e)))⟩
        · omega
        · exact W.frame _ _ _ hst₄ fun b o q e => hs₆.extBut b o (q.elim (fun xb r => a0 (r ▸ xb)) fun wb r => a3 (r ▸ wb)) (hk₅ b o e)
        · rw [htk, List.filter_append]
          have e1 : HoldsL X h₆ (((xs.take i).filter p).map f) ys.toList := hys₄.ext fun b o xb e => ⟨xb, hs₆.extBut b o (fun r => a0 (r ▸ xb)) (hk₅ b o e)⟩
          have e2 : Holds X h₆ (f xs[i]) y := hy.ext fun b o xb e => ⟨xb, hs₆.extBut b o (fun r => a0 (r ▸ xb)) e⟩
          simpa [hp] using e1.append (HoldsL.one e2)
    rcases hown with hown | ⟨elts, k, po, rfl⟩
    · exact wpAny_of_eq (hown _ _) (step h₁ hst₁ hk₁ hv)
    · refine hown₁ _ _ _ _ _ fun h₂ hst₂ hk₂ => step h₂ hst₂ (fun b o q e => hk₂ b o q (hk₁ b o q e)) ?_
      exact hv.ext fun b o xb e => ⟨xb, hk₂ b o (W.off b xb) e⟩
  · have hin : i = xs.length := by omega
    subst hin
    refine W.done _ _ _ (by simpa using hst') fun h₁ tk₁ hk₁ => ?_
    refine hR h₁ tk₁ _ ys (F'.ns.at' fun o e => hk₁ _ o w1 e) (hacc'.at fun o e => hk₁ _ o a3 e) ?_ fun b o q1 q2 q3 e => hk₁ b o q2 (hk b o q1 q2 q3 e)
    rw [List.take_length] at hys
    exact hys.ext fun b o xb e => ⟨xb, hk₁ b o (W.off b xb) e⟩
end
end Mine

end
section
open PySem PySem.W PyProof.Rows
namespace Mine

mutual
theorem Holds.notNs {X : Addr → Prop} {h : Heap} {C : Addr} {m : Str → Option Value} (hn : h.Ns C m) : ∀ {d : Da} {v : Value}, Holds X h d v → Holds (fun b => X b ∧ b ≠ C) h d v
  | .str _, _, x => x
  | .int _, _, x => x
  | .bool _, _, x => x
  | .none, _, x => x
  | .atom _, _, x => x
  | .list l, v, x => by
    obtain ⟨a, vs, rfl, xa, ho, hl⟩ := x
    refine ⟨a, vs, rfl, ⟨xa, fun q => ?_⟩, ho, HoldsL.notNs hn hl⟩
    obtain ⟨o, h1, _, n, h2⟩ := ho
    obtain ⟨o', es, ep, h3, h4, _⟩ := hn
    subst q; rw [h1] at h3; cases h3; rw [h2] at h4; cases h4
  | .tup l, v, x => by
    obtain ⟨a, vs, rfl, xa, ho, hl⟩ := x
    refine ⟨a, vs, rfl, ⟨xa, fun q => ?_⟩, ho, HoldsL.notNs hn hl⟩
    obtain ⟨o, h1, _, n, h2⟩ := ho
    obtain ⟨o', es, ep, h3, h4, _⟩ := hn
    subst q; rw [h1] at h3; cases h3; rw [h2] at h4; cases h4
theorem HoldsL.notNs {X : Addr → Prop} {h : Heap} {C : Addr} {m : Str → Option Value} (hn : h.Ns C m) : ∀ {ds : List Da} {vs : List Value}, HoldsL X h ds vs → HoldsL (fun b => X b ∧ b ≠ C) h ds vs
  | [], _, x => x
  | d :: ds, vs, x => by
    obtain ⟨v, r, rfl, hd, hr⟩ := x
    exact ⟨v, r, rfl, Holds.notNs hn hd, HoldsL.notNs hn hr⟩
end

section
variable {w : World} {A : Around} {mg mb : Str → Option Value} {s₀ : Base} {X : Addr → Prop} {env : Env} {l c : List (Str × Value)} {D : List (Da × Value)}

theorem ns_some {h : Heap} {C : Addr} {m : Str → Option Value} (hn : h.Ns C m) : ∃ o, h.get? C = some o := let ⟨o, _, _, ho, _⟩ := hn; ⟨o, ho⟩

/-- a comprehension's names are let go -/
theorem Cx.letGo {s : Shared} (F : Cx mg mb s₀ X env l c D s) {h' : Heap} {C : Addr} {m : Str → Option Value} (hn : s.heap.Ns C m) (hs : Heap.SameBut C s.heap h') (hX : X C) (h1 : ∀ o, ¬ s₀.B C o) (h2 : C ≠ env.locals)
    (h3 : ∀ n c', env.cells.lookup n = some c' → C ≠ c') : Cx mg mb s₀ X env l c D { s with heap := h' } := by
  refine ⟨F.kind, F.glob, F.blt, let ⟨_, t, e⟩ := F.same; ⟨h', t, by rw [e]⟩, fun b o e => hs.extBut b o (fun q => h1 o (q ▸ e)) (F.keep b o e), F.top, F.ns.sameBut hs h2.symm, fun n c' e => (F.cell n c' e).sameBut hs (h3 n c' e).symm, F.apart, F.off, F.old, F.xl,
    fun b hb => by
      by_cases q : b = C
      · rw [q]; exact hX
      · exact F.xn b ((hs.2 b q).symm.trans hb), fun p hp => (Holds.notNs hn (F.led p hp)).ext fun b o xb e => ⟨xb.1, hs.extBut b o xb.2 e⟩⟩

/-- what comes behind a comprehension's loop -/
noncomputable def After (w : World) (A : Around) (use : Option (Value → Sem Unit)) (Q : Value → Shared → Prop) (E : Value → Shared → Prop) (a C : Addr) (s' : Shared) : Prop :=
  match use with
  | none => ∀ h', Heap.SameBut C s'.heap h' → Q (.ref a) { s' with heap := h' }
  | some u => wpAny (model pw w) A (u (.ref a)) (fun _ s'' => ∃ m, s''.heap.Ns C m ∧ ∀ h', Heap.SameBut C s''.heap h' → Q .none { s'' with heap := h' }) E s'

/-- a target takes an item -/
noncomputable def Asg {α : Type} (w : World) (A : Around) (mg mb : Str → Option Value) (s₀ : Base) (env : Env) (c : List (Str × Value)) (D : List (Da × Value)) (scope : Scope) (cl : List (Str × Addr)) (tgt : Expr) (xs : List α) (dat : α → Da)
    (J : α → List (Str × Value) → List (Da × Value) → Prop) : Prop :=
  ∀ Y cenv, cenv.scope = relabel scope env → cenv.cells = cl → ∀ x ∈ xs, ∀ L s v (Q : Shared → Prop) E, Cx mg mb s₀ Y cenv L c D s → Holds Y s.heap (dat x) v →
      (∀ h' tk L' P, (∀ b o, b ≠ cenv.locals → s.heap.get? b = some o → h'.get? b = some o) → Cx mg mb s₀ Y cenv L' c (P ++ D) { s with heap := h', toks := tk } → J x L' P → Q { s with heap := h', toks := tk }) →
      wpAny (model pw w) A (assign tgt cenv v) (fun _ s' => Q s') E s
noncomputable def J1 {α : Type} (x : Str) (dat : α → Da) (a : α) (L : List (Str × Value)) (P : List (Da × Value)) : Prop := ∃ v l', L = (x, v) :: l' ∧ P = [(dat a, v)]
noncomputable def J2 {α : Type} (x y : Str) (d1 d2 : α → Da) (a : α) (L : List (Str × Value)) (P : List (Da × Value)) : Prop := ∃ v u l', L = (y, u) :: (x, v) :: l' ∧ P = [(d2 a, u), (d1 a, v)]

theorem asg1 {α : Type} {xs : List α} {dat : α → Da} {scope : Scope} {cl : List (Str × Addr)} {x : Str} {px : Pos} (hx : scope.names.lookup x = some .local) : Asg w A mg mb s₀ env c D scope cl (.Name x px) xs dat (J1 x dat) := by
  intro Y cenv e1 e2 a ha L s v Q E F hv hQ
  have hk : cenv.kindOf x = some .local := by unfold Env.kindOf; rw [e1]; exact lookup_relabel_local hx
  refine wpAny_assign_Name (wpAny_storeName_local hk F.ns (fun h' hn hs => ?_) (by rw [F.kind]; rfl))
  refine hQ h' _ ((x, v) :: L) [(dat a, v)] (fun b o q e => hs.extBut b o q e) ?_ ⟨v, L, rfl, rfl⟩
  rw [lk_cons] at hn
  refine ⟨F.kind, F.glob, F.blt, let ⟨_, _, e⟩ := F.same; ⟨h', _, by rw [e]⟩, fun b o e => hs.extBut b o (F.old b o e).1 (F.keep b o e), F.top, hn, fun n c' e => (F.cell n c' e).sameBut hs (F.off n c' e), F.apart, F.off, F.old, F.xl,
    fun b hb => F.xn b (new_but hs (ns_some hn) hb), fun p hp => ?_⟩
  rcases List.mem_cons.mp hp with rfl | hp
  · exact hv.ext fun b o xb e => ⟨xb, hs.extBut b o (F.xl b xb).1 e⟩
  · exact (F.led p hp).ext fun b o xb e => ⟨xb, hs.extBut b o (F.xl b xb).1 e⟩

theorem comp_go {α : Type} {xs : List α} {dat f : α → Da} {p : α → Bool} {elt tgt iter : Expr} {ifs : List Expr} {scope : Scope} {pos : Pos} {cl : List (Str × Addr)} {use : Option (Value → Sem Unit)} {s : Shared} {Q : Value → Shared → Prop}
    {E : Value → Shared → Prop} {J : α → List (Str × Value) → List (Da × Value) → Prop}
    (F : Cx mg mb s₀ X env l c D s) (hit : It w A mg mb s₀ X env l c D iter (xs.map dat)) (hsz : xs.length ≤ sizeLine)
    (hclos : closureFor scope env = pure cl) (hcl : ∀ n c', cl.lookup n = some c' → env.cells.lookup n = some c') (hcell : ∀ y ∈ scope.names, y.2 ≠ .cell) (hkind : scope.kind = .function)
    (hnames : ∀ y ∈ scope.names, y.2 = .local → scope.names.lookup y.1 = some .local) (hown : (∀ it v, letOwnedTupleGo tgt it v = pure ()) ∨ ∃ elts k pos, tgt = .Tuple elts k pos)
    (hs : ∀ x, foldedSetIterable iter env x = pure x)
    (hasg : Asg w A mg mb s₀ env c D scope cl tgt xs dat J)
    (htst : ∀ Y cenv, cenv.scope = relabel scope env → cenv.cells = cl → ∀ x ∈ xs, ∀ L P, J x L P → Tsts w A mg mb s₀ Y cenv L c (P ++ D) ifs (p x))
    (helt : ∀ Y cenv, cenv.scope = relabel scope env → cenv.cells = cl → ∀ x ∈ xs, p x = true → ∀ L P, J x L P → Ev w A mg mb s₀ Y cenv L c (P ++ D) elt (f x))
    (hq : ∀ a C s' m, Keeps s s' → Holds X s'.heap (.list ((xs.filter p).map f)) (.ref a) → s'.heap.Ns C m → New s.heap C → After w A use Q E a C s') :
    wpAny (model pw w) A (comprehension (.ListComp elt [⟨tgt, iter, ifs, 0⟩] scope pos) scope env (firstIterPos [⟨tgt, iter, ifs, 0⟩] pos) (newList []) false (eval iter env) use) Q E s := by
  refine wpAny_comprehension_free (use := use) rfl hs hclos hkind hnames (wpAny_mono (hit s E F) (fun xv s₁ h₁ => wpAny_mono h₁.2 (fun it s₂ h₂ => ?_) fun _ _ e => e) fun _ _ e => e)
  obtain ⟨k₁, _⟩ := h₁
  obtain ⟨k₂, I, wr, rfl, hwn, hwl, hW⟩ := h₂
  have K₂ : Keeps s s₂ := kt k₁ k₂
  have F₂ := F.keeps K₂
  refine wpAny_newObj_type (wpAny_newFunctionEnv hcell (by intro y hy; simp at hy) (fun h₁ hns₁ hsb₁ => ?_) hkind)
  dsimp only at hns₁ hsb₁ ⊢
  generalize hacc : s₂.heap.objs.size = acc at *
  generalize hH2 : s₂.heap.push { cls := .type "list", dict := none, data := .seq ([] : List Value).toArray } = H2 at hns₁ hsb₁ ⊢
  generalize hCC : H2.objs.size = C at *
  have g2 : Grow s₂.heap H2 := hH2 ▸ grow_push _ _
  have nacc : New s₂.heap acc := hacc ▸ new_size _
  have nC2 : New H2 C := hCC ▸ new_size _
  have nC : New s₂.heap C := New.back g2 nC2
  have acc2 : H2.get? acc = some { cls := .type "list", dict := none, data := .seq ([] : List Value).toArray } := by rw [← hH2, ← hacc]; exact Heap.get?_push_size _ rfl
  have hDC : acc ≠ C := new_ne nC2 acc2
  have g1 : ∀ b o, H2.get? b = some o → h₁.get? b = some o := fun b o e => hsb₁.extBut b o (new_ne nC2 e) (Heap.get?_push_of_some _ e)
  have gg : Grow s₂.heap h₁ := fun b o e => g1 b o (g2 b o e)
  have gs : Grow s.heap h₁ := fun b o e => gg b o (kg K₂ b o e)
  obtain ⟨St, W, hst⟩ := hW (fun b => (X b ∧ ¬ wr b) ∧ b ≠ acc ∧ b ≠ C) (fun b hb => hb.1) (fun b o xb wb e => ⟨⟨xb, wb⟩, new_ne nacc e, new_ne nC e⟩)
  have nsacc : New s.heap acc := New.back (kg K₂) nacc
  have nsC : New s.heap C := New.back (kg K₂) nC
  have Fc : Cx mg mb s₀ (fun b => (X b ∧ ¬ wr b) ∧ b ≠ acc ∧ b ≠ C) (compEnvC scope cl C env) [] c D { s₂ with heap := h₁, toks := s₂.toks + ([] : List (Str × Value)).length } := by
    refine ⟨hkind, F.glob, F.blt, let ⟨_, _, e⟩ := F₂.same; ⟨h₁, _, by rw [e]⟩, fun b o e => gg b o (F₂.keep b o e), F.top, hns₁, fun n c' e => (F₂.cell n c' (hcl n c' e)).keeps gg, fun n n' c' e1 e2 => F.apart n n' c' (hcl _ _ e1) (hcl _ _ e2), fun n c' e => ?_, fun b o e => ?_,
      fun b hb => ?_, fun b hb => ?_, fun p hp => ?_⟩
    · obtain ⟨o, ho, _⟩ := F₂.cell n c' (hcl n c' e)
      exact new_ne nC ho
    · exact ⟨new_ne nC (F₂.keep b o e), fun n c' e' => (F.old b o e).2 n c' (hcl _ _ e')⟩
    · exact ⟨hb.2.2, fun n c' e' => (F.xl b hb.1.1).2 n c' (hcl _ _ e')⟩
    · refine ⟨⟨F.xn b (New.back gs hb), fun q => ?_⟩, fun q => ?_, fun q => ?_⟩
      · obtain ⟨o, ho⟩ := hwl b q
        have := gg b o ho; rw [show h₁.get? b = none from hb] at this; cases this
      · have := g1 acc _ acc2; rw [← q, show h₁.get? b = none from hb] at this; cases this
      · obtain ⟨o, ho⟩ := ns_some hns₁
        rw [← q, show h₁.get? b = none from hb] at ho; cases ho
    · exact (F.led p hp).ext fun b o xb e => ⟨⟨⟨xb, fun q => by have := hwn b q; rw [this] at e; cases e⟩, new_ne nsacc e, new_ne nsC e⟩, gs b o e⟩
  have hst₁ : St 0 h₁ := W.frame _ _ _ hst fun b o _ e => gg b o e
  have loop : ∀ s₃ : Shared, s₃ = { s₂ with heap := h₁, toks := s₂.toks + ([] : List (Str × Value)).length } →
      codeAny (model pw w) A (.compLoop (.ListComp elt [⟨tgt, iter, ifs, 0⟩] scope pos) 0 (.ref I) (.ref acc) (compEnvC scope cl C env)) (compPost (model pw w) A E use Q (.ref acc) C) s₃ := by
    rintro s₃ rfl
    refine comp_loop (p := p) (f := f) (T := fun b => b = C) (JC := fun C' => C' = c) (J := fun x L C' P => C' = c ∧ J x L P) Fc rfl W hst₁ ⟨_, g1 _ _ acc2⟩ hsz (fun q => q.2.1 rfl) hDC (fun n c' e q => ?_) (fun q => ?_) hDC (fun q => ?_) (fun n c' e q => ?_) (fun b o e => ?_)
      (fun b xb => xb.2.2) (fun b q r => ?_) hown (fun x hx L C' s' v Q' E' F' hjc hv hQ' => ?_) (fun x hx L C' P hj => ?_) (fun x hx hp L C' P hj => ?_) fun h' tk m ys hn hpl hys hk => ?_
    · obtain ⟨o, ho, _⟩ := F₂.cell n c' (hcl n c' e)
      exact new_ne nacc ho q.symm
    · obtain ⟨o, ho⟩ := hwl acc q
      exact new_ne nacc ho rfl
    · obtain ⟨o, ho⟩ := hwl _ q
      exact new_ne nC ho rfl
    · obtain ⟨o, ho, _⟩ := F.cell n c' (hcl n c' e)
      exact new_ne (hwn _ q) ho rfl
    · exact ⟨fun q => new_ne (hwn b q) (F.keep b o e) rfl, new_ne nacc (F₂.keep b o e)⟩
    · obtain ⟨o, ho⟩ := hwl b q
      exact new_ne nC ho r
    · subst hjc
      exact hasg _ _ rfl rfl x hx L s' v Q' E' F' hv fun h' tk L' P hk F'' hj => hQ' h' tk L' C' P (fun b o q => hk b o q) F'' ⟨rfl, hj⟩ rfl
    · obtain ⟨rfl, hj⟩ := hj
      exact htst _ _ rfl rfl x hx L P hj
    · obtain ⟨rfl, hj⟩ := hj
      exact helt _ _ rfl rfl x hx hp L P hj
    · have up : Grow s.heap h' := fun b o e => hk b o (new_ne nsC e) (fun q => new_ne (hwn b q) e rfl) (new_ne nsacc e) (gs b o e)
      have kk : Keeps s { s₂ with heap := h', toks := tk } := by
        obtain ⟨hh, tt, rfl, _⟩ := K₂
        exact ⟨h', tk, rfl, up⟩
      have hol : Holds X h' (.list ((xs.filter p).map f)) (.ref acc) := by
        refine ⟨acc, ys.toList, rfl, F.xn acc nsacc, ?_, hys.weak fun b xb => xb.1.1⟩
        obtain ⟨n, e⟩ := hpl
        exact ⟨_, e, rfl, n, by simp⟩
      have fin := hq acc C { s₂ with heap := h', toks := tk } m kk hol hn nsC
      unfold After at fin
      cases use with
      | none => exact ⟨m, hn, fin⟩
      | some u => exact fin
  exact codeAny_compStart_list (loop _ rfl) (W.self 0 _ _ _ hst₁ (loop _ rfl))

theorem ev_comp {α : Type} {xs : List α} {dat f : α → Da} {p : α → Bool} {elt tgt iter : Expr} {ifs : List Expr} {scope : Scope} {pos : Pos} {cl : List (Str × Addr)} {J : α → List (Str × Value) → List (Da × Value) → Prop}
    (hit : It w A mg mb s₀ X env l c D iter (xs.map dat)) (hsz : xs.length ≤ sizeLine)
    (hclos : closureFor scope env = pure cl) (hcl : ∀ n c', cl.lookup n = some c' → env.cells.lookup n = some c') (hcell : ∀ y ∈ scope.names, y.2 ≠ .cell) (hkind : scope.kind = .function)
    (hnames : ∀ y ∈ scope.names, y.2 = .local → scope.names.lookup y.1 = some .local) (hown : (∀ it v, letOwnedTupleGo tgt it v = pure ()) ∨ ∃ elts k pos, tgt = .Tuple elts k pos)
    (hasg : Asg w A mg mb s₀ env c D scope cl tgt xs dat J)
    (htst : ∀ Y cenv, cenv.scope = relabel scope env → cenv.cells = cl → ∀ x ∈ xs, ∀ L P, J x L P → Tsts w A mg mb s₀ Y cenv L c (P ++ D) ifs (p x))
    (helt : ∀ Y cenv, cenv.scope = relabel scope env → cenv.cells = cl → ∀ x ∈ xs, p x = true → ∀ L P, J x L P → Ev w A mg mb s₀ Y cenv L c (P ++ D) elt (f x))
    (hs : ∀ x, foldedSetIterable iter env x = pure x := by intro _; rfl) :
    Ev w A mg mb s₀ X env l c D (.ListComp elt [⟨tgt, iter, ifs, 0⟩] scope pos) (.list ((xs.filter p).map f)) := fun s E F => by
  rw [eval_ListComp]
  refine comp_go (p := p) (f := f) F hit hsz hclos hcl hcell hkind hnames hown hs hasg htst helt fun a C s' m kk hh hn hC h' hsb => ⟨?_, ?_⟩
  · obtain ⟨h₁, tk, rfl, hk⟩ := kk
    exact ⟨h', tk, rfl, fun b o e => hsb.extBut b o (new_ne hC e) (hk b o e)⟩
  · exact (Holds.notNs hn hh).ext fun b o xb e => ⟨xb.1, hsb.extBut b o xb.2 e⟩

theorem ex_comp {α : Type} {xs : List α} {dat f : α → Da} {p : α → Bool} {elt tgt iter : Expr} {ifs : List Expr} {scope : Scope} {pos spos py : Pos} {y : Str} {rest : List Stmt} {cl : List (Str × Addr)} {J : α → List (Str × Value) → List (Da × Value) → Prop} {s : Shared} {Q : Flow → Shared → Prop} {E : Value → Shared → Prop}
    (F : Cx mg mb s₀ X env l c D s) (hit : It w A mg mb s₀ X env l c D iter (xs.map dat)) (hsz : xs.length ≤ sizeLine)
    (hclos : closureFor scope env = pure cl) (hcl : ∀ n c', cl.lookup n = some c' → env.cells.lookup n = some c') (hcell : ∀ y ∈ scope.names, y.2 ≠ .cell) (hkind : scope.kind = .function)
    (hnames : ∀ y ∈ scope.names, y.2 = .local → scope.names.lookup y.1 = some .local) (hown : (∀ it v, letOwnedTupleGo tgt it v = pure ()) ∨ ∃ elts k pos, tgt = .Tuple elts k pos)
    (hasg : Asg w A mg mb s₀ env c D scope cl tgt xs dat J)
    (htst : ∀ Y cenv, cenv.scope = relabel scope env → cenv.cells = cl → ∀ x ∈ xs, ∀ L P, J x L P → Tsts w A mg mb s₀ Y cenv L c (P ++ D) ifs (p x))
    (helt : ∀ Y cenv, cenv.scope = relabel scope env → cenv.cells = cl → ∀ x ∈ xs, p x = true → ∀ L P, J x L P → Ev w A mg mb s₀ Y cenv L c (P ++ D) elt (f x))
    (hy : env.kindOf y = some .local) (hsw : swapsWith (.ListComp elt [⟨tgt, iter, ifs, 0⟩] scope pos) (some (.Name y py)) spos.line env = pure true)
    (h : ∀ v s', Cx mg mb s₀ X env ((y, v) :: l) c ((.list ((xs.filter p).map f), v) :: D) s' → wpAny (model pw w) A (execs rest env) Q E s')
    (hs : ∀ x, foldedSetIterable iter env x = pure x := by intro _; rfl) :
    wpAny (model pw w) A (execs (.Assign [.Name y py] (.ListComp elt [⟨tgt, iter, ifs, 0⟩] scope pos) spos :: rest) env) Q E s := by
  refine wpAny_execs_cons ?_
  rw [exec_Assign_Name_used _ _ _ _ hsw]
  refine wpAny_bind (wpAny_standAt (wpAny_bind ?_))
  show wpAny _ A (do let _ ← comprehension (.ListComp elt [⟨tgt, iter, ifs, 0⟩] scope pos) scope env _ (newList []) false (eval iter env) (some (assign (.Name y py) env))) _ _ s
  refine wpAny_bind (comp_go (p := p) (f := f) (use := some (assign (.Name y py) env)) F hit hsz hclos hcl hcell hkind hnames hown hs hasg htst helt fun a C s' m kk hh hn hC => ?_)
  show wpAny _ A _ _ _ _
  refine wpAny_assign_Name ?_
  have F' := (F.keeps kk).add hh
  have hCl : C ≠ env.locals := by obtain ⟨o, ho⟩ := ns_some F.ns; exact fun q => new_ne hC ho q.symm
  refine wpAny_storeName_local hy F'.ns (fun h' hn' hs' => ?_) (by rw [F.kind]; rfl)
  have hnC : h'.Ns C m := hn.sameBut hs' hCl
  refine ⟨m, hnC, fun h'' hs'' => ?_⟩
  refine wpAny_pure ?_
  refine wpAny_pure ?_
  refine h (.ref a) _ ?_
  have F'' : Cx mg mb s₀ X env ((y, .ref a) :: l) c ((.list ((xs.filter p).map f), .ref a) :: D) { s' with heap := h', toks := s'.toks + 1 } := by
    refine ⟨F'.kind, F'.glob, F'.blt, let ⟨_, _, e⟩ := F'.same; ⟨h', _, by rw [e]⟩, fun b o e => hs'.extBut b o (F'.old b o e).1 (F'.keep b o e), F'.top, by rw [lk_cons] at hn'; exact hn',
      fun n c' e => (F'.cell n c' e).sameBut hs' (F'.off n c' e), F'.apart, F'.off, F'.old, F'.xl, fun b hb => F'.xn b (new_but hs' (ns_some hn') hb), fun p hp => (F'.led p hp).ext fun b o hb e => ⟨hb, hs'.extBut b o (F'.xl b hb).1 e⟩⟩
  refine F''.letGo (C := C) hnC hs'' (F.xn C hC) (fun o e => new_ne hC (F.keep _ _ e) rfl) hCl fun n c' e q => ?_
  obtain ⟨o, ho, _⟩ := F.cell n c' e
  exact new_ne hC ho q.symm
end
end Mine

end
section
open PySem PySem.W PyProof.Rows
namespace Mine
section
variable {w : World} {A : Around} {mg mb : Str → Option Value} {s₀ : Base} {X : Addr → Prop} {env : Env} {l c : List (Str × Value)} {D : List (Da × Value)}

theorem ev_cast {e : Expr} {d d' : Da} (h : Ev w A mg mb s₀ X env l c D e d) (q : d = d') : Ev w A mg mb s₀ X env l c D e d' := q ▸ h
theorem lookup_relabel {env : Env} {x : Str} {kd : NameKind} (hk : kd ≠ .free) : ∀ {names : List (Str × NameKind)}, names.lookup x = some kd →
    (names.map fun (n, k) => if (k == NameKind.free && env.scope.kind == .function && env.kindOf n == some .cell) then (n, NameKind.cell) else (n, k)).lookup x = some kd
  | [], h => by simp at h
  | (n, k) :: r, h => by
    have ih := @lookup_relabel env x kd hk r
    show List.lookup x ((if (k == NameKind.free && env.scope.kind == .function && env.kindOf n == some .cell) = true then (n, NameKind.cell) else (n, k)) :: _) = _
    cases hx : x == n with
    | true =>
      simp only [List.lookup_cons, hx] at h
      cases h
      have : (kd == NameKind.free) = false := by simpa using hk
      rw [this, Bool.false_and, Bool.false_and, if_neg (by decide)]
      simp only [List.lookup_cons, hx]
    | false =>
      simp only [List.lookup_cons, hx] at h
      split <;> (simp only [List.lookup_cons, hx]; exact ih h)
theorem lookup_relabel_free {env : Env} {x : Str} (hs : env.scope.kind = .function) (hc : env.kindOf x = some .cell) : ∀ {names : List (Str × NameKind)}, names.lookup x = some .free →
    (names.map fun (n, k) => if (k == NameKind.free && env.scope.kind == .function && env.kindOf n == some .cell) then (n, NameKind.cell) else (n, k)).lookup x = some .cell
  | [], h => by simp at h
  | (n, k) :: r, h => by
    have ih := @lookup_relabel_free env x hs hc r
    show List.lookup x ((if (k == NameKind.free && env.scope.kind == .function && env.kindOf n == some .cell) = true then (n, NameKind.cell) else (n, k)) :: _) = _
    cases hx : x == n with
    | true =>
      simp only [List.lookup_cons, hx] at h
      cases h
      obtain rfl : x = n := by simpa using hx
      simp [List.lookup_cons, hs, hc]
    | false =>
      simp only [List.lookup_cons, hx] at h
      split <;> (simp only [List.lookup_cons, hx]; exact ih h)
theorem kc {scope : Scope} {cenv : Env} {x : Str} {kd : NameKind} (e1 : cenv.scope = relabel scope env) (h : scope.names.lookup x = some kd) (hk : kd ≠ .free := by decide) : cenv.kindOf x = some kd := by
  unfold Env.kindOf; rw [e1]; exact lookup_relabel hk h
theorem kf {scope : Scope} {cenv : Env} {x : Str} (e1 : cenv.scope = relabel scope env) (hs : env.scope.kind = .function) (hc : env.kindOf x = some .cell) (h : scope.names.lookup x = some .free) : cenv.kindOf x = some .cell := by
  unfold Env.kindOf; rw [e1]; exact lookup_relabel_free hs hc h

theorem holdsL_strs {X : Addr → Prop} {h : Heap} : ∀ {ps : List (List Nat)} {vs : List Value}, HoldsL X h (ps.map fun p => Da.str (S p)) vs → ∃ q : List (Str × Tok), vs = strValues q ∧ q.map (·.1) = ps.map S
  | [], _, x => ⟨[], x, rfl⟩
  | p :: ps, _, x => by
    obtain ⟨v, r, rfl, ⟨t, rfl⟩, hr⟩ := x
    obtain ⟨q, rfl, e⟩ := holdsL_strs hr
    exact ⟨(S p, t) :: q, rfl, by simp [e]⟩

theorem ev_join {o e : Expr} {apos pos : Pos} {y : List Nat} {ps : List (List Nat)} (ho : Ev w A mg mb s₀ X env l c D o (.str (S y))) (he : Ev w A mg mb s₀ X env l c D e (.list (ps.map fun p => .str (S p))))
    (hsz : (ps.map (·.length)).sum + ps.length * y.length ≤ sizeLine)
    (hbase : attributeBase o "join" env (eval o env) = eval o env := by rfl) (hs : starEach [e] env = [(false, eval e env)] := by rfl) (hline : (apos.endLine == pos.line) = true := by rfl) :
    Ev w A mg mb s₀ X env l c D (.Call (.Attribute o "join" apos) [e] [] pos) (.str (Str.join (S y) (ps.map S))) := fun s E F => by
  refine Call_method1 hbase hs hline (ev_use ho F fun v s₁ k₁ h₁ => ?_)
  obtain ⟨t, rfl⟩ := h₁
  refine SB.join (ev_use he (F.keeps k₁) fun v s₂ k₂ h₂ => ?_)
  obtain ⟨a, vs, rfl, xa, hol, hl⟩ := h₂
  obtain ⟨q, rfl, e⟩ := holdsL_strs hl
  refine ⟨a, q, rfl, hol.list, ps.map S, e, ?_, fun t' k => ⟨kt (kt k₁ k₂) (keeps_tok _ _), t', ?_⟩⟩
  · unfold JoinOk
    have h1 := StrLaws.joinTotal (S y) (ps.map S)
    rw [S_len, List.length_map, List.map_map] at h1
    have h2 : (List.map ((fun x : Str => x.length) ∘ S) ps) = ps.map (·.length) := List.map_congr_left fun p _ => S_len p
    rw [h2] at h1
    unfold Builtin.Str.tooLong
    rw [S_len, h1]
    simpa using hsz
  · rw [← StrLaws.glued_eq_join]; rfl

theorem join0_S : ∀ ps : List (List Nat), Str.join (S []) (ps.map S) = S ps.flatten
  | [] => rfl
  | [p] => by simp [Str.join]
  | p :: q :: r => by
    show S p ++ S [] ++ Str.join (S []) ((q :: r).map S) = _
    rw [join0_S (q :: r), S_append, S_append]
    simp

/-! _law_prepared -/
noncomputable def prepL (x : List Nat) : List Nat := ((x.filter fun n => !inB1 n).map b3L).flatten
theorem sum_le {α : Type} (f : α → Nat) (B : Nat) : ∀ l : List α, (∀ x ∈ l, f x ≤ B) → (l.map f).sum ≤ l.length * B
  | [], _ => by simp
  | a :: l, h => by
    have h1 := sum_le f B l fun x hx => h x (List.mem_cons_of_mem _ hx)
    have h2 := h a List.mem_cons_self
    rw [List.map_cons, List.sum_cons, List.length_cons, Nat.succ_mul]; omega

theorem prep_spec {x : List Nat} (hd : A.depth + 1 < recursionLimit) (hh : A.handled = none) (hx : x.length < 65536) (hb : ∀ n ∈ x, (b3L n).length ≤ 64) : Spec w A "_law_prepared" 25 [.str (S x)] (.str (S (prepL x))) := by
  have hsz : sizeLine = 16777216 := sizeLine_eq
  refine enter (ps := ["path"]) (by omega) (fun pm cd doc vs hl => ?_) (by decide +kernel) rfl rfl rfl ?_
  · match vs, hl with
    | [v], _ => rfl
  · intro X mg mb s s' E a env vs hs hc hh' hl _ _ _ F
    match vs, hl with
    | [v], _ =>
    have kd : ∀ {x : Str} {kd : NameKind}, (scoAt 25).names.lookup x = some kd → env.kindOf x = some kd := fun h => kindOf_eq hs h
    refine ex_ret F (d := .str (S (prepL x))) (ev_cast (ev_join (y := []) (ps := (x.filter fun n => !inB1 n).map b3L) ev_str (ev_cast
      (ev_comp (xs := x) (dat := fun n => .str (S [n])) (p := fun n => !inB1 n) (f := fun n => .str (S (b3L n))) (J := J1 "sign" fun n => .str (S [n]))
        (it_str hh (ev_local (kd (by decide +kernel)) rfl (.head _))) (by omega) (closureFor_none (by decide +kernel)) (fun n c' e => by cases e) (by decide +kernel) rfl (by decide +kernel) (.inl fun _ _ => rfl) (asg1 (by decide +kernel))
        (fun Y cenv e1 e2 n hn L P hj => ?_) (fun Y cenv e1 e2 n hn hp L P hj => ?_)) ?_) ?_) ?_) fun v₃ s₃ k₃ h₃ => ⟨(F.keeps k₃).done, h₃⟩
    · obtain ⟨u, l', rfl, rfl⟩ := hj
      exact tsts_one (ts_not (ts_call (ev_fn (k := 18) (kc e1 (by decide +kernel)) (by decide +kernel) (evl_cons (ev_local (d := .str (S [n])) (kc e1 (by decide +kernel)) rfl (.head _)) evl_nil) (b1_spec hd))))
    · obtain ⟨u, l', rfl, rfl⟩ := hj
      exact ev_fn (k := 20) (kc e1 (by decide +kernel)) (by decide +kernel) (evl_cons (ev_local (d := .str (S [n])) (kc e1 (by decide +kernel)) rfl (.head _)) evl_nil) (b3_spec hd)
    · rw [List.map_map]; rfl
    · have h1 := sum_le (fun p : List Nat => p.length) 64 ((x.filter fun n => !inB1 n).map b3L) fun p hp => by
        obtain ⟨n, hn, rfl⟩ := List.mem_map.mp hp
        exact hb n (List.mem_filter.mp hn).1
      have h2 : ((x.filter fun n => !inB1 n).map b3L).length ≤ x.length := by rw [List.length_map]; exact List.length_filter_le _ _
      have h3 : ((x.filter fun n => !inB1 n).map b3L).length * 64 ≤ 65536 * 64 := Nat.mul_le_mul_right _ (by omega)
      simp only [List.length_nil, Nat.mul_zero, Nat.add_zero]
      omega
    · rw [join0_S]; rfl
end
end Mine

end
section
open PySem PySem.W PyProof.Rows
namespace Mine
section
variable {w : World} {A : Around} {mg mb : Str → Option Value} {s₀ : Base} {X : Addr → Prop} {env : Env} {l c : List (Str × Value)} {D : List (Da × Value)}

theorem Cx.toX {s : Shared} (F : Cx mg mb s₀ X env l c D s) {Y : Addr → Prop} (hY : ∀ b, Y b → Away env b) (hn : ∀ b, New s.heap b → Y b) (hd : ∀ p ∈ D, Holds Y s.heap p.1 p.2) : Cx mg mb s₀ Y env l c D s :=
  ⟨F.kind, F.glob, F.blt, F.same, F.keep, F.top, F.ns, F.cell, F.apart, F.off, F.old, hY, hn, hd⟩

/-- all that stands now, but for the frame's own objects -/
noncomputable def Base.now (env : Env) (s : Shared) : Base := ⟨s, fun b o => Away env b ∧ s.heap.get? b = some o⟩
theorem Cx.rebase {s : Shared} (F : Cx mg mb s₀ X env l c D s) : Cx mg mb (.now env s) X env l c D s :=
  ⟨F.kind, F.glob, F.blt, ⟨s.heap, s.toks, rfl⟩, fun _ _ e => e.2, fun h hh => F.top h fun b o e => hh b o ⟨F.old b o e, F.keep b o e⟩, F.ns, F.cell, F.apart, F.off, fun _ _ e => e.1, F.xl, F.xn, F.led⟩
theorem Cx.unbase {s s' : Shared} {Y : Addr → Prop} {l' c' : List (Str × Value)} {D' : List (Da × Value)} (F : Cx mg mb s₀ X env l c D s) (G : Cx mg mb (.now env s) Y env l' c' D' s') : Cx mg mb s₀ Y env l' c' D' s' :=
  ⟨G.kind, G.glob, G.blt, by
    obtain ⟨h, tk, e⟩ := F.same
    obtain ⟨h', tk', e'⟩ := G.same
    refine ⟨h', tk', ?_⟩
    rw [e']
    show ({ s with heap := h', toks := tk' } : Shared) = _
    rw [e], fun b o e => G.keep b o ⟨F.old b o e, F.keep b o e⟩, F.top, G.ns, G.cell, G.apart, G.off, F.old, G.xl, G.xn, G.led⟩

theorem Cx.move2 {s : Shared} (F : Cx mg mb s₀ X env l c D s) {h' : Heap} {tk : Nat} {Y : Addr → Prop} (T : Addr → Prop) (hT : ∀ b o, ¬ T b → s.heap.get? b = some o → h'.get? b = some o) (h1 : ∀ b o, s₀.B b o → ¬ T b)
    (h2 : ¬ T env.locals) (h3 : ∀ n c', env.cells.lookup n = some c' → ¬ T c') (h4 : ∀ b, X b → ¬ T b) (hY : ∀ b, Y b → Away env b) (hXY : ∀ b, X b → Y b) (hn : ∀ b, New h' b → Y b) : Cx mg mb s₀ Y env l c D { s with heap := h', toks := tk } := by
  refine ⟨F.kind, F.glob, F.blt, let ⟨_, _, e⟩ := F.same; ⟨h', tk, by rw [e]⟩, fun b o e => hT b o (h1 b o e) (F.keep b o e), F.top, F.ns.at' fun o e => hT _ o h2 e, fun n c' e => ?_, F.apart, F.off, F.old, hY, hn,
    fun p hp => (F.led p hp).ext fun b o xb e => ⟨hXY b xb, hT b o (h4 b xb) e⟩⟩
  obtain ⟨o, ho, r⟩ := F.cell n c' e
  exact ⟨o, hT _ o (h3 n c' e) ho, r⟩

/-- a for loop -/
theorem ex_for {α : Type} {xs : List α} {dat : α → Da} {tgt iter : Expr} {body rest : List Stmt} {pos : Pos} {J : Nat → List (Str × Value) → List (Str × Value) → List (Da × Value) → Prop} {JB : List (Str × Value) → List (Str × Value) → List (Da × Value) → Prop}
    {s : Shared} {Q : Flow → Shared → Prop} {E : Value → Shared → Prop} (F : Cx mg mb s₀ X env l c D s) (hit : It w A mg mb s₀ X env l c D iter (xs.map dat)) (h0 : J 0 l c D)
    (hown : (∀ it v, letOwnedTupleGo tgt it v = pure ()) ∨ ∃ elts k pos, tgt = .Tuple elts k pos)
    (turn : ∀ Y s₁ i x L C D' s v E', xs[i]? = some x → J i L C D' → (∀ b, Y b → X b) → (∀ b o, s₀.B b o → s₁.B b o) → Cx mg mb s₁ Y env L C D' s → Holds Y s.heap (dat x) v →
      wpAny (model pw w) A (assign tgt env v) (fun _ s₂ => wpAny (model pw w) A (execs body env) (fun f s₃ => match f with
        | .next | .cont => ∃ L C D', J (i + 1) L C D' ∧ Cx mg mb s₁ Y env L C D' s₃
        | .brk => ∃ L C D', JB L C D' ∧ Cx mg mb s₁ Y env L C D' s₃
        | .ret _ => False) E' s₂) E' s)
    (hend : ∀ L C D' s', (J xs.length L C D' ∨ JB L C D') → Cx mg mb s₀ X env L C D' s' → wpAny (model pw w) A (execs rest env) Q E s')
    (hs : ∀ x, foldedSetIterable iter env x = pure x := by intro _; rfl) :
    wpAny (model pw w) A (execs (.For tgt iter body [] pos :: rest) env) Q E s := by
  refine wpAny_execs_cons (wpAny_For (wpAny_mono (hit s E F) (fun xv s₁ h₁ => wpAny_mono h₁.2 (fun it s₂ h₂ => ?_) fun _ _ e => e) fun _ _ e => e) hs)
  obtain ⟨k₁, _⟩ := h₁
  obtain ⟨k₂, I, wr, rfl, hwn, hwl, hW⟩ := h₂
  have K₂ : Keeps s s₂ := kt k₁ k₂
  obtain ⟨St, W, hst⟩ := hW (fun b => X b ∧ ¬ wr b) (fun b hb => hb) (fun b o xb wb _ => ⟨xb, wb⟩)
  have nwl : ¬ wr env.locals := fun q => by obtain ⟨o, ho⟩ := ns_some F.ns; exact new_ne (hwn _ q) ho rfl
  have nwc : ∀ n c', env.cells.lookup n = some c' → ¬ wr c' := fun n c' e q => by obtain ⟨o, ho, _⟩ := F.cell n c' e; exact new_ne (hwn _ q) ho rfl
  have aw : ∀ b, wr b → Away env b := fun b q => ⟨fun e => nwl (e ▸ q), fun n c' e r => nwc n c' e (r ▸ q)⟩
  have F₂ : Cx mg mb s₀ (fun b => X b ∧ ¬ wr b) env l c D s₂ := (F.keeps K₂).toX (fun b hb => F.xl b hb.1)
    (fun b hb => ⟨(F.keeps K₂).xn b hb, fun q => by obtain ⟨o, ho⟩ := hwl b q; rw [show s₂.heap.get? b = none from hb] at ho; cases ho⟩)
    (fun p hp => (F.led p hp).ext fun b o xb e => ⟨⟨xb, fun q => new_ne (hwn b q) e rfl⟩, kg K₂ b o e⟩)
  have back : ∀ L C D' s', Cx mg mb s₀ (fun b => X b ∧ ¬ wr b) env L C D' s' → Cx mg mb s₀ X env L C D' s' := fun L C D' s' G =>
    G.toX F.xl (fun b hb => (G.xn b hb).1) fun p hp => (G.led p hp).weak fun b xb => xb.1
  refine codeAny_forLoop_any (fun n s' => ∃ L C D' i, Cx mg mb s₀ (fun b => X b ∧ ¬ wr b) env L C D' s' ∧ J i L C D' ∧ St i s'.heap ∧ i ≤ xs.length ∧ n = xs.length + 1 - i) ?_ (xs.length + 1) ⟨l, c, D, 0, F₂, h0, hst, Nat.zero_le _, rfl⟩
  rintro n s' ⟨L, C, D', i, F', hj, hst', hi, rfl⟩
  by_cases hlt : i < xs.length
  · have hd : (xs.map dat)[i]? = some (dat xs[i]) := by simp [hlt]
    refine W.item i _ _ _ _ hd hst' F'.xn fun v h₁ tk₁ hv hst₁ hk₁ hown₁ => ?_
    have step : ∀ h₂ : Heap, St (i + 1) h₂ → (∀ b o, ¬ wr b → s'.heap.get? b = some o → h₂.get? b = some o) → Holds (fun b => X b ∧ ¬ wr b) h₂ (dat xs[i]) v → ∀ E' : Value → Shared → Prop, ∀ R : Flow → Shared → Prop,
        (∀ (f : Flow) s₃, (match f with
          | .next | .cont => ∃ m, m < xs.length + 1 - i ∧ ∃ L C D' i, Cx mg mb s₀ (fun b => X b ∧ ¬ wr b) env L C D' s₃ ∧ J i L C D' ∧ St i s₃.heap ∧ i ≤ xs.length ∧ m = xs.length + 1 - i
          | .brk => ∃ L C D', JB L C D' ∧ Cx mg mb s₀ X env L C D' s₃
          | .ret _ => False) → R f s₃) →
        wpAny (model pw w) A (assign tgt env v) (fun _ s₂ => wpAny (model pw w) A (execs body env) R E' s₂) E' { s' with heap := h₂, toks := tk₁ } := by
      intro h₂ hst₂ hk₂ hv₂ E' R hR
      have F₃ : Cx mg mb s₀ (fun b => X b ∧ ¬ wr b) env L C D' { s' with heap := h₂, toks := tk₁ } := F'.move (h' := h₂) (tk := tk₁) wr hk₂ (fun b o e q => new_ne (hwn b q) (F.keep b o e) rfl) nwl nwc (fun b xb => xb.2) (W.live _ _ hst₂)
      refine wpAny_mono (turn _ (.now env { s' with heap := h₂, toks := tk₁ }) i xs[i] L C D' _ v E' (by simp [hlt]) hj (fun b xb => xb.1) (fun b o e => ⟨F₃.old b o e, F₃.keep b o e⟩) F₃.rebase hv₂) (fun _ s₄ h₄ => wpAny_mono h₄ (fun f s₅ h₅ => hR f s₅ ?_) fun _ _ e => e) fun _ _ e => e
      have nxt : (∃ L C D', J (i + 1) L C D' ∧ Cx mg mb (.now env { s' with heap := h₂, toks := tk₁ }) (fun b => X b ∧ ¬ wr b) env L C D' s₅) →
          ∃ m, m < xs.length + 1 - i ∧ ∃ L C D' i, Cx mg mb s₀ (fun b => X b ∧ ¬ wr b) env L C D' s₅ ∧ J i L C D' ∧ St i s₅.heap ∧ i ≤ xs.length ∧ m = xs.length + 1 - i := by
        rintro ⟨L', C', D'', hj', G⟩
        refine ⟨xs.length + 1 - (i + 1), by omega, L', C', D'', i + 1, F₃.unbase G, hj', ?_, hlt, rfl⟩
        refine W.frame _ _ _ hst₂ fun b o q e => G.keep b o ⟨?_, e⟩
        exact q.elim (fun xb => F.xl b xb.1) (aw b)
      cases f with
      | next => exact nxt h₅
      | cont => exact nxt h₅
      | brk => obtain ⟨L', C', D'', hj', G⟩ := h₅; exact ⟨L', C', D'', hj', back _ _ _ _ (F₃.unbase G)⟩
      | ret _ => exact h₅
    have fin : ∀ (f : Flow) s₃, (match f with
          | .next | .cont => ∃ m, m < xs.length + 1 - i ∧ ∃ L C D' i, Cx mg mb s₀ (fun b => X b ∧ ¬ wr b) env L C D' s₃ ∧ J i L C D' ∧ St i s₃.heap ∧ i ≤ xs.length ∧ m = xs.length + 1 - i
          | .brk => ∃ L C D', JB L C D' ∧ Cx mg mb s₀ X env L C D' s₃
          | .ret _ => False) → (match f with
            | .next | .cont => ∃ m, m < xs.length + 1 - i ∧ ∃ L C D' i, Cx mg mb s₀ (fun b => X b ∧ ¬ wr b) env L C D' s₃ ∧ J i L C D' ∧ St i s₃.heap ∧ i ≤ xs.length ∧ m = xs.length + 1 - i
            | .brk => wpAny (model pw w) A (execs rest env) Q E s₃
            | .ret v => Q (.ret v) s₃) := by
      intro f s₃ h
      cases f with
      | next => exact h
      | cont => exact h
      | brk => obtain ⟨L', C', D'', hj', G⟩ := h; exact hend _ _ _ _ (.inr hj') G
      | ret _ => exact h.elim
    rcases hown with hown | ⟨elts, k, po, rfl⟩
    · exact wpAny_of_eq (hown _ _) (step h₁ hst₁ hk₁ hv _ _ fin)
    · refine hown₁ _ _ _ _ _ fun h₂ hst₂ hk₂ => step h₂ hst₂ (fun b o q e => hk₂ b o q (hk₁ b o q e)) ?_ _ _ fin
      exact hv.ext fun b o xb e => ⟨xb, hk₂ b o xb.2 e⟩
  · have hin : i = xs.length := by omega
    subst hin
    refine W.done _ _ _ (by simpa using hst') fun h₁ tk₁ hk₁ => ?_
    refine wpAny_execs_nil ?_
    refine hend _ _ _ _ (.inl hj) (F'.move2 (h' := h₁) (tk := tk₁) wr hk₁ (fun b o e q => new_ne (hwn b q) (F.keep b o e) rfl) nwl nwc (fun b xb => xb.2) F.xl (fun b xb => xb.1) fun b hb => ?_)
    by_cases q : wr b
    · exact F.xn b (hwn b q)
    · refine (F'.xn b ?_).1
      cases e : s'.heap.get? b with
      | none => exact e
      | some o => have := hk₁ b o q e; rw [show h₁.get? b = none from hb] at this; cases this
end
end Mine

end
section
open PySem PySem.W PyProof.Rows
namespace Mine
section
variable {w : World} {A : Around} {mg mb : Str → Option Value} {s₀ : Base} {X : Addr → Prop} {env : Env} {l c : List (Str × Value)} {D : List (Da × Value)}

/-! displays of written constants -/
noncomputable def litD : Expr → Option Da
  | .Constant (.int i) _ _ => some (.int i)
  | .Constant (.str x) _ _ => some (.str (S x.cps.toList))
  | _ => none
noncomputable def litsD : List Expr → Option (List Da)
  | [] => some []
  | e :: es => match litD e, litsD es with
    | some d, some ds => some (d :: ds)
    | _, _ => none
noncomputable def rowD : Expr → Option Da
  | .Tuple es _ _ => (litsD es).map .tup
  | _ => none
noncomputable def rowsD : List Expr → Option (List Da)
  | [] => some []
  | e :: es => match rowD e, rowsD es with
    | some d, some ds => some (d :: ds)
    | _, _ => none
theorem ev_lit {e : Expr} {d : Da} (h : litD e = some d) : Ev w A mg mb s₀ X env l c D e d ∧ ∀ es, starEach (e :: es) env = (false, eval e env) :: starEach es env := by
  unfold litD at h
  split at h
  · cases h; exact ⟨ev_int, fun _ => rfl⟩
  · cases h; exact ⟨by rw [S_of]; exact ev_str, fun _ => rfl⟩
  · cases h
theorem evl_lits {pos : Pos} : ∀ {es : List Expr} {ds : List Da}, litsD es = some ds → EvL w A mg mb s₀ X env l c D pos es ds
  | [], ds, h => by cases h; exact evl_nil
  | e :: es, ds, h => by
    unfold litsD at h
    split at h
    · rename_i d ds' h1 h2
      cases h
      exact evl_cons (ev_lit h1).1 (evl_lits h2) ((ev_lit (w := w) (A := A) (mg := mg) (mb := mb) (s₀ := s₀) (X := X) (l := l) (c := c) (D := D) h1).2 es)
    · cases h
theorem litsD_len : ∀ {es : List Expr} {ds : List Da}, litsD es = some ds → ds.length = es.length
  | [], ds, h => by cases h; rfl
  | e :: es, ds, h => by
    unfold litsD at h
    split at h
    · rename_i d ds' h1 h2
      cases h
      simp [litsD_len h2]
    · cases h
noncomputable def smallRow : Expr → Bool
  | .Tuple es _ _ => decide (es.length ≤ 1000)
  | _ => true
theorem evl_rows {pos : Pos} : ∀ {es : List Expr} {ds : List Da}, rowsD es = some ds → es.all smallRow = true → EvL w A mg mb s₀ X env l c D pos es ds
  | [], ds, h, _ => by cases h; exact evl_nil
  | e :: es, ds, h, hl => by
    unfold rowsD at h
    split at h
    · rename_i d ds' h1 h2
      cases h
      rw [List.all_cons, Bool.and_eq_true] at hl
      unfold rowD at h1
      split at h1
      · rename_i es' k p
        obtain ⟨ds1, h3, rfl⟩ := Option.map_eq_some_iff.mp h1
        have h4 : es'.length ≤ 1000 := by simpa [smallRow] using hl.1
        have hsz : sizeLine = 16777216 := sizeLine_eq
        have h5 := litsD_len h3
        exact evl_cons (ev_tuple (evl_lits h3) (by omega)) (evl_rows h2 hl.2) rfl
      · cases h1
    · cases h

/-- a pair is taken apart -/
theorem asg_pair {x y : Str} {px py pos : Pos} {k : Nat} {dx dy : Da} {v : Value} {s : Shared} {Q : Unit → Shared → Prop} {E : Value → Shared → Prop} (F : Cx mg mb s₀ X env l c D s) (hh : A.handled = none)
    (hv : Holds X s.heap (.tup [dx, dy]) v) (hx : env.kindOf x = some .local) (hy : env.kindOf y = some .local)
    (h : ∀ vx vy s', Cx mg mb s₀ X env ((y, vy) :: (x, vx) :: l) c ((dy, vy) :: (dx, vx) :: D) s' → Q () s') :
    wpAny (model pw w) A (assign (.Tuple [.Name x px, .Name y py] k pos) env v) Q E s := by
  obtain ⟨a, vs, rfl, xa, ho, hl⟩ := hv
  obtain ⟨vx, r, rfl, h1, vy, r2, rfl, h2, rfl⟩ := hl
  rw [assign_Tuple]
  refine wpAny_bind (wpAny_standAt (PyProof.Rows.unpack_tuple (items := [vx, vy].toArray) hh ho rfl rfl fun h' hs => ?_))
  have g : Grow s.heap h' := fun b o e => hs b o (Nat.ne_of_lt (Heap.lt_size e)) e
  have F1 : Cx mg mb s₀ X env l c ((dy, vy) :: (dx, vx) :: D) { s with heap := h' } := ((F.add h1).add h2).keeps ⟨h', s.toks, rfl, g⟩
  show wpAny _ A (do holding [vy] (assign (.Name x px) env vx); do holding [] (assign (.Name y py) env vy); pure ()) _ _ _
  refine wpAny_bind (wpAny_holding (wpAny_assign_Name (F1.st hx fun s1 F2 => ?_)))
  refine wpAny_bind (wpAny_holding (wpAny_assign_Name (F2.st hy fun s2 F3 => wpAny_pure ?_)))
  exact h vx vy s2 F3
theorem ex_pair {x y : Str} {px py tp pos : Pos} {k : Nat} {e : Expr} {dx dy : Da} {rest : List Stmt} {s : Shared} {Q : Flow → Shared → Prop} {E : Value → Shared → Prop} (F : Cx mg mb s₀ X env l c D s) (hh : A.handled = none)
    (he : Ev w A mg mb s₀ X env l c D e (.tup [dx, dy])) (hx : env.kindOf x = some .local) (hy : env.kindOf y = some .local)
    (h : ∀ vx vy s', Cx mg mb s₀ X env ((y, vy) :: (x, vx) :: l) c ((dy, vy) :: (dx, vx) :: D) s' → wpAny (model pw w) A (execs rest env) Q E s')
    (hs : swapsWithSole [.Tuple [.Name x px, .Name y py] k tp] e pos.line env = pure false := by rfl) (hw : swappedStores [.Tuple [.Name x px, .Name y py] k tp] e env = pure none := by rfl) :
    wpAny (model pw w) A (execs (.Assign [.Tuple [.Name x px, .Name y py] k tp] e pos :: rest) env) Q E s :=
  wpAny_execs_cons (Assign_Tuple (ev_use he F fun v s₁ k₁ h₁ => asg_pair (F.keeps k₁) hh h₁ hx hy fun vx vy s' F' => h vx vy s' F') hs hw)
theorem ex_pairS {x y : Str} {px py tp pos : Pos} {k : Nat} {e : Expr} {dx dy : Da} {rest : List Stmt} {s : Shared} {Q : Flow → Shared → Prop} {E : Value → Shared → Prop} (F : Cx mg mb s₀ X env l c D s) (hh : A.handled = none)
    (he : Ev w A mg mb s₀ X env l c D e (.tup [dx, dy])) (hx : env.kindOf x = some .local) (hy : env.kindOf y = some .local)
    (h : ∀ vx vy s', Cx mg mb s₀ X env ((x, vx) :: (y, vy) :: l) c ((dy, vy) :: (dx, vx) :: D) s' → wpAny (model pw w) A (execs rest env) Q E s')
    (hw : swappedStores [.Tuple [.Name x px, .Name y py] k tp] e env = pure (some [x, y])) (hs : swapsWithSole [.Tuple [.Name x px, .Name y py] k tp] e pos.line env = pure false := by rfl) :
    wpAny (model pw w) A (execs (.Assign [.Tuple [.Name x px, .Name y py] k tp] e pos :: rest) env) Q E s := by
  refine wpAny_execs_cons (Assign_Tuple_swapped (ev_use he F fun v s₁ k₁ h₁ => ?_) hs hw)
  obtain ⟨a, vs, rfl, xa, ho, hl⟩ := h₁
  obtain ⟨vx, r, rfl, h1, vy, r2, rfl, h2, rfl⟩ := hl
  refine PyProof.Rows.unpackItems_tuple (items := [vx, vy].toArray) hh ho fun h' hs' => ?_
  have g : Grow s₁.heap h' := fun b o e => hs' b o (Nat.ne_of_lt (Heap.lt_size e)) e
  have F0 := F.keeps k₁
  have F1 : Cx mg mb s₀ X env l c ((dy, vy) :: (dx, vx) :: D) { s₁ with heap := h' } := ((F0.add h1).add h2).keeps ⟨h', s₁.toks, rfl, g⟩
  show wpAny _ A (do holding [vx] (bindName env y vy); do holding [] (bindName env x vx); pure ()) _ _ _
  refine wpAny_bind (wpAny_holding (wpAny_bindName (F1.st hy fun s1 F2 => ?_)))
  refine wpAny_bind (wpAny_holding (wpAny_bindName (F2.st hx fun s2 F3 => wpAny_pure ?_)))
  exact h vx vy s2 F3

/-! _law_gone -/
noncomputable def goneL : List Nat := [173, 847, 6150, 6155, 6156, 6157, 8203, 8204, 8205, 8288, 65279]
noncomputable def goneN (turn : Nat) : Nat := if turn % 27 < 11 then goneL.getD (turn % 27) 0 else 65013 + turn % 27
theorem gone_spec {n : Nat} (hd : A.depth < recursionLimit) : Spec w A "_law_gone" 22 [.int n] (.str (S [goneN n])) := by
  refine enter (ps := ["turn"]) hd (fun pm cd doc vs hl => ?_) (by decide +kernel) rfl rfl rfl ?_
  · match vs, hl with
    | [v], _ => rfl
  · intro X mg mb s s' E a env vs hs hc hh hl _ _ _ F
    match vs, hl with
    | [v], _ =>
    have kd : ∀ {x : Str} {kd : NameKind}, (scoAt 22).names.lookup x = some kd → env.kindOf x = some kd := fun h => kindOf_eq hs h
    refine ex_assign F (ev_modI (ev_local (d := .int n) (kd (by decide +kernel)) rfl (.head _)) ev_int (by decide)) (kd (by decide +kernel)) fun v₁ s₁ F => ?_
    have e1 : ((n : Int) % 27) = ((n % 27 : Nat) : Int) := by omega
    rw [e1] at F
    have hlt : n % 27 < 27 := Nat.mod_lt _ (by decide)
    generalize hm : n % 27 = m at F hlt
    have hg : goneN n = if m < 11 then goneL.getD m 0 else 65013 + m := by unfold goneN; rw [hm]
    refine ex_ret F (d := .str (S [goneN n])) (ev_ifexp (ts_ltI (ev_local (d := .int m) (kd (by decide +kernel)) rfl (.head _)) ev_int) (fun hr => ?_) fun hr => ?_) fun v₃ s₃ k₃ h₃ => ⟨(F.keeps k₃).done, h₃⟩
    · have hm' : m < 11 := by have := of_decide_eq_true hr; omega
      have hb : goneL[m]? = some (goneN n) := by
        rw [hg, if_pos hm']
        have : ∀ m : Nat, m < 11 → goneL[m]? = some (goneL.getD m 0) := by decide +kernel
        exact this m hm'
      exact ev_itemS (x := goneL) (ev_cast ev_str (by rw [← S_of (Str.ofString _)]; congr 1)) (ev_local (kd (by decide +kernel)) rfl (.head _)) hb (by omega)
    · have hm' : ¬ m < 11 := by have := of_decide_eq_false hr; omega
      have hb : goneN n = 65013 + m := by rw [hg, if_neg hm']
      rw [hb]
      refine ev_blt (kd (by decide +kernel)) (fun T => T.fr "chr" (by decide +kernel)) Boot.«chr» (evl_cons (ev_cast (ev_addI ev_int (ev_local (d := .int m) (kd (by decide +kernel)) rfl (.head _))) ?_) evl_nil) (b_chr (n := 65013 + m) (by omega))
      congr 1

/-! _law_special -/
noncomputable def specT : List (Nat × List Nat) := [(223, [115, 115]), (13255, [99, 111, 46]), (13254, [99, 8725, 107, 103]), (64259, [102, 102, 105]), (8470, [110, 111]), (890, [32, 953]), (329, [700, 110]), (7834, [97, 702]),
  (304, [105, 775]), (8481, [116, 101, 108]), (8229, [8229]), (8228, [8228]), (65294, [65294]), (65295, [65295]), (8725, [8725]), (8260, [8260])]
noncomputable def specC (n : Nat) : Nat := (specT.getD (n % 16) (0, [])).1
noncomputable def specP (n : Nat) : List Nat := (specT.getD (n % 16) (0, [])).2
noncomputable def es23 : List Expr := match bodAt 23 with | .Assign _ (.Subscript (.Tuple es _ _) _ _) _ :: _ => es | _ => []
theorem es23_small : es23.all smallRow = true := by kernel_rfl
noncomputable def ds23 : List Da := specT.map fun x : Nat × List Nat => Da.tup [.int x.1, .str (S x.2)]
theorem es23_is : rowsD es23 = some ds23 := by kernel_rfl
theorem body23 : bodAt 23 = .Assign [.Tuple [.Name "code" ⟨121, 4, 121, 8⟩, .Name "plain" ⟨121, 10, 121, 15⟩] 0 ⟨121, 4, 121, 15⟩] (.Subscript (.Tuple es23 0 ⟨121, 18, 121, 260⟩)
  (.BinOp (.Name "turn" ⟨121, 261, 121, 265⟩) .Mod (.Constant (.int 16) 0 ⟨121, 268, 121, 270⟩) ⟨121, 261, 121, 270⟩) ⟨121, 18, 121, 271⟩) ⟨121, 4, 121, 271⟩ :: (bodAt 23).drop 1 := by kernel_rfl
theorem spec_spec {n : Nat} (hd : A.depth < recursionLimit) (hh : A.handled = none) : Spec w A "_law_special" 23 [.int n] (.tup [.str (S [specC n]), .str (S (specP n))]) := by
  refine enter (ps := ["turn"]) hd (fun pm cd doc vs hl => ?_) (by decide +kernel) rfl rfl rfl ?_
  · match vs, hl with
    | [v], _ => rfl
  · intro X mg mb s s' E a env vs hs hc hh' hl _ _ _ F
    match vs, hl with
    | [v], _ =>
    have kd : ∀ {x : Str} {kd : NameKind}, (scoAt 23).names.lookup x = some kd → env.kindOf x = some kd := fun h => kindOf_eq hs h
    have e1 : ((n : Int) % 16) = ((n % 16 : Nat) : Int) := by omega
    have hlt : n % 16 < 16 := Nat.mod_lt _ (by decide)
    have hsz : sizeLine = 16777216 := sizeLine_eq
    have hk : ds23[n % 16]? = some (.tup [.int (specC n), .str (S (specP n))]) := by
      unfold ds23 specC specP
      rw [List.getElem?_map]
      have : specT[n % 16]? = some (specT.getD (n % 16) (0, [])) := by
        rw [List.getD_eq_getElem?_getD, List.getElem?_eq_getElem (by exact hlt)]; rfl
      rw [this]; rfl
    have hc : specC n < 1114112 := by
      have : ∀ m : Nat, m < 16 → (specT.getD m (0, [])).1 < 1114112 := by decide +kernel
      exact this _ hlt
    have hlen : ds23.length ≤ sizeLine := by unfold ds23; rw [List.length_map, hsz]; exact Nat.le_of_ble_eq_true rfl
    have t1 : rowsD es23 = some ds23 := es23_is
    have t2 := es23_small
    rw [body23]
    generalize es23 = es at t1 t2
    generalize ds23 = ds at t1 hk hlen
    refine ex_pair F hh (dx := .int (specC n)) (dy := .str (S (specP n))) (ev_itemT (k := n % 16) (ev_tuple (evl_rows t1 t2) hlen)
      (ev_cast (ev_modI (ev_local (d := .int n) (kd (by decide +kernel)) rfl (.head _)) ev_int (by decide)) (by rw [e1])) hk (by omega)) (kd (by decide +kernel)) (kd (by decide +kernel)) fun v₁ v₂ s₁ F => ?_
    refine ex_ret F (ev_tuple (evl_cons (ev_blt (kd (by decide +kernel)) (fun T => T.fr "chr" (by decide +kernel)) Boot.«chr» (evl_cons (ev_local (d := .int (specC n)) (kd (by decide +kernel)) rfl (.tail _ (.head _))) evl_nil) (b_chr hc))
      (evl_cons (ev_local (d := .str (S (specP n))) (kd (by decide +kernel)) rfl (.head _)) evl_nil)) (by rw [hsz]; exact Nat.le_of_ble_eq_true rfl)) fun v₃ s₃ k₃ h₃ => ⟨(F.keeps k₃).done, h₃⟩
end
end Mine

end
section
open PySem PySem.W PyProof.Rows
set_option maxHeartbeats 1000000
namespace Mine
theorem swapped2 {env : Env} {a b : Str} {p1 p2 p3 p4 : Pos} {e1 e2 : Expr} {k k' : Nat} (hk : env.blockKind = .function) (ka : env.kindOf a = some .local) (kb : env.kindOf b = some .local) (hp : p2.line = p1.line) (hab : (b == a) = false)
    (hs : ([e1, e2].any fun | .Starred .. => true | _ => false) = false) (hv : [e1, e2].all (foldedForSure 8) = false) (hc : [e1, e2].all (constantsAlone 8) = false) :
    swappedStores [.Tuple [.Name a p1, .Name b p2] k p3] (.Tuple [e1, e2] k' p4) env = pure (some [a, b]) := by
  have hn : ([Expr.Name a p1, Expr.Name b p2].filterMap fun
    | .Name id pos => if env.kindOf id == some .local && pos.line == p1.line then some id else none
    | _ => none) = [a, b] := by
    simp [ka, kb, hp]
  have he : [a, b].eraseDups = [a, b] := by simp [List.eraseDups_cons, hab]
  unfold swappedStores
  refine (if_neg (by rw [hk]; exact Bool.false_ne_true)).trans ?_
  refine (if_neg (fun h => by have := hs.symm.trans h; cases this)).trans ?_
  have key : ∀ names : List Str, names = [a, b] → (if (names.length != 2 || names.eraseDups.length != names.length) = true then (pure none : Sem (Option (List Str))) else if [e1, e2].all (foldedForSure 8) = true then pure none
      else if [e1, e2].all (constantsAlone 8) = true then (do unsupported "assign.tuple-of-constant-expressions:order-of-the-stores"; pure (some names)) else pure (some names)) = pure (some [a, b]) := by
    rintro names rfl
    rw [he, hv, hc]; rfl
  exact key _ hn
section
variable {w : World} {A : Around} {mg mb : Str → Option Value} {s₀ : Base} {X : Addr → Prop} {env : Env} {l c : List (Str × Value)} {D : List (Da × Value)}

theorem ex_tab {x : Str} {px : Pos} {es : List Expr} {k0 : Nat} {tp sp pos : Pos} {slice : Expr} {rest : List Stmt} {ds : List Da} {k : Nat} {d : Da} {s : Shared} {Q : Flow → Shared → Prop} {E : Value → Shared → Prop} (F : Cx mg mb s₀ X env l c D s)
    (hes : litsD es = some ds) (hlen : ds.length ≤ 1000) (hi : Ev w A mg mb s₀ X env l c D slice (.int k)) (hk : ds[k]? = some d) (hb : k < 65536) (hx : env.kindOf x = some .local)
    (hsub : ∀ o i, subscripted slice false o i = operate [o, i] (getItem o i)) (hsw : swapsWith (.Subscript (.Tuple es k0 tp) slice sp) (some (.Name x px)) pos.line env = pure false)
    (h : ∀ v s', Cx mg mb s₀ X env ((x, v) :: l) c ((d, v) :: D) s' → wpAny (model pw w) A (execs rest env) Q E s') :
    wpAny (model pw w) A (execs (.Assign [.Name x px] (.Subscript (.Tuple es k0 tp) slice sp) pos :: rest) env) Q E s := by
  have hsz : sizeLine = 16777216 := sizeLine_eq
  exact ex_assign F (ev_itemT (ev_tuple (evl_lits hes) (by omega)) hi hk hb hsub) hx h hsw
theorem ts_cast {e : Expr} {a b : Bool} (h : Ts w A mg mb s₀ X env l c D e a) (q : a = b) : Ts w A mg mb s₀ X env l c D e b := q ▸ h
theorem one_eq (f g : Nat) : ([f] == [g]) = (f == g) := by
  by_cases h : f = g
  · subst h; simp
  · simp [h]
noncomputable def figL (n : Nat) : List Nat := (Str.ofString (toString (n : Int))).cps.toList
theorem figL_digit {n f : Nat} (h : f ∈ figL n) : 48 ≤ f ∧ f ≤ 57 := by
  unfold figL at h
  rw [signs_ofString] at h
  obtain ⟨ch, hc, rfl⟩ := List.mem_map.mp h
  have e : toString (n : Int) = Nat.repr n := rfl
  rw [e] at hc
  refine digit_range ?_
  refine Nat.isDigit_of_mem_toDigits (b := 10) (n := n) (by decide) (by decide) ?_
  simpa [Nat.repr] using hc
theorem figL_len {n : Nat} (h : n < 10 ^ 6) : (figL n).length ≤ 6 := by
  have := toString_length_le (v := (n : Int)) (by omega) (k := 6) (by decide) (by exact_mod_cast h)
  simpa [figL, Str.length] using this

theorem b_str {n : Nat} (hn : n < 10 ^ 7) : BSpec w A (.type "str") [.int n] (.str (S (figL n))) := fun X s E vs hX h => by
  obtain ⟨v, r, rfl, ⟨t, rfl⟩, rfl⟩ := h
  refine P.str_of_int ?_ ⟨keeps_tok s _, s.toks, ?_⟩
  · have : ((n : Int)).natAbs = n := Int.natAbs_natCast n
    rw [this]
    by_cases h0 : n = 0
    · subst h0; decide
    · have := (Nat.log2_lt h0 (k := 24)).mpr (Nat.lt_of_lt_of_le hn (by decide : (10 : Nat) ^ 7 ≤ 2 ^ 24))
      exact Nat.lt_trans this (by decide)
  · unfold figL; rw [S_of]
theorem intText_fig {f : Nat} (h1 : 48 ≤ f) (h2 : f ≤ 57) : PySem.intText? (S [f]) = some ((f - 48 : Nat) : Int) := by
  have : ∀ f : Nat, f < 58 → 48 ≤ f → PySem.intText? (S [f]) = some ((f - 48 : Nat) : Int) := by decide +kernel
  exact this f (by omega) h1
theorem b_int {f : Nat} (h1 : 48 ≤ f) (h2 : f ≤ 57) : BSpec w A (.type "int") [.str (S [f])] (.int ((f - 48 : Nat) : Int)) := fun X s E vs hX h => by
  obtain ⟨v, r, rfl, ⟨t, rfl⟩, rfl⟩ := h
  exact PySem.W.KIN.call_text (intText_fig h1 h2) (by rw [S_len]; exact Nat.le_of_ble_eq_true rfl) ⟨keeps_tok s _, _, rfl⟩
theorem ts_inS {a b : Expr} {pos : Pos} {x y : Str} (ha : Ev w A mg mb s₀ X env l c D a (.str y)) (hb : Ev w A mg mb s₀ X env l c D b (.str x)) (hm : behindInMarks .In b = false := by with_unfolding_all rfl) :
    Ts w A mg mb s₀ X env l c D (.Compare a [.In] [b] pos) (Txt.contains x y) := ts_cmp ha hb (fun s E va vb _ hX h1 h2 => by
    obtain ⟨t, rfl⟩ := h1
    obtain ⟨u, rfl⟩ := h2
    exact SB.contains ⟨keeps_refl s, rfl⟩) hm
theorem in29 {f : Nat} (h1 : 48 ≤ f) (h2 : f ≤ 57) : Txt.contains "29" (S [f]) = (f == 50 || f == 57) := by
  have : ∀ f : Nat, f < 58 → 48 ≤ f → Txt.contains "29" (S [f]) = (f == 50 || f == 57) := by decide +kernel
  exact this f (by omega) h1

noncomputable def signT : List (List Nat) := [[47], [47], [], [47, 46], [97], [98], [47], [], [46, 46], []]
noncomputable def aT : List Nat := [97, 65, 119808, 120068, 119964]
noncomputable def bT : List Nat := [98, 66, 119809, 8492]
/-- what a figure gives, as spelled and as meant -/
noncomputable def signOf (turn f : Nat) : List Nat × List Nat :=
  if f == 50 || f == 57 then ([goneN turn], signT.getD (f - 48) [])
  else if f == 52 then ([aT.getD (turn % 5) 0], signT.getD (f - 48) [])
  else if f == 53 then ([bT.getD (turn % 4) 0], signT.getD (f - 48) [])
  else if f == 55 then ([specC turn], specP turn)
  else (signT.getD (f - 48) [], signT.getD (f - 48) [])
noncomputable def stepW (n : Nat) (st : List Nat × List Nat) (f : Nat) : List Nat × List Nat := (st.1 ++ (signOf (n + st.1.length) f).1, st.2 ++ (signOf (n + st.1.length) f).2)
noncomputable def pathL (front : List Nat) (n : Nat) : List Nat × List Nat := (figL n).foldl (stepW n) (front, front)

theorem signOf_len {turn f : Nat} (h1 : 48 ≤ f) (h2 : f ≤ 57) : (signOf turn f).1.length ≤ 4 ∧ (signOf turn f).2.length ≤ 4 := by
  have t1 : ∀ k : Nat, k < 10 → (signT.getD k []).length ≤ 4 := by decide +kernel
  have t2 : ∀ k : Nat, k < 16 → ((specT.getD k (0, [])).2).length ≤ 4 := by decide +kernel
  have t3 := t1 (f - 48) (by omega)
  have t4 := t2 (turn % 16) (Nat.mod_lt _ (by decide))
  unfold signOf
  split
  · exact ⟨by simp, t3⟩
  · split
    · exact ⟨by simp, t3⟩
    · split
      · exact ⟨by simp, t3⟩
      · split
        · exact ⟨by simp, t4⟩
        · exact ⟨t3, t3⟩
theorem foldW_len {n : Nat} : ∀ (fs : List Nat) (st : List Nat × List Nat), (∀ f ∈ fs, 48 ≤ f ∧ f ≤ 57) → ((fs.foldl (stepW n) st).1.length ≤ st.1.length + 4 * fs.length) ∧ ((fs.foldl (stepW n) st).2.length ≤ st.2.length + 4 * fs.length)
  | [], st, _ => ⟨by simp, by simp⟩
  | f :: fs, st, h => by
    have hf := h f List.mem_cons_self
    have h1 := signOf_len (turn := n + st.1.length) hf.1 hf.2
    have ih := foldW_len (n := n) fs (stepW n st f) fun g hg => h g (List.mem_cons_of_mem _ hg)
    have e1 : (stepW n st f).1.length = st.1.length + (signOf (n + st.1.length) f).1.length := by simp [stepW]
    have e2 : (stepW n st f).2.length = st.2.length + (signOf (n + st.1.length) f).2.length := by simp [stepW]
    rw [List.foldl_cons, List.length_cons]
    omega

theorem lkc {x y : Str} {v : Value} {L : List (Str × Value)} {r : Option Value} (h : (x == y) = false) (e : L.lookup x = r) : ((y, v) :: L).lookup x = r := by
  rw [List.lookup_cons, h]; exact e
theorem lkh {x : Str} {v : Value} {L : List (Str × Value)} : ((x, v) :: L).lookup x = some v := by simp
theorem signT_get {f : Nat} (h1 : 48 ≤ f) (h2 : f ≤ 57) : (signT.map fun x => Da.str (S x))[f - 48]? = some (.str (S (signT.getD (f - 48) []))) := by
  rw [List.getElem?_map]
  have : signT[f - 48]? = some (signT.getD (f - 48) []) := by
    rw [List.getD_eq_getElem?_getD, List.getElem?_eq_getElem (by show f - 48 < 10; omega)]; rfl
  rw [this]; rfl
noncomputable def es24s : List Expr := match bodAt 24 with | _ :: .For _ _ (_ :: .Assign _ (.Subscript (.Tuple es _ _) _ _) _ :: _) _ _ :: _ => es | _ => []
theorem es24s_is : litsD es24s = some (signT.map fun x => Da.str (S x)) := by kernel_rfl
/-- what holds between the turns of _law_path's loop -/
noncomputable def PathJ (fr n : Nat) (front : List Nat) (i : Nat) (L C : List (Str × Value)) (D : List (Da × Value)) : Prop :=
  C = [] ∧ ∃ vw vp vn, L.lookup ("written" : Str) = some vw ∧ L.lookup ("plain" : Str) = some vp ∧ L.lookup ("number" : Str) = some vn ∧ (Da.int n, vn) ∈ D ∧
    (Da.str (S (((figL n).take i).foldl (stepW n) (front, front)).1), vw) ∈ D ∧ (Da.str (S (((figL n).take i).foldl (stepW n) (front, front)).2), vp) ∈ D

noncomputable def fin24 : List Stmt := match bodAt 24 with | _ :: .For _ _ (_ :: _ :: _ :: _ :: r) _ _ :: _ => r | _ => []
theorem aT_get (turn : Nat) : (aT.map fun x : Nat => Da.int x)[turn % 5]? = some (.int (aT.getD (turn % 5) 0)) := by
  have : ∀ m : Nat, m < 5 → aT[m]? = some (aT.getD m 0) := by decide +kernel
  rw [List.getElem?_map, this _ (Nat.mod_lt _ (by decide))]; rfl
theorem bT_get (turn : Nat) : (bT.map fun x : Nat => Da.int x)[turn % 4]? = some (.int (bT.getD (turn % 4) 0)) := by
  have : ∀ m : Nat, m < 4 → bT[m]? = some (bT.getD m 0) := by decide +kernel
  rw [List.getElem?_map, this _ (Nat.mod_lt _ (by decide))]; rfl
theorem aT_lt (turn : Nat) : aT.getD (turn % 5) 0 < 1114112 := by
  have : ∀ m : Nat, m < 5 → aT.getD m 0 < 1114112 := by decide +kernel
  exact this _ (Nat.mod_lt _ (by decide))
theorem bT_lt (turn : Nat) : bT.getD (turn % 4) 0 < 1114112 := by
  have : ∀ m : Nat, m < 4 → bT.getD m 0 < 1114112 := by decide +kernel
  exact this _ (Nat.mod_lt _ (by decide))
theorem path_spec {front : List Nat} {n : Nat} (hd : A.depth + 1 < recursionLimit) (hh : A.handled = none) (hn : n < 10 ^ 6) (hf : front.length ≤ 1) :
    Spec w A "_law_path" 24 [.str (S front), .int n] (.tup [.str (S (pathL front n).1), .str (S (pathL front n).2)]) := by
  have hsz : sizeLine = 16777216 := sizeLine_eq
  refine enter (ps := ["front", "number"]) (by omega) (fun pm cd doc vs hl => ?_) (by decide +kernel) rfl rfl rfl ?_
  · match vs, hl with
    | [v, u], _ => rfl
  · intro X mg mb s s' E a env vs hs hc hh' hl _ _ _ F
    match vs, hl with
    | [vf, vn], _ =>
    have kd : ∀ {x : Str} {kd : NameKind}, (scoAt 24).names.lookup x = some kd → env.kindOf x = some kd := fun h => kindOf_eq hs h
    have kw := kd (x := "written") (kd := .local) (by decide +kernel)
    have kp := kd (x := "plain") (kd := .local) (by decide +kernel)
    have hk : env.blockKind = .function := by unfold Env.blockKind; rw [hs]; rfl
    refine ex_pairS F hh (dx := .str (S front)) (dy := .str (S front)) (ev_tuple (evl_cons (ev_local (d := .str (S front)) (kd (by decide +kernel)) rfl (.head _)) (evl_cons (ev_local (d := .str (S front)) (kd (by decide +kernel)) rfl (.head _)) evl_nil)) (by rw [hsz]; exact Nat.le_of_ble_eq_true rfl)) kw kp (fun v₁ v₂ s₁ F => ?_) (swapped2 hk kw kp rfl (by decide +kernel) rfl rfl rfl)
    refine ex_for (xs := figL n) (dat := fun f => .str (S [f])) (J := PathJ 0 n front) (JB := fun _ _ _ => False) F (it_str hh (ev_typ (kd (by decide +kernel)) (fun T => T.fr "str" (by decide +kernel)) Boot.«str» (evl_cons (ev_local (d := .int n) (kd (by decide +kernel)) rfl (.tail _ (.tail _ (.tail _ (.head _))))) evl_nil) (b_str (by omega))))
      ⟨rfl, v₁, v₂, vn, rfl, rfl, rfl, by simp, by simp, by simp⟩ (.inl fun _ _ => rfl) (fun Y s₂ i f L C D' s v E' hx hJ hY _ F hv => ?_) fun L C D' s' hJ F => ?_
    · obtain ⟨rfl, vw, vp, vn', lw, lp, ln, mn, mw, mp⟩ := hJ
      have hfig := figL_digit (List.mem_of_getElem? hx)
      have hl6 := figL_len hn
      have hst := foldW_len (n := n) ((figL n).take i) (front, front) fun g hg => figL_digit (List.mem_of_mem_take hg)
      have htl : ((figL n).take i).length ≤ 6 := by rw [List.length_take]; omega
      have hnext : ((figL n).take (i + 1)).foldl (stepW n) (front, front) = stepW n (((figL n).take i).foldl (stepW n) (front, front)) f := by
        rw [List.take_add_one, hx, List.foldl_append]; rfl
      generalize hS : ((figL n).take i).foldl (stepW n) (front, front) = st at mw mp hst hnext
      have hb1 : st.1.length ≤ 25 := by have := hst.1; dsimp only at this; omega
      have hb2 : st.2.length ≤ 25 := by have := hst.2; dsimp only at this; omega
      refine wpAny_assign_Name ((F.add hv).st (kd (by decide +kernel)) fun s₃ F => ?_)
      -- turn
      refine ex_assign F (ev_addI (ev_local (d := .int n) (kd (by decide +kernel)) (lkc (by decide +kernel) ln) (.tail _ mn)) (ev_blt (kd (by decide +kernel)) (fun T => T.fr "len" (by decide +kernel)) Boot.«len»
        (evl_cons (ev_local (d := .str (S st.1)) (kd (by decide +kernel)) (lkc (by decide +kernel) lw) (.tail _ mw)) evl_nil) (b_len (by omega)))) (kd (by decide +kernel)) fun vt s₄ F => ?_
      have et : (n : Int) + (st.1.length : Int) = ((n + st.1.length : Nat) : Int) := by omega
      rw [et] at F
      have hnx1 : stepW n st f = (st.1 ++ (signOf (n + st.1.length) f).1, st.2 ++ (signOf (n + st.1.length) f).2) := rfl
      generalize n + st.1.length = turn at F hnx1
      -- sign
      refine @ex_tab w _ mg mb s₂ Y env _ _ _ _ _ _ _ _ _ _ _ _ (signT.map fun x => Da.str (S x)) (f - 48) _ _ _ _ F es24s_is (by rw [List.length_map]; exact Nat.le_of_ble_eq_true rfl)
        (ev_typ (kd (by decide +kernel)) (fun T => T.fr "int" (by decide +kernel)) Boot.«int» (evl_cons (ev_local (d := .str (S [f])) (kd (by decide +kernel)) (lkc (by decide +kernel) lkh) (.tail _ (.head _))) evl_nil) (b_int hfig.1 hfig.2)) (signT_get hfig.1 hfig.2) (by omega) (kd (by decide +kernel))
        (fun _ _ => by with_unfolding_all rfl) rfl fun v₅ s₅ F => ?_
      -- meant
      refine ex_assign F (ev_local (d := .str (S (signT.getD (f - 48) []))) (kd (by decide +kernel)) lkh (.head _)) (kd (by decide +kernel)) fun v₆ s₆ F => ?_
      -- the end of the turn
      have fin : ∀ (sg mt : List Nat) (vs vm : Value) (L2 : List (Str × Value)) (D2 : List (Da × Value)) (s : Shared), Cx mg mb s₂ Y env L2 [] D2 s → L2.lookup ("sign" : Str) = some vs → L2.lookup ("meant" : Str) = some vm → L2.lookup ("written" : Str) = some vw →
          L2.lookup ("plain" : Str) = some vp → L2.lookup ("number" : Str) = some vn' → (Da.str (S sg), vs) ∈ D2 → (Da.str (S mt), vm) ∈ D2 → (∀ p ∈ D', p ∈ D2) → signOf turn f = (sg, mt) →
          wpAny (model pw w) (A.deeper env) (execs fin24 env) (fun fl s₃ => match fl with
            | .next | .cont => ∃ L C D', PathJ 0 n front (i + 1) L C D' ∧ Cx mg mb s₂ Y env L C D' s₃
            | .brk => ∃ L C D', False ∧ Cx mg mb s₂ Y env L C D' s₃
            | .ret _ => False) E' s := by
        intro sg mt vs vm L2 D2 s F h1 h2 h3 h4 h5 h6 h7 h8 h9
        have hso := signOf_len (turn := turn) hfig.1 hfig.2
        rw [h9] at hso
        dsimp only at hso
        have hso1 := hso.1
        have hso2 := hso.2
        refine ex_pairS F hh (dx := .str (S (st.1 ++ sg))) (dy := .str (S (st.2 ++ mt))) (ev_tuple (evl_cons (ev_addS (ev_local (d := .str (S st.1)) kw h3 (h8 _ mw)) (ev_local (d := .str (S sg)) (kd (by decide +kernel)) h1 h6) (by omega))
          (evl_cons (ev_addS (ev_local (d := .str (S st.2)) kp h4 (h8 _ mp)) (ev_local (d := .str (S mt)) (kd (by decide +kernel)) h2 h7) (by omega)) evl_nil)) (by rw [hsz]; exact Nat.le_of_ble_eq_true rfl)) kw kp (fun u₁ u₂ s₉ F => ?_) (swapped2 hk kw kp rfl (by decide +kernel) rfl rfl rfl)
        refine wpAny_execs_nil ⟨_, _, _, ⟨rfl, u₁, u₂, vn', lkh, lkc (by decide +kernel) lkh, lkc (by decide +kernel) (lkc (by decide +kernel) h5), .tail _ (.tail _ (h8 _ mn)), ?_, ?_⟩, F⟩
        · rw [hnext, hnx1, h9]; exact .tail _ (.head _)
        · rw [hnext, hnx1, h9]; exact .head _
      refine ex_if F (ts_cast (ts_inS (y := S [f]) (ev_local (kd (by decide +kernel)) (lkc (by decide +kernel) (lkc (by decide +kernel) (lkc (by decide +kernel) lkh))) (.tail _ (.tail _ (.tail _ (.head _))))) ev_str) (in29 hfig.1 hfig.2)) fun s₇ k₇ => ?_
      have F := F.keeps k₇
      have hsg : ∀ r, signOf turn f = r → signOf turn f = r := fun _ h => h
      cases hb : (f == 50 || f == 57) with
      | true =>
        refine ex_assign F (ev_fn (k := 22) (kd (by decide +kernel)) (by decide +kernel) (evl_cons (ev_local (d := .int turn) (kd (by decide +kernel)) (lkc (by decide +kernel) (lkc (by decide +kernel) lkh)) (.tail _ (.tail _ (.head _)))) evl_nil) (gone_spec hd)) (kd (by decide +kernel)) fun v₈ s₈ F => wpAny_execs_nil ?_
        exact fin [goneN turn] (signT.getD (f - 48) []) v₈ v₆ _ _ _ F lkh (lkc (by decide +kernel) lkh) (lkc (by decide +kernel) (lkc (by decide +kernel) (lkc (by decide +kernel) (lkc (by decide +kernel) (lkc (by decide +kernel) (lw)))))) (lkc (by decide +kernel) (lkc (by decide +kernel) (lkc (by decide +kernel) (lkc (by decide +kernel) (lkc (by decide +kernel) (lp)))))) (lkc (by decide +kernel) (lkc (by decide +kernel) (lkc (by decide +kernel) (lkc (by decide +kernel) (lkc (by decide +kernel) (ln)))))) (.head _) (.tail _ (.head _)) (fun p hp => .tail _ (.tail _ (.tail _ (.tail _ (.tail _ (hp)))))) (by unfold signOf; rw [if_pos hb])
      | false =>
        have n0 : ¬ ((f == 50 || f == 57) = true) := by rw [hb]; decide
        refine ex_if F (ts_cast (ts_eqS (x := [f]) (y := [52]) (ev_local (d := .str (S [f])) (kd (by decide +kernel)) (lkc (by decide +kernel) (lkc (by decide +kernel) (lkc (by decide +kernel) (lkh)))) (.tail _ (.tail _ (.tail _ (.head _))))) (ev_cast ev_str (by kernel_rfl))) (one_eq f 52)) fun s₈ k₈ => ?_
        have F := F.keeps k₈
        cases h4 : (f == 52) with
        | true =>
          refine ex_assign F (ev_blt (kd (by decide +kernel)) (fun T => T.fr "chr" (by decide +kernel)) Boot.«chr» (evl_cons (ev_itemT (k := turn % 5) (ev_tuple (ds := aT.map fun x : Nat => Da.int x) (evl_lits (by rfl)) (by rw [hsz]; exact Nat.le_of_ble_eq_true rfl))
            (ev_cast (ev_modI (ev_local (d := .int turn) (kd (by decide +kernel)) (lkc (by decide +kernel) (lkc (by decide +kernel) (lkh))) (.tail _ (.tail _ (.head _)))) ev_int (by decide)) (by congr 1)) (aT_get turn) (by have := Nat.mod_lt turn (show 0 < 5 by decide); omega)) evl_nil) (b_chr (aT_lt turn))) (kd (by decide +kernel)) fun v₈ s₈ F => wpAny_execs_nil (wpAny_execs_nil ?_)
          exact fin [aT.getD (turn % 5) 0] (signT.getD (f - 48) []) v₈ v₆ _ _ _ F lkh (lkc (by decide +kernel) lkh) (lkc (by decide +kernel) (lkc (by decide +kernel) (lkc (by decide +kernel) (lkc (by decide +kernel) (lkc (by decide +kernel) (lw)))))) (lkc (by decide +kernel) (lkc (by decide +kernel) (lkc (by decide +kernel) (lkc (by decide +kernel) (lkc (by decide +kernel) (lp)))))) (lkc (by decide +kernel) (lkc (by decide +kernel) (lkc (by decide +kernel) (lkc (by decide +kernel) (lkc (by decide +kernel) (ln)))))) (.head _) (.tail _ (.head _)) (fun p hp => .tail _ (.tail _ (.tail _ (.tail _ (.tail _ (hp)))))) (by unfold signOf; rw [if_neg n0, if_pos h4])
        | false =>
          have n1 : ¬ ((f == 52) = true) := by rw [h4]; decide
          refine ex_if F (ts_cast (ts_eqS (x := [f]) (y := [53]) (ev_local (d := .str (S [f])) (kd (by decide +kernel)) (lkc (by decide +kernel) (lkc (by decide +kernel) (lkc (by decide +kernel) (lkh)))) (.tail _ (.tail _ (.tail _ (.head _))))) (ev_cast ev_str (by kernel_rfl))) (one_eq f 53)) fun s₈ k₈ => ?_
          have F := F.keeps k₈
          cases h5 : (f == 53) with
          | true =>
            refine ex_assign F (ev_blt (kd (by decide +kernel)) (fun T => T.fr "chr" (by decide +kernel)) Boot.«chr» (evl_cons (ev_itemT (k := turn % 4) (ev_tuple (ds := bT.map fun x : Nat => Da.int x) (evl_lits (by rfl)) (by rw [hsz]; exact Nat.le_of_ble_eq_true rfl))
              (ev_cast (ev_modI (ev_local (d := .int turn) (kd (by decide +kernel)) (lkc (by decide +kernel) (lkc (by decide +kernel) (lkh))) (.tail _ (.tail _ (.head _)))) ev_int (by decide)) (by congr 1)) (bT_get turn) (by have := Nat.mod_lt turn (show 0 < 4 by decide); omega)) evl_nil) (b_chr (bT_lt turn))) (kd (by decide +kernel)) fun v₈ s₈ F => wpAny_execs_nil (wpAny_execs_nil (wpAny_execs_nil ?_))
            exact fin [bT.getD (turn % 4) 0] (signT.getD (f - 48) []) v₈ v₆ _ _ _ F lkh (lkc (by decide +kernel) lkh) (lkc (by decide +kernel) (lkc (by decide +kernel) (lkc (by decide +kernel) (lkc (by decide +kernel) (lkc (by decide +kernel) (lw)))))) (lkc (by decide +kernel) (lkc (by decide +kernel) (lkc (by decide +kernel) (lkc (by decide +kernel) (lkc (by decide +kernel) (lp)))))) (lkc (by decide +kernel) (lkc (by decide +kernel) (lkc (by decide +kernel) (lkc (by decide +kernel) (lkc (by decide +kernel) (ln)))))) (.head _) (.tail _ (.head _)) (fun p hp => .tail _ (.tail _ (.tail _ (.tail _ (.tail _ (hp)))))) (by unfold signOf; rw [if_neg n0, if_neg n1, if_pos h5])
          | false =>
            have n2 : ¬ ((f == 53) = true) := by rw [h5]; decide
            refine ex_if F (ts_cast (ts_eqS (x := [f]) (y := [55]) (ev_local (d := .str (S [f])) (kd (by decide +kernel)) (lkc (by decide +kernel) (lkc (by decide +kernel) (lkc (by decide +kernel) (lkh)))) (.tail _ (.tail _ (.tail _ (.head _))))) (ev_cast ev_str (by kernel_rfl))) (one_eq f 55)) fun s₈ k₈ => ?_
            have F := F.keeps k₈
            cases h7 : (f == 55) with
            | true =>
              refine ex_pair F hh (dx := .str (S [specC turn])) (dy := .str (S (specP turn))) (ev_fn (k := 23) (kd (by decide +kernel)) (by decide +kernel) (evl_cons (ev_local (d := .int turn) (kd (by decide +kernel)) (lkc (by decide +kernel) (lkc (by decide +kernel) (lkh))) (.tail _ (.tail _ (.head _)))) evl_nil) (spec_spec hd hh)) (kd (by decide +kernel)) (kd (by decide +kernel)) fun v₈ v₉ s₈ F => wpAny_execs_nil (wpAny_execs_nil (wpAny_execs_nil (wpAny_execs_nil ?_)))
              exact fin [specC turn] (specP turn) v₈ v₉ _ _ _ F (lkc (by decide +kernel) lkh) lkh (lkc (by decide +kernel) (lkc (by decide +kernel) (lkc (by decide +kernel) (lkc (by decide +kernel) (lkc (by decide +kernel) (lkc (by decide +kernel) (lw))))))) (lkc (by decide +kernel) (lkc (by decide +kernel) (lkc (by decide +kernel) (lkc (by decide +kernel) (lkc (by decide +kernel) (lkc (by decide +kernel) (lp))))))) (lkc (by decide +kernel) (lkc (by decide +kernel) (lkc (by decide +kernel) (lkc (by decide +kernel) (lkc (by decide +kernel) (lkc (by decide +kernel) (ln))))))) (.tail _ (.head _)) (.head _) (fun p hp => .tail _ (.tail _ (.tail _ (.tail _ (.tail _ (.tail _ (hp))))))) (by unfold signOf; rw [if_neg n0, if_neg n1, if_neg n2, if_pos h7])
            | false =>
              have n3 : ¬ ((f == 55) = true) := by rw [h7]; decide
              refine wpAny_execs_nil (wpAny_execs_nil (wpAny_execs_nil (wpAny_execs_nil ?_)))
              exact fin (signT.getD (f - 48) []) (signT.getD (f - 48) []) v₅ v₆ _ _ _ F (lkc (by decide +kernel) lkh) lkh (lkc (by decide +kernel) (lkc (by decide +kernel) (lkc (by decide +kernel) (lkc (by decide +kernel) (lw))))) (lkc (by decide +kernel) (lkc (by decide +kernel) (lkc (by decide +kernel) (lkc (by decide +kernel) (lp))))) (lkc (by decide +kernel) (lkc (by decide +kernel) (lkc (by decide +kernel) (lkc (by decide +kernel) (ln))))) (.tail _ (.head _)) (.head _) (fun p hp => .tail _ (.tail _ (.tail _ (.tail _ (hp))))) (by unfold signOf; rw [if_neg n0, if_neg n1, if_neg n2, if_neg n3])
    · rcases hJ with ⟨rfl, vw, vp, vn', lw, lp, ln, mn, mw, mp⟩ | h
      · have e : (figL n).take (figL n).length = figL n := List.take_length
        rw [e] at mw mp
        refine ex_ret F (ev_tuple (evl_cons (ev_local kw lw mw) (evl_cons (ev_local kp lp mp) evl_nil)) (by rw [hsz]; exact Nat.le_of_ble_eq_true rfl)) fun v₃ s₃ k₃ h₃ => ⟨(F.keeps k₃).done, h₃⟩
      · exact h.elim
end
end Mine

end
section
open PySem PySem.W PyProof.Rows
namespace Mine

/-! map objects -/
theorem mro_map : mroOf (.type "map") = pure [.type "map", .type "object"] := by rw [mroOf_type]; kernel_rfl
theorem lookup_map_new : typeLookup (.type "map") "__new__" = pure (some (.builtin "map.__new__")) := by rw [typeLookup_type, builtinLookup_eq_fast]; kernel_rfl
theorem slot_map_init : Slot "map" "__init__" "object.__init__" :=
  .of (owner := "object") (n := "__init__") (by rw [typeLookup_type, builtinLookup_eq_fast]; kernel_rfl) (by decide +kernel) (by decide +kernel) (by decide +kernel)
    (by first | exact .inl (by decide +kernel) | exact .inr (by decide +kernel)) (by rw [isSubtype_type]; kernel_rfl)
theorem slot_map_iter : Slot "map" "__iter__" "map.__iter__" :=
  .of (owner := "map") (n := "__iter__") (by rw [typeLookup_type, builtinLookup_eq_fast]; kernel_rfl) (by decide +kernel) (by decide +kernel) (by decide +kernel)
    (by first | exact .inl (by decide +kernel) | exact .inr (by decide +kernel)) (by rw [isSubtype_type]; kernel_rfl)
theorem slot_map_next : Slot "map" "__next__" "map.__next__" :=
  .of (owner := "map") (n := "__next__") (by rw [typeLookup_type, builtinLookup_eq_fast]; kernel_rfl) (by decide +kernel) (by decide +kernel) (by decide +kernel)
    (by first | exact .inl (by decide +kernel) | exact .inr (by decide +kernel)) (by rw [isSubtype_type]; kernel_rfl)
theorem called_map : TypeCalled "map" "map.__new__" "object.__init__" :=
  ⟨by decide +kernel, by decide +kernel, ⟨_, _, mro_map⟩, madeBy_type mro_map lookup_map_new (by decide +kernel), by decide +kernel, by rw [isSubtype_type]; kernel_rfl, slot_map_init⟩
theorem typeCall_map_2 (a b : Value) : checkTypeCall "map" ⟨[a, b], []⟩ = pure () := by
  first | rw [PySem.W.Fast.te11612656972197000677] | skip
  kernel_rfl
theorem newCall_map_2 (a b : Value) : checkBuiltinCall "map.__new__" ⟨[.type "map", a, b], []⟩ = pure () := by
  first | rw [PySem.W.Fast.te10254737850608025244] | skip
  kernel_rfl
theorem entry_map_new : entryFor table "map.__new__" = some Builtin.«map.__new__» := entryFor_of_tree (by kernel_rfl)
theorem entry_map_next : entryFor table "map.__next__" = some Builtin.«map.__next__» := entryFor_of_tree (by kernel_rfl)
theorem entry_map_iter : entryFor table "map.__iter__" = some Builtin.«dict_keyiterator.__iter__» :=
  entryFor_alias (id' := "dict_keyiterator.__iter__") (by rw [fastTable_eq_tree]; kernel_rfl) (by first | rfl | decide +kernel | (unfold String.splitOn; simp +decide [String.splitOnAux]))
    (by first | rw [PySem.W.Fast.canonicalY_eq] | skip
        kernel_rfl) (by rw [fastTable_eq_tree]; kernel_rfl)
theorem args_map_next_1 (a : Value) : argsOk "map.__next__" ⟨[a], []⟩ := by
  unfold argsOk
  first | rw [PySem.W.Fast.signatureY_eq] | skip
  kernel_rfl
theorem args_map_iter_1 (a : Value) : argsOk "map.__iter__" ⟨[a], []⟩ := by
  unfold argsOk
  first | rw [PySem.W.Fast.signatureY_eq] | skip
  kernel_rfl
theorem sub_map : isSubtype (.type "map") (.type "map") = pure true := by rw [isSubtype_type]; kernel_rfl
theorem map_no_len : typeLookup (.type "map") "__len__" = pure none := by rw [typeLookup_type, builtinLookup_eq_fast]; kernel_rfl
theorem map_no_hint : typeLookup (.type "map") "__length_hint__" = pure none := by rw [typeLookup_type, builtinLookup_eq_fast]; kernel_rfl

noncomputable abbrev IsMap (h : Heap) (z TI : Addr) (f : Value) : Prop := h.get? z = some { cls := .type "map", dict := none, data := .fields #[.ref TI, f], slots := #[] }
noncomputable abbrev IsOne (h : Heap) (T : Addr) (a : Value) : Prop := h.get? T = some { cls := .type "tuple", data := .seq #[a] }
noncomputable abbrev mapH1 (h : Heap) (l : Addr) : Heap := h.push { cls := .type "list_iterator", data := .fields #[.ref l, .int 0 0] }
noncomputable abbrev mapH2 (h : Heap) (l : Addr) : Heap := (mapH1 h l).push { cls := .type "tuple", data := .seq #[.ref h.objs.size] }
noncomputable abbrev mapH3 (h : Heap) (l : Addr) (f : Value) : Heap := (mapH2 h l).push { cls := .type "map", data := .fields #[.ref (mapH1 h l).objs.size, f] }
theorem meets_map_new (l f : Addr) (xs : Array Value) :
    Meets (Builtin.«map.__new__» ⟨[.type "map", .ref f, .ref l], []⟩) (fun _ R s => s.heap.IsList l xs ∧
      R (.ok (.ret (.ref (mapH2 s.heap l).objs.size))) { s with heap := mapH3 s.heap l (.ref f) }) :=
  .of_wp fun prog w A R s h => by
    obtain ⟨hp, g, d, tk, os⟩ := s; obtain ⟨hl1, h⟩ := h
    have hsub := sub_map
    have hL1 : Heap.IsList (Shared.heap ⟨hp, g, d, tk, os⟩) l xs := hl1
    wp_walk using wpAny_pyIter_list hL1
    exact ⟨_, rfl, h⟩
end Mine

end
section
open PySem PySem.W PyProof.Rows
namespace Mine
section
variable {w : World} {A : Around} {E : Value → Shared → Prop} {s : Shared}

theorem call_map_2 {l f : Addr} {xs : Array Value} {Q : Value → Shared → Prop} (hl : s.heap.IsList l xs)
    (h : ∀ h', IsMap h' (s.heap.objs.size + 2) (s.heap.objs.size + 1) (.ref f) → IsOne h' (s.heap.objs.size + 1) (.ref s.heap.objs.size) → h'.IsListIter s.heap.objs.size l 0 → h'.objs.size = s.heap.objs.size + 3 → Grow s.heap h' →
      Q (.ref (s.heap.objs.size + 2)) { s with heap := h' }) :
    wpAny (model pw w) A (call (.type "map") [.ref f, .ref l]) Q E s := by
  refine callType_new called_map (by decide) (typeCall_map_2 _ _) (newCall_map_2 _ _) (fun obj => F.args_object_init_3 obj _ _) entry_map_new (meets_map_new l f xs) ⟨hl, ?_⟩
  have z1 : (mapH1 s.heap l).objs.size = s.heap.objs.size + 1 := Heap.size_push ..
  have z2 : (mapH2 s.heap l).objs.size = s.heap.objs.size + 2 := by rw [Heap.size_push, z1]
  have z3 : (mapH3 s.heap l (.ref f)).objs.size = s.heap.objs.size + 3 := by rw [Heap.size_push, z2]
  have g3 : (mapH3 s.heap l (.ref f)).get? (mapH2 s.heap l).objs.size = some _ := Heap.get?_push_size _ rfl
  have g2 : (mapH3 s.heap l (.ref f)).get? (mapH1 s.heap l).objs.size = some _ := Heap.get?_push_of_some _ (Heap.get?_push_size _ rfl)
  have g1 : (mapH3 s.heap l (.ref f)).get? s.heap.objs.size = some _ := Heap.get?_push_of_some _ (Heap.get?_push_of_some _ (Heap.get?_push_size _ rfl))
  show _ ∧ _
  rw [z1, z2] at g3
  rw [z1] at g2
  rw [z2]
  exact ⟨⟨_, g3, rfl⟩, h _ g3 g2 ⟨_, g1, rfl, rfl⟩ z3 fun c o x => Heap.get?_push_of_some _ (Heap.get?_push_of_some _ (Heap.get?_push_of_some _ x))⟩

theorem pyNext_map_item {z TI it l f : Addr} {k : Nat} {xs : Array Value} {x : Value} {Q : Option Value → Shared → Prop} (hz : IsMap s.heap z TI (.ref f)) (hT : IsOne s.heap TI (.ref it)) (hit : s.heap.IsListIter it l k) (hl : s.heap.IsList l xs)
    (hx : xs[k]? = some x) (hzi : z ≠ it)
    (h : ∀ h' E', h'.IsListIter it l (k + 1) → Heap.SameBut it s.heap h' → wpAny (model pw w) A.in1 (call (.ref f) [x]) (fun v s' => Q (some v) s') E' { s with heap := h' }) :
    wpAny (model pw w) A (pyNext (.ref z)) Q E s := by
  have hTy : s.TypeIs (.ref z) "map" := ⟨_, hz, rfl⟩
  unfold pyNext
  refine wpAny_bind (wpAny_attempt (wpAny_callSpecial?_slot (name := Str.ofString "__next__") hTy slot_map_next (wpAny_call_entry slot_map_next hTy entry_map_next ?_ (args_map_next_1 _))))
  show wpAny _ _ (field (.ref z) 0 >>= _) _ _ _
  refine wpAny_bind (wpAny_field hz rfl (x := .ref TI) rfl ?_)
  refine wpAny_bind (wpAny_seqItems hT rfl ?_)
  dsimp only
  simp only [List.forIn_cons, List.forIn_nil, ← Array.forIn_toList]
  refine wpAny_bind (wpAny_bind (wpAny_bind (wpAny_holding (wpAny_nextOf_list_item hit hl hx fun h' hit' hs' => wpAny_pure (wpAny_pure ?_)))))
  have hz' : IsMap h' z TI (.ref f) := (hs'.2 z hzi).trans hz
  refine wpAny_bind (wpAny_field hz' rfl (x := .ref f) rfl ?_)
  refine wpAny_bind (wpAny_holding (wpAny_mono (h h' _ hit' hs') (fun v s' hv => ?_) fun _ _ e => e))
  exact wpAny_bind (wpAny_letGo (wpAny_pure ⟨v, rfl, wpAny_pure hv⟩))
theorem pyNext_map_end {z TI it l f : Addr} {k : Nat} {xs : Array Value} {Q : Option Value → Shared → Prop} (hh : A.handled = none) (hz : IsMap s.heap z TI (.ref f)) (hT : IsOne s.heap TI (.ref it)) (hit : s.heap.IsListIter it l k) (hl : s.heap.IsList l xs)
    (hx : xs[k]? = none) (h : ∀ h', Heap.ExtBut it s.heap h' → Q none { s with heap := h' }) :
    wpAny (model pw w) A (pyNext (.ref z)) Q E s := by
  have hTy : s.TypeIs (.ref z) "map" := ⟨_, hz, rfl⟩
  unfold pyNext
  refine wpAny_bind (wpAny_attempt (wpAny_callSpecial?_slot (name := Str.ofString "__next__") hTy slot_map_next (wpAny_call_entry slot_map_next hTy entry_map_next ?_ (args_map_next_1 _))))
  show wpAny _ _ (field (.ref z) 0 >>= _) _ _ _
  refine wpAny_bind (wpAny_field hz rfl (x := .ref TI) rfl ?_)
  refine wpAny_bind (wpAny_seqItems hT rfl ?_)
  dsimp only
  simp only [List.forIn_cons, List.forIn_nil, ← Array.forIn_toList]
  refine wpAny_bind (wpAny_bind (wpAny_bind (wpAny_holding (wpAny_nextOf_list_end hh hit hl hx fun h' e hs' he => ?_))))
  obtain ⟨o, ho, hc⟩ := he
  exact wpAny_bind (wpAny_isInstance (T := "StopIteration") (b := true) ⟨o, ho, hc⟩ isSubtype_stop (wpAny_pure (h h' hs')))
theorem pyIter_map {z TI : Addr} {f : Value} {Q : Value → Shared → Prop} (hz : IsMap s.heap z TI f) (h : Q (.ref z) s) : wpAny (model pw w) A (pyIter (.ref z)) Q E s := by
  have hT : s.TypeIs (.ref z) "map" := ⟨_, hz, rfl⟩
  refine wpAny_pyIter_slot hT slot_map_iter (wpAny_call_entry slot_map_iter hT entry_map_iter ?_ (args_map_iter_1 _))
  show wpAny _ _ (ret (.ref z)) _ _ s
  exact wpAny_pure ⟨_, rfl, "map", _, hT, slot_map_next.lookup, h⟩

theorem walks_map {mg mb : Str → Option Value} (hh : A.handled = none) (hd : A.depth < recursionLimit) {z TI it l f : Addr} {h₁ h₀ : Heap} {ps : List (List Nat)} {xs : Array Value} (hxs : HoldsL Any h₁ (ps.map fun p => Da.str (S p)) xs.toList)
    (hT1 : TopF mg mb h₁) (hF1 : FnAt h₁ f "fspath" 9) (hl1 : h₁.IsList l xs) (hit1 : h₁.get? it = none) (g : Grow h₁ h₀) (hz0 : IsMap h₀ z TI (.ref f)) (hT0 : IsOne h₀ TI (.ref it)) (hzi : z ≠ it) (hTi : TI ≠ it) (hiti : it < h₀.objs.size) :
    WalksS pw w A z (List.range h₀.objs.size) [it] (fun a b => a = b) ps.length (fun i v => ∃ p t, ps[i]? = some p ∧ v = .str (S p) t)
      (fun i s => s.heap.IsListIter it l i ∧ ∀ b o, b ≠ it → h₀.get? b = some o → s.heap.get? b = some o) where
  sub := fun b hb => by rw [List.mem_singleton.mp hb]; exact List.mem_range.mpr hiti
  grefl := fun _ => rfl
  gtrans := fun _ _ _ x y => x.trans y
  frame := fun i s h' tk st htk hk => ⟨st.1.at fun o e => hk _ (List.mem_range.mpr hiti) o e, fun b o hb e => hk b (List.mem_range.mpr (Heap.lt_size e)) o (st.2 b o hb e)⟩
  item := fun i s Q E hi st hQ => by
    obtain ⟨hit, hk⟩ := st
    have kb : ∀ b o, h₁.get? b = some o → b ≠ it := fun b o e q => by rw [q, hit1] at e; cases e
    have gk : Grow h₁ s.heap := fun b o e => hk b o (kb b o e) (g b o e)
    have hl : s.heap.IsList l xs := let ⟨o, e, r⟩ := hl1; ⟨o, gk _ _ e, r⟩
    have hlen : xs.toList.length = ps.length := by rw [hxs.length, List.length_map]
    obtain ⟨p, hp⟩ : ∃ p, ps[i]? = some p := ⟨ps[i], List.getElem?_eq_getElem hi⟩
    obtain ⟨v, hv, t, rfl⟩ := hxs.nth (i := i) (d := .str (S p)) (by rw [List.getElem?_map, hp]; rfl)
    refine wpAny_with_toks (n := s.toks) (Nat.le_refl _) ?_
    refine pyNext_map_item (hk _ _ hzi hz0) (hk _ _ hTi hT0) hit hl (x := .str (S p) t) (by simpa using hv) hzi fun h' E' hit' hs' => ?_
    have gk' : Grow h₁ h' := fun b o e => hs'.extBut b o (kb b o e) (gk b o e)
    refine wpAny_mono (fspath_spec (w := w) (A := A.in1) (x := S p) hd Any mg mb { s with heap := h' } E' f [.str (S p) t] (hT1.keeps gk') (hF1.keeps gk') (fun _ _ => trivial) (HoldsL.one ⟨t, rfl⟩)) (fun v s' hv' => ?_) fun _ _ e => e
    obtain ⟨⟨h'', tk, rfl, hk''⟩, t', rfl⟩ := hv'
    intro htk
    exact hQ _ _ ⟨p, t', hp, rfl⟩ ⟨hit'.at fun o e => hk'' _ _ e, fun b o hb e => hk'' _ _ (hs'.extBut b o hb (hk b o hb e))⟩ ⟨fun b o hb e => hk'' _ _ (hs'.extBut b o (fun q => hb (by simp [q])) e), rfl, rfl, rfl, htk⟩
  done := fun s Q E st hQ => by
    obtain ⟨hit, hk⟩ := st
    have kb : ∀ b o, h₁.get? b = some o → b ≠ it := fun b o e q => by rw [q, hit1] at e; cases e
    have gk : Grow h₁ s.heap := fun b o e => hk b o (kb b o e) (g b o e)
    have hl : s.heap.IsList l xs := let ⟨o, e, r⟩ := hl1; ⟨o, gk _ _ e, r⟩
    have hlen : xs.toList.length = ps.length := by rw [hxs.length, List.length_map]
    refine pyNext_map_end hh (hk _ _ hzi hz0) (hk _ _ hTi hT0) hit hl (by rw [← Array.getElem?_toList]; exact List.getElem?_eq_none (by omega)) fun h' hs' => ?_
    exact hQ _ ⟨fun b o hb e => hs' b o (fun q => hb (by simp [q])) e, rfl, rfl, rfl, Nat.le_refl _⟩
  self := fun i s Q E st hQ => pyIter_map (st.2 _ _ hzi hz0) hQ

theorem collect_map {I : Addr} {fp wr : List Addr} {G : Array GenState → Array GenState → Prop} {n : Nat} {P : Nat → Value → Prop} {St : Nat → Shared → Prop} {Q : List Value → Shared → Prop}
    (W : WalksS pw w A.in1 I fp wr G n P St) (hT : ∀ i s, St i s → s.TypeIs (.ref I) "map") (hst : St 0 s) (hfp : ∀ b ∈ fp, b < s.heap.objs.size) (hI : I ∈ fp)
    (hQ : ∀ s' acc, Moved wr G s s' → ItemsOf P acc n → Q acc.toList s') (hn : n ≤ sizeLine) : wpAny (model pw w) A (collect (.ref I)) Q E s := by
  have hSf : s.heap.objs.size ∉ fp := fun hm => Nat.lt_irrefl _ (hfp _ hm)
  have hSI : s.heap.objs.size ≠ I := fun e => hSf (e ▸ hI)
  unfold collect
  refine wpAny_bind (wpAny_runValue (codeAny_builtin F.entry_proto_collect ?_))
  rw [Around.under_plainId F.plain_proto_collect _]
  show wpAny _ A.in1 (newList [] >>= fun l => again (.builtin "list.__iadd__" ⟨[l, .ref I], []⟩)) _ _ s
  refine wpAny_bind (wpAny_newObj_type ?_)
  refine wpAny_pure ⟨plainId_quiet F.plain_list_iadd _, codeAny_builtin F.entry_list_iadd ?_⟩
  rw [Around.under_plainId F.plain_list_iadd _]
  have hst₁ := W.frame 0 s (s.heap.push { cls := .type "list", data := .seq ([] : List Value).toArray }) s.toks hst (Nat.le_refl _) fun b _ o e => Heap.get?_push_of_some _ e
  show wpAny _ A.in1 (Builtin.List.listExtendWith (.ref s.heap.objs.size) (.ref I) (.ref s.heap.objs.size)) _ _ _
  unfold Builtin.List.listExtendWith
  refine wpAny_bind (wpAny_typeOf (hT 0 _ hst₁) ?_)
  have h1 : Builtin.List.listSameRef (.ref s.heap.objs.size) (.ref I) = false := by simp [Builtin.List.listSameRef, hSI]
  have h2 : (Value.type "map" == Value.type "list") = false := by decide
  have h3 : (Value.type "map" == Value.type "tuple") = false := by decide
  simp only [h1, h2, h3, Bool.or_false, Bool.false_eq_true, if_false]
  refine wpAny_bind (W.self 0 _ _ _ hst₁ ?_)
  refine wpAny_bind (wpAny_holding ?_)
  unfold Builtin.List.listLengthHint
  refine wpAny_bind (wpAny_specialOf (hT 0 _ hst₁) map_no_len ?_)
  show wpAny _ A.in1 (specialOf (Value.ref I) (Str.ofString "__length_hint__") >>= _) _ _ _
  refine wpAny_bind (wpAny_specialOf (hT 0 _ hst₁) map_no_hint ?_)
  refine wpAny_pure ?_
  show wpAny _ A.in1 (rule "list.extend.makes-room" >>= fun _ => Builtin.List.listTouch (.ref s.heap.objs.size) >>= fun _ =>
    again (.builtin "list.extend.loop" ⟨[.ref s.heap.objs.size, .ref I, .ref s.heap.objs.size], []⟩)) _ _ _
  refine wpAny_bind (wpAny_rule ?_)
  have hS₁ : (s.heap.push { cls := .type "list", data := .seq ([] : List Value).toArray }).get? s.heap.objs.size = some { cls := .type "list", data := .seq ([] : List Value).toArray } := Heap.get?_push_size _ rfl
  refine wpAny_bind ?_
  show wpAny _ A.in1 (updateSeq s.heap.objs.size (·.push .none) >>= fun _ => updateSeq s.heap.objs.size (·.pop)) _ _ _
  refine wpAny_bind (wpAny_updateSeq hS₁ rfl ?_)
  have hS₂ := Heap.get?_update_self (Obj.mapSeq (·.push Value.none)) hS₁ rfl
  refine wpAny_updateSeq hS₂ rfl ?_
  have hS₃ := Heap.get?_update_self (Obj.mapSeq (·.pop)) hS₂ rfl
  have oth : ∀ b o, b ≠ s.heap.objs.size → (s.heap.push { cls := .type "list", data := .seq ([] : List Value).toArray }).get? b = some o →
      (((s.heap.push { cls := .type "list", data := .seq ([] : List Value).toArray }).update s.heap.objs.size (Obj.mapSeq (·.push Value.none))).update s.heap.objs.size (Obj.mapSeq (·.pop))).get? b = some o :=
    fun b o hb e => (Heap.get?_update_other _ _ (Ne.symm hb)).trans ((Heap.get?_update_other _ _ (Ne.symm hb)).trans e)
  have hst₃ := W.frame 0 _ _ s.toks hst₁ (Nat.le_refl _) fun b hb o e => oth b o (fun h => hSf (h ▸ hb)) e
  refine wpAny_pure ⟨plainId_quiet F.plain_extend_loop _, codeAny_extend_loopS W hn _ hSf _ n 0 _ _ _ rfl (Nat.zero_le _) hst₃ hS₃ (ItemsOf.nil P) fun s' acc' c' hm hS' hacc => ?_⟩
  show wpAny _ A (load s.heap.objs.size >>= _) _ _ s'
  refine wpAny_bind (wpAny_load hS' ?_)
  refine wpAny_pure (hQ s' acc' ⟨fun b o hb e => hm.heap b o (fun hmem => ?_) (oth b o (Nat.ne_of_lt (Heap.lt_size e)) (Heap.get?_push_of_some _ e)), hm.gens, hm.drawn, hm.os, hm.toks⟩ hacc)
  rcases List.mem_cons.mp hmem with q | q
  · exact absurd (Heap.lt_size e) (by rw [q]; exact Nat.lt_irrefl _)
  · exact hb q

theorem code_tuple_map {I : Addr} {fp wr : List Addr} {G : Array GenState → Array GenState → Prop} {n : Nat} {P : Nat → Value → Prop} {St : Nat → Shared → Prop} {Q₁ : Value → Shared → Prop}
    (W : WalksS pw w A.in1.in1 I fp wr G n P St) (hT : ∀ i s, St i s → s.TypeIs (.ref I) "map") (hst : St 0 s) (hfp : ∀ b ∈ fp, b < s.heap.objs.size) (hI : I ∈ fp)
    (h : ∀ s' acc, Moved wr G s s' → ItemsOf P acc n → Q₁ (.ref s'.heap.objs.size) { s' with heap := s'.heap.push { cls := .type "tuple", data := .seq acc } }) (hsz : n ≤ sizeLine) :
    codeAny (model pw w) A (.call (.builtin "tuple.__new__") ⟨[.type "tuple", .ref I], []⟩) (wants Q₁ E) s := by
  refine codeAny_of_tree ?_
  show wpAny _ A.in1 (do checkBuiltinCall "tuple.__new__" ⟨[.type "tuple", .ref I], []⟩; again (.builtin "tuple.__new__" ⟨[.type "tuple", .ref I], []⟩)) _ _ s
  refine wpAny_bind (wpAny_of_eq (F.newCall_tuple_1 _) (wpAny_pure ⟨plainId_quiet F.plain_tuple_new _, codeAny_builtin F.entry_tuple_new ?_⟩))
  rw [Around.under_plainId F.plain_tuple_new _]
  have hsub := sub_tuple_self
  have hinit := init_tuple_lookup
  have hmh := madeHere_tuple
  have hTI := hT 0 s hst
  wp_walk using wpAny_typeOf hTI, collect_map (hn := hsz) W hT hst hfp hI
  intro s' acc hm hacc
  show wpAny _ _ (Builtin.Tuple.tupleExact acc.toList.toArray >>= fun v => ret v) _ _ _
  unfold Builtin.Tuple.tupleExact
  refine wpAny_bind (wpAny_newObj_type ?_ (by show acc.toList.toArray.size ≤ sizeLine; simp only [Array.toArray_toList]; rw [hacc.1]; exact hsz))
  refine wpAny_pure ?_
  have e : acc.toList.toArray = acc := by simp
  rw [e]
  exact h s' acc hm hacc
theorem call_tuple_map {I : Addr} {fp wr : List Addr} {G : Array GenState → Array GenState → Prop} {n : Nat} {P : Nat → Value → Prop} {St : Nat → Shared → Prop} {Q : Value → Shared → Prop}
    (W : WalksS pw w A.in1.in1.in1 I fp wr G n P St) (hT : ∀ i s, St i s → s.TypeIs (.ref I) "map") (hst : St 0 s) (hfp : ∀ b ∈ fp, b < s.heap.objs.size) (hI : I ∈ fp)
    (hQ : ∀ s' acc, Moved wr G s s' → ItemsOf P acc n → Q (.ref s'.heap.objs.size) { s' with heap := s'.heap.push { cls := .type "tuple", data := .seq acc } }) (hsz : n ≤ sizeLine) :
    wpAny (model pw w) A (call (.type "tuple") [.ref I]) Q E s := by
  refine callType_codes (Q₁ := fun obj s₁ => s₁.TypeIs obj "tuple" ∧ Q obj s₁) F.called_tuple (F.typeCall_tuple_1 _) F.entry_object_init
    (code_tuple_map (hsz := hsz) W hT hst hfp hI fun s' acc hm hacc => ⟨⟨_, Heap.get?_push_size _ rfl, rfl⟩, hQ s' acc hm hacc⟩) fun obj s₁ h₁ => ?_
  exact ⟨h₁.1, F.args_object_init_2 obj _, object_init_meets F.called_tuple.init.lookup F.called_tuple.made (by decide) pw w A.in1 _ s₁ ⟨h₁.1, rfl, h₁.2⟩⟩

theorem items_map {ps : List (List Nat)} : ∀ {acc : Array Value}, ItemsOf (fun i v => ∃ p t, ps[i]? = some p ∧ v = .str (S p) t) acc ps.length → ∀ (X : Addr → Prop) (h : Heap), HoldsL X h (ps.map fun p => Da.str (S p)) acc.toList := by
  intro acc ha X h
  obtain ⟨hs, hi⟩ := ha
  have key : ∀ (qs : List (List Nat)) (vs : List Value), vs.length = qs.length → (∀ (i : Nat) (v : Value), vs[i]? = some v → ∃ p t, qs[i]? = some p ∧ v = Value.str (S p) t) → HoldsL X h (qs.map fun p => Da.str (S p)) vs := by
    intro qs
    induction qs with
    | nil => intro vs hl _; rw [List.length_nil] at hl; exact List.length_eq_zero_iff.mp hl
    | cons q qs ih =>
      intro vs hl hv
      cases vs with
      | nil => simp at hl
      | cons v vs =>
        obtain ⟨p, t, e, rfl⟩ := hv 0 v rfl
        obtain rfl : q = p := by simpa using e
        exact ⟨_, _, rfl, ⟨t, rfl⟩, ih vs (by simpa using hl) fun i v hv' => by simpa using hv (i + 1) v (by simpa using hv')⟩
  exact key ps acc.toList (by rw [Array.length_toList]; exact hs) fun i v hv => hi i v (by rw [← Array.getElem?_toList]; exact hv)
end

section
variable {w : World} {A : Around} {mg mb : Str → Option Value} {s₀ : Base} {X : Addr → Prop} {env : Env} {l c : List (Str × Value)} {D : List (Da × Value)}
theorem ev_tuple_map {tp mp fp p1 p2 : Pos} {e : Expr} {ps : List (List Nat)} (hh : A.handled = none) (hd : A.depth < recursionLimit) (k1 : env.kindOf ("tuple" : Str) = some .globalImplicit) (k2 : env.kindOf ("map" : Str) = some .globalImplicit) (k3 : env.kindOf ("fspath" : Str) = some .globalImplicit)
    (he : Ev w A mg mb s₀ X env l c D e (.list (ps.map fun p => Da.str (S p)))) (hl : ps.length ≤ sizeLine) (hs2 : starEach [e] env = [(false, eval e env)] := by rfl) :
    Ev w A mg mb s₀ X env l c D (.Call (.Name "tuple" tp) [.Call (.Name "map" mp) [.Name "fspath" fp, e] [] p1] [] p2) (.tup (ps.map fun p => Da.str (S p))) := fun s E F => by
  show wpAny _ A (eval (.Name "tuple" tp) env >>= fun fv => callWith p2 fv [] (backTo p2 (starEach [.Call (.Name "map" mp) [.Name "fspath" fp, e] [] p1] env)) (backToKw p2 (keywordEach [] env))) _ _ s
  refine wpAny_bind (F.ldB k1 (F.topNow.fr "tuple" (by decide +kernel)) (by decide +kernel) Boot.«tuple» ?_ (by decide +kernel))
  refine PySem.callWith_type rfl (evalArgs_of rfl (wpAny_items_cons ?_))
  show wpAny _ A (eval (.Name "map" mp) env >>= fun fv => callWith p1 fv [] (backTo p1 (starEach [.Name "fspath" fp, e] env)) (backToKw p1 (keywordEach [] env))) _ _ s
  refine wpAny_bind (F.ldB k2 (F.topNow.fr "map" (by decide +kernel)) (by decide +kernel) Boot.«map» ?_ (by decide +kernel))
  obtain ⟨f, hm, hfn⟩ := F.topNow.fn ("fspath", 9) (by decide +kernel)
  have hpl : (backTo p1 (starEach [.Name "fspath" fp, e] env)).any (·.1) = false := by
    show (backTo p1 ((false, eval (.Name "fspath" fp) env) :: starEach [e] env)).any (·.1) = false
    rw [hs2]; rfl
  refine PySem.callWith_type hpl (evalArgs_of rfl (wpAny_items_cons (F.ldG k3 hm (wpAny_items_cons (ev_use he F fun v s₁ k₁ h₁ => wpAny_items_nil ?_) hs2) (by decide +kernel))))
  obtain ⟨al, vs, rfl, xa, hol, hvs⟩ := h₁
  have F1 := F.keeps k₁
  refine call_map_2 hol.list fun h' hz hT hit hsz g => wpAny_items_nil ?_
  have hit1 : s₁.heap.get? s₁.heap.objs.size = none := new_size _
  have hlt : s₁.heap.objs.size < h'.objs.size := by rw [hsz]; exact Nat.lt_add_of_pos_right (by decide)
  have hlt2 : s₁.heap.objs.size + 2 < h'.objs.size := by rw [hsz]; exact Nat.lt_succ_self _
  have ne2 : s₁.heap.objs.size + 2 ≠ s₁.heap.objs.size := by omega
  have ne1 : s₁.heap.objs.size + 1 ≠ s₁.heap.objs.size := by omega
  have W := walks_map (w := w) (A := A.in1.in1.in1) (mg := mg) (mb := mb) hh hd (f := f) (h₁ := s₁.heap) (ps := ps) (xs := vs.toArray) (by simpa using hvs.weak fun _ _ => trivial) F1.topNow (hfn.keeps (kg k₁)) hol.list hit1 g hz hT ne2 ne1 hlt
  refine call_tuple_map W (fun i s st => ⟨_, st.2 _ _ ne2 hz, rfl⟩) ⟨hit, fun _ _ _ e => e⟩ (fun b hb => List.mem_range.mp hb) (List.mem_range.mpr hlt2) (fun s' acc hm hacc => ?_) hl
  have gs : Grow s₁.heap s'.heap := fun b o e => hm.heap b o (fun q => by rw [List.mem_singleton.mp q, hit1] at e; cases e) (g b o e)
  have same : ∃ hh tk, s' = { s₁ with heap := hh, toks := tk } := by
    obtain ⟨h1, g1, d1, t1, o1⟩ := s'
    have e1 := hm.gens; have e2 := hm.drawn; have e3 := hm.os
    dsimp only at e1 e2 e3
    exact ⟨h1, t1, by rw [← e1, e2, e3]⟩
  obtain ⟨hH, tk, rfl⟩ := same
  refine ⟨kt k₁ ⟨_, tk, rfl, fun b o e => grow_push _ _ b o (gs b o e)⟩, hH.objs.size, acc.toList, rfl, F1.xn _ (new_ge ?_), ?_, items_map hacc _ _⟩
  · have := Heap.lt_size (hm.heap _ _ (fun q => ne2 (List.mem_singleton.mp q)) hz)
    exact Nat.le_trans (Nat.le_add_right _ 2) (Nat.le_of_lt this)
  · exact ⟨_, Heap.get?_push_size _ rfl, rfl, 0, by simp⟩
end
end Mine

end
section
open PySem PySem.W PyProof.Rows
namespace Mine

noncomputable def bI (b : Bool) : Int := if b then 1 else 0
noncomputable def bEs (f t : Bool) : Array (Int × Value) := match f, t with
  | false, false => #[]
  | true, false => #[(0, .bool false)]
  | false, true => #[(1, .bool true)]
  | true, true => #[(0, .bool false), (1, .bool true)]
noncomputable def bPl (f t : Bool) : Array Nat := match f, t with
  | false, false => #[]
  | true, false => #[0]
  | false, true => #[1]
  | true, true => #[0, 1]
noncomputable def bTab (led f t : Bool) : SetTable := { mask := 7, place := bPl f t, dummies := #[], finger := 0, led := led, moves := 0, plain := true }
noncomputable abbrev bObj (led f t : Bool) (ep : Nat) : Obj := { cls := .type "set", dict := none, data := .set (bEs f t) ep (bTab led f t) }

section
variable {prog : Program} {w : World} {A : Around} {E : Value → Shared → Prop} {s : Shared}
theorem typeIs_bool' (s : Shared) (b : Bool) : s.TypeIs (.bool b) "bool" := rfl
theorem hash_bool {b : Bool} {Q : Int → Shared → Prop} (h : Q (bI b) { s with toks := s.toks + 1 }) : wpAny (model prog w) A (pyHash (.bool b)) Q E s := by
  unfold pyHash
  have hv : [Value.bool b].any Value.onHeap = false := rfl
  refine wpAny_bind ?_
  rw [cRoomFor, if_neg (by rw [hv]; exact Bool.false_ne_true)]; refine wpAny_pure ?_
  refine wpAny_bind (wpAny_specialOf (typeIs_bool' s b) F.slot_bool_hash.lookup ?_)
  show wpAny _ _ (if (some (Value.builtin "int.__hash__") == some Value.none) = true then _ else _) Q E s
  rw [if_neg (by rw [beq_builtin_none]; exact Bool.false_ne_true)]
  refine wpAny_bind (wpAny_specialOf (typeIs_bool' s b) F.slot_bool_hash.lookup ?_)
  show wpAny _ _ (callSpecialIfBoundUnlessNone? (.bool b) "__hash__" _ >>= _) Q E s
  refine wpAny_bind (wpAny_callSpecialIfBoundUnlessNone?_slot (typeIs_bool' s b) F.slot_bool_hash
    (wpAny_call_entry F.slot_bool_hash (typeIs_bool' s b) entry_int_hash
      (show wpAny _ _ (do ret (← mkInt (rawHash (bI b)))) _ _ s from wpAny_ret_mkInt ?_) (args_int_hash _)))
  cases b <;> exact wpAny_pure h

theorem bFits (led f t : Bool) : (bTab led f t).fits (bEs f t).size = true := by cases led <;> cases f <;> cases t <;> decide
theorem eqBool_bool {b : Bool} {Q : Bool → Shared → Prop} (h : Q true s) : wpAny (model prog w) A (eqBool (.bool b) (.bool b)) Q E s := by
  unfold eqBool
  rw [if_pos (by simp)]
  exact wpAny_bind (wpAny_rule (wpAny_pure h))

theorem bScan {a : Addr} {led f t b : Bool} {ep : Nat} {Q : ScanMet → Shared → Prop} (ho : s.heap.get? a = some (bObj led f t ep))
    (h : ∀ r, (r = .absent ∧ (if b then t else f) = false) ∨ (∃ i, r = .found i ∧ (if b then t else f) = true) → Q r s) : wpAny (model prog w) A (setScan a (.bool b) (bI b) true (bEs f t)) Q E s := by
  have hf := bFits led f t
  have fnd : ∀ (y : Bool) (rest : List (Int × Value)) (i : Nat), y = b → (if b then t else f) = true → wpAny (model prog w) A (setScanFrom a (.bool b) (bI b) true ((bI b, .bool y) :: rest) i) Q E s := by
    rintro y rest i rfl e
    unfold setScanFrom
    rw [if_pos (by simp)]
    refine wpAny_bind (wpAny_setEpoch_of ho rfl hf ?_)
    refine wpAny_bind (eqBool_bool ?_)
    rw [if_pos (by simp)]
    exact wpAny_pure (h _ (.inr ⟨_, rfl, e⟩))
  have skip : ∀ (n : Int) (y : Value) (rest : List (Int × Value)) (i : Nat), (n == bI b) = false → wpAny (model prog w) A (setScanFrom a (.bool b) (bI b) true rest (i + 1)) Q E s →
      wpAny (model prog w) A (setScanFrom a (.bool b) (bI b) true ((n, y) :: rest) i) Q E s := by
    intro n y rest i e hh
    rw [setScanFrom, if_neg (by rw [e]; decide)]
    exact hh
  have nil : ∀ i, (if b then t else f) = false → wpAny (model prog w) A (setScanFrom a (.bool b) (bI b) true [] i) Q E s := by
    intro i e
    unfold setScanFrom
    exact wpAny_pure (h _ (.inl ⟨rfl, e⟩))
  show wpAny (model prog w) A (setScanFrom a (.bool b) (bI b) true (bEs f t).toList 0) Q E s
  cases b <;> cases f <;> cases t
  · exact nil _ rfl
  · exact skip 1 _ _ _ rfl (nil _ rfl)
  · exact fnd false [] 0 rfl rfl
  · exact fnd false [(1, .bool true)] 0 rfl rfl
  · exact nil _ rfl
  · exact fnd true [] 0 rfl rfl
  · exact skip 0 _ _ _ rfl (nil _ rfl)
  · exact skip 0 _ _ _ rfl (fnd true [] _ rfl rfl)

theorem lay_b (led f t b : Bool) (h : (if b then t else f) = false) : layNew (bTab led f t) (bEs f t) (bI b) (.bool b) = (bEs (f || !b) (t || b), bTab led (f || !b) (t || b), false, false) := by
  cases led <;> cases f <;> cases t <;> cases b <;> first | (exact absurd h (by decide)) | (decide +kernel) | rfl
theorem hbv (b : Bool) : hashByValue 8 (.bool b) = pure true := rfl
theorem full_b (led f t : Bool) : (bTab led f t).tooFull = false := by cases led <;> cases f <;> cases t <;> decide

theorem add_b {a : Addr} {led f t b : Bool} {ep : Nat} {Q : Value → Shared → Prop} (ho : s.heap.get? a = some (bObj led f t ep))
    (h : ∀ h' ep', Heap.SameBut a s.heap h' → h'.get? a = some (bObj led (f || !b) (t || b) ep') → Q .none { s with heap := h', toks := s.toks + 1 }) :
    wpAny (model prog w) A (call (.builtin "set.add") [.ref a, .bool b]) Q E s := by
  refine wpAny_call_entry F.slot_set_add (T := "set") ⟨_, ho, rfl⟩ F.entry_set_add ?_ (F.args_set_add_2 _ _)
  unfold Builtin.«set.add» Builtin.Frozenset.oneOther
  simp only [List.isEmpty_nil, bind_assoc]
  unfold Builtin.Frozenset.addrOf setAdd
  refine wpAny_bind (wpAny_pure ?_)
  try dsimp only
  refine wpAny_bind (wpAny_pure ?_)
  try dsimp only
  refine wpAny_bind ?_
  refine wpAny_holding ?_
  refine wpAny_bind (hash_bool ?_)
  unfold setAddHashed setAddHashedIn
  refine wpAny_holding (wpAny_bind (wpAny_setState_of (s := { s with toks := s.toks + 1 }) ho rfl (bFits led f t) ?_))
  dsimp only
  have hs : byScan (.bool b) (bEs f t) = true := by cases f <;> cases t <;> cases b <;> kernel_rfl
  rw [hs]
  simp only [↓reduceIte]
  unfold setAddByScan
  refine wpAny_bind ?_
  refine wpAny_bind (wpAny_rule ?_)
  refine wpAny_bind (bScan (s := { s with toks := s.toks + 1 }) (b := b) ho fun r hr => ?_)
  rcases hr with ⟨rfl, e⟩ | ⟨i, rfl, e⟩
  · dsimp only
    rw [lay_b led f t b e]
    dsimp only
    refine wpAny_bind (wpAny_pure (a := ()) ?_)
    have epl : (bTab led (f || !b) (t || b)).plain = true := rfl
    rw [epl]
    simp only [↓reduceIte]
    rw [hbv]
    refine wpAny_bind (wpAny_pure ?_)
    simp only [↓reduceIte]
    refine wpAny_bind (wpAny_storeSet_of (s := { s with toks := s.toks + 1 }) ho rfl ?_ ?_)
    · rw [full_b]
      refine wpAny_pure ?_
      dsimp only
      refine wpAny_pure ?_
      show wpAny _ _ (ret Value.none) _ _ _
      refine wpAny_pure ⟨_, rfl, h _ (ep + 1) (Heap.SameBut.update ..) ?_⟩
      exact Heap.get?_update_self (Obj.putSet _ _) ho rfl
    · have : (bEs (f || !b) (t || b)).size ≤ 2 := by cases f <;> cases t <;> cases b <;> decide
      rw [sizeLine_eq]; omega
  · dsimp only
    refine wpAny_pure (wpAny_pure ?_)
    show wpAny _ _ (ret Value.none) _ _ _
    refine wpAny_pure ⟨_, rfl, ?_⟩
    have e1 : (f || !b) = f := by cases b <;> simp_all
    have e2 : (t || b) = t := by cases b <;> simp_all
    have := h s.heap ep (Heap.SameBut.refl _ _) (by rw [e1, e2]; exact ho)
    exact this
end
end Mine

end
section
open PySem PySem.W PyProof.Rows
namespace Mine

theorem slot_seti_next : Slot "set_iterator" "__next__" "set_iterator.__next__" :=
  .of (owner := "set_iterator") (n := "__next__") (by rw [typeLookup_type, builtinLookup_eq_fast]; kernel_rfl) (by decide +kernel) (by decide +kernel) (by decide +kernel)
    (by first | exact .inl (by decide +kernel) | exact .inr (by decide +kernel)) (by rw [isSubtype_type]; kernel_rfl)
theorem entry_seti_next : entryFor table "set_iterator.__next__" = some Builtin.«set_iterator.__next__» := entryFor_of_tree (by kernel_rfl)
theorem entry_set_iter : entryFor table "set.__iter__" = some Builtin.«frozenset.__iter__» :=
  entryFor_alias (id' := "frozenset.__iter__") (by rw [fastTable_eq_tree]; kernel_rfl) rfl
    (by first | rw [PySem.W.Fast.canonicalY_eq] | skip
        kernel_rfl) (by rw [fastTable_eq_tree]; kernel_rfl)
theorem args_seti_next_1 (a : Value) : argsOk "set_iterator.__next__" ⟨[a], []⟩ := by
  unfold argsOk
  first | rw [PySem.W.Fast.signatureY_eq] | skip
  kernel_rfl

section
variable {w : World} {A : Around} {E : Value → Shared → Prop} {s : Shared}

noncomputable abbrev sled (w : World) : Bool := !(w.params.followText "set-order")
noncomputable def nx (w : World) (f t : Bool) : Nat := if w.params.followText "set-order" then 0 else (bPl f t).getD 0 0 + 1

theorem setState_b {a : Addr} {led f t : Bool} {ep : Nat} {Q : (Array (Int × Value) × Nat × SetTable) → Shared → Prop} (ho : s.heap.get? a = some (bObj led f t ep)) (h : Q (bEs f t, ep, bTab led f t) s) :
    wpAny (model pw w) A (setState a) Q E s := wpAny_setState_of ho rfl (bFits led f t) h

theorem byText_is {Q : Bool → Shared → Prop} (h : Q (w.params.followText "set-order") s) : wpAny (model pw w) A setsByText Q E s := by
  unfold setsByText
  exact wpAny_bind (wpAny_askSetting (wpAny_pure h))

theorem pick1 {α : Type} (g : Nat → Nat) (x : α) : pickOrder g #[x] = #[x] := by
  simp [pickOrder, pickOrder.go, Nat.mod_one]
theorem pick2 {α : Type} (g : Nat → Nat) (x y : α) : ∃ u v, pickOrder g #[x, y] = #[u, v] := by
  have h : g 0 % 2 = 0 ∨ g 0 % 2 = 1 := by omega
  rcases h with h | h <;> simp [pickOrder, pickOrder.go, Nat.mod_one, h]

theorem setWalk_text {a : Addr} {led f t : Bool} {ep : Nat} {Q : Array (Int × Value) → Shared → Prop} (ho : s.heap.get? a = some (bObj led f t ep)) (hb : w.params.followText "set-order" = true)
    (h : Q (pickOrder (w.params.setOrder a ep) (bEs f t)) s) : wpAny (model pw w) A (setWalk a) Q E s := by
  unfold setWalk
  refine wpAny_bind (setState_b ho ?_)
  dsimp only
  refine wpAny_bind (byText_is ?_)
  rw [hb]
  simp only [↓reduceIte]
  exact wpAny_bind (wpAny_askSetting (wpAny_pure h))

theorem setNext_1 {a : Addr} {f t : Bool} {ep : Nat} {Q : Option (Value × Nat) → Shared → Prop} (ho : s.heap.get? a = some (bObj (sled w) f t ep)) (hne : (f || t) = true)
    (h : ∀ x, ((f && t) = false → x = .bool t) → Q (some (x, nx w f t)) s) : wpAny (model pw w) A (setNext a 0 0 ep) Q E s := by
  unfold setNext
  refine wpAny_bind (setState_b ho ?_)
  dsimp only
  refine wpAny_bind (byText_is ?_)
  unfold nx at h
  cases hb : w.params.followText "set-order" with
  | true =>
    rw [hb] at h
    simp only [↓reduceIte, bne_self_eq_false, Bool.false_eq_true] at h ⊢
    refine wpAny_bind (setWalk_text ho hb ?_)
    cases f <;> cases t
    · cases hne
    · rw [show bEs false true = #[(1, .bool true)] from rfl, pick1]
      exact wpAny_pure (h _ fun _ => rfl)
    · rw [show bEs true false = #[(0, .bool false)] from rfl, pick1]
      exact wpAny_pure (h _ fun _ => rfl)
    · obtain ⟨u, v, e⟩ := pick2 (w.params.setOrder a ep) ((0, .bool false) : Int × Value) (1, .bool true)
      rw [show bEs true true = #[(0, .bool false), (1, .bool true)] from rfl, e]
      exact wpAny_pure (h _ fun q => by cases q)
  | false =>
    rw [hb] at h
    have hl : sled w = true := by rw [sled, hb]; rfl
    simp only [Bool.false_eq_true, ↓reduceIte] at h ⊢
    rw [hl]
    cases f <;> cases t
    · cases hne
    · exact wpAny_bind (wpAny_pure (a := ()) (wpAny_pure (h _ fun _ => rfl)))
    · exact wpAny_bind (wpAny_pure (a := ()) (wpAny_pure (h _ fun _ => rfl)))
    · exact wpAny_bind (wpAny_pure (a := ()) (wpAny_pure (h (.bool false) fun q => by cases q)))

theorem setNext_2 {a : Addr} {f t : Bool} {ep : Nat} {Q : Option (Value × Nat) → Shared → Prop} (ho : s.heap.get? a = some (bObj (sled w) f t ep)) (hne : (f || t) = true)
    (h : ∀ r, ((f && t) = false → r = none) → ((f && t) = true → r.isSome = true) → Q r s) : wpAny (model pw w) A (setNext a (nx w f t) 1 ep) Q E s := by
  unfold setNext
  refine wpAny_bind (setState_b ho ?_)
  dsimp only
  refine wpAny_bind (byText_is ?_)
  unfold nx
  cases hb : w.params.followText "set-order" with
  | true =>
    simp only [↓reduceIte, bne_self_eq_false, Bool.false_eq_true] at h ⊢
    refine wpAny_bind (setWalk_text ho hb ?_)
    cases f <;> cases t
    · cases hne
    · rw [show bEs false true = #[(1, .bool true)] from rfl, pick1]
      exact wpAny_pure (h _ (fun _ => rfl) (fun q => by cases q))
    · rw [show bEs true false = #[(0, .bool false)] from rfl, pick1]
      exact wpAny_pure (h _ (fun _ => rfl) (fun q => by cases q))
    · obtain ⟨u, v, e⟩ := pick2 (w.params.setOrder a ep) ((0, .bool false) : Int × Value) (1, .bool true)
      rw [show bEs true true = #[(0, .bool false), (1, .bool true)] from rfl, e]
      exact wpAny_pure (h _ (fun q => by cases q) (fun _ => rfl))
  | false =>
    have hl : sled w = true := by rw [sled, hb]; rfl
    simp only [Bool.false_eq_true, ↓reduceIte] at h ⊢
    rw [hl]
    cases f <;> cases t
    · cases hne
    · exact wpAny_bind (wpAny_pure (a := ()) (wpAny_pure (h none (fun _ => rfl) (fun q => by cases q))))
    · exact wpAny_bind (wpAny_pure (a := ()) (wpAny_pure (h none (fun _ => rfl) (fun q => by cases q))))
    · exact wpAny_bind (wpAny_pure (a := ()) (wpAny_pure (h (some (.bool true, 2)) (fun q => by cases q) (fun _ => rfl))))

noncomputable abbrev siObj (n i : Int) (a : Addr) (sz ep : Nat) : Obj := { cls := .type "set_iterator", data := .fields #[rawInt n, rawInt i, .ref a, rawInt sz, rawInt ep] }

theorem setIter_b {a : Addr} {f t : Bool} {ep : Nat} {Q : Value → Shared → Prop} (ho : s.heap.get? a = some (bObj (sled w) f t ep))
    (h : ∀ h', h' = s.heap.push (siObj 0 0 a (bEs f t).size ep) → Q (.ref s.heap.objs.size) { s with heap := h' }) :
    wpAny (model pw w) A (pyIter (.ref a)) Q E s := by
  have hT : s.TypeIs (.ref a) "set" := ⟨_, ho, rfl⟩
  refine wpAny_pyIter_slot hT F.slot_set_iter (wpAny_call_entry F.slot_set_iter hT entry_set_iter ?_ (F.args_set_iter_1 _))
  show wpAny _ _ (Builtin.Frozenset.sizeOf a >>= _) _ _ s
  unfold Builtin.Frozenset.sizeOf setEntries
  refine wpAny_bind (wpAny_bind (wpAny_bind (setState_b ho (wpAny_pure (wpAny_pure ?_)))))
  refine wpAny_bind ?_
  unfold setDrawn
  refine wpAny_bind (setState_b ho ?_)
  dsimp only
  refine wpAny_bind (byText_is (wpAny_pure ?_))
  rw [if_neg (by show ¬ ((_ && (false && _)) = true); simp)]
  refine wpAny_bind (wpAny_pure ?_)
  unfold setEpoch
  refine wpAny_bind (wpAny_bind (setState_b ho (wpAny_pure ?_)))
  refine wpAny_bind (wpAny_newObj_type (wpAny_pure ?_))
  exact ⟨_, rfl, "set_iterator", _, ⟨_, Heap.get?_push_size _ rfl, rfl⟩, slot_seti_next.lookup, h _ rfl⟩

theorem seti_1 {a it : Addr} {f t : Bool} {ep : Nat} {Q : Option Value → Shared → Prop} (ho : s.heap.get? a = some (bObj (sled w) f t ep)) (hi : s.heap.get? it = some (siObj 0 0 a (bEs f t).size ep)) (hne : (f || t) = true)
    (h : ∀ x h', ((f && t) = false → x = .bool t) → Heap.SameBut it s.heap h' → h'.get? it = some (siObj (nx w f t) 1 a (bEs f t).size ep) → Q (some x) { s with heap := h' }) :
    wpAny (model pw w) A (pyNext (.ref it)) Q E s := by
  have hT : s.TypeIs (.ref it) "set_iterator" := ⟨_, hi, rfl⟩
  unfold pyNext
  refine wpAny_bind (wpAny_attempt (wpAny_callSpecial?_slot (name := Str.ofString "__next__") hT slot_seti_next (wpAny_call_entry slot_seti_next hT entry_seti_next ?_ (args_seti_next_1 _))))
  show wpAny _ _ (fieldsOf (.ref it) >>= _) _ _ _
  refine wpAny_bind (wpAny_fieldsOf hi rfl ?_)
  dsimp only
  unfold setEntries
  refine wpAny_bind (wpAny_bind (setState_b ho (wpAny_pure ?_)))
  rw [if_neg (by simp)]
  refine wpAny_bind (setNext_1 ho hne fun x hx => ?_)
  dsimp only
  refine wpAny_bind (wpAny_setField hi rfl (by simp) ?_)
  have hi2 := Heap.get?_update_self (Obj.mapFields (·.setIfInBounds 0 (rawInt (nx w f t)))) hi rfl
  refine wpAny_bind (wpAny_setField hi2 rfl (by simp) ?_)
  have hi3 := Heap.get?_update_self (Obj.mapFields (·.setIfInBounds 1 (rawInt (0 + 1)))) hi2 rfl
  exact wpAny_pure ⟨x, rfl, wpAny_pure (h x _ hx ((Heap.SameBut.update ..).trans (Heap.SameBut.update ..)) hi3)⟩

theorem seti_2 {a it : Addr} {f t : Bool} {ep : Nat} {Q : Option Value → Shared → Prop} (hh : A.handled = none) (ho : s.heap.get? a = some (bObj (sled w) f t ep)) (hi : s.heap.get? it = some (siObj (nx w f t) 1 a (bEs f t).size ep)) (hne : (f || t) = true)
    (h : ∀ r h', ((f && t) = false → r = none) → ((f && t) = true → r.isSome = true) → Heap.ExtBut it s.heap h' → Q r { s with heap := h' }) :
    wpAny (model pw w) A (pyNext (.ref it)) Q E s := by
  have hT : s.TypeIs (.ref it) "set_iterator" := ⟨_, hi, rfl⟩
  unfold pyNext
  refine wpAny_bind (wpAny_attempt (wpAny_callSpecial?_slot (name := Str.ofString "__next__") hT slot_seti_next (wpAny_call_entry slot_seti_next hT entry_seti_next ?_ (args_seti_next_1 _))))
  show wpAny _ _ (fieldsOf (.ref it) >>= _) _ _ _
  refine wpAny_bind (wpAny_fieldsOf hi rfl ?_)
  dsimp only
  unfold setEntries
  refine wpAny_bind (wpAny_bind (setState_b ho (wpAny_pure ?_)))
  rw [if_neg (by simp)]
  refine wpAny_bind (setNext_2 ho hne fun r h1 h2 => ?_)
  cases r with
  | some p =>
    obtain ⟨x, n⟩ := p
    dsimp only
    refine wpAny_bind (wpAny_setField hi rfl (by simp) ?_)
    have hi2 := Heap.get?_update_self (Obj.mapFields (·.setIfInBounds 0 (rawInt n))) hi rfl
    refine wpAny_bind (wpAny_setField hi2 rfl (by simp) ?_)
    exact wpAny_pure ⟨x, rfl, wpAny_pure (h (some x) _ (fun q => by cases h1 q) (fun _ => rfl) ((Heap.SameBut.update ..).trans (Heap.SameBut.update ..)).extBut)⟩
  | none =>
    dsimp only
    refine wpAny_bind (wpAny_setField hi rfl (by simp) ?_)
    show wpAny _ _ (newExc (.type "StopIteration") [] >>= _) _ _ _
    refine wpAny_bind ?_
    simp only [newExc, newTuple]
    refine wpAny_bind (wpAny_newObj_type ?_ (by size_fits))
    refine wpAny_bind (m := firstArgMember _ _) (wpAny_of_eq (a := Value.none) (by first | rfl | (simp only [firstArgMember]; rfl)) ?_)
    refine wpAny_newObj_type ?_ (by size_fits)
    simp only [raiseNew]
    refine wpAny_bind (wpAny_handled ?_)
    first | rw [show A.in1.handled = none from hh] | rw [hh]
    refine wpAny_bind (wpAny_pure (wpAny_throw ?_))
    refine wpAny_bind (wpAny_isInstance (T := "StopIteration") (b := true) ⟨_, Heap.get?_push_size _ rfl, rfl⟩ isSubtype_stop ?_)
    exact wpAny_pure (h none _ (fun _ => rfl) h2 (((Heap.SameBut.update ..).extBut.push _).push _))

/-- a set of truths is unpacked into one -/
theorem unpack_b {a : Addr} {f t : Bool} {ep : Nat} {Q : List Value → Shared → Prop} (hh : A.handled = none) (ho : s.heap.get? a = some (bObj (sled w) f t ep)) (hne : (f || t) = true)
    (h1 : (f && t) = false → ∀ h', Grow s.heap h' → Q [.bool t] { s with heap := h' })
    (h2 : (f && t) = true → ∀ h' h'' e tk, Grow s.heap h' → Heap.NewExc h' h'' e "ValueError" → E (.ref e) { s with heap := h'', toks := tk }) : wpAny (model pw w) A (unpackItems (.ref a) 1 none) Q E s := by
  have hT : s.TypeIs (.ref a) "set" := ⟨_, ho, rfl⟩
  unfold unpackItems
  refine wpAny_bind ?_
  unfold notIterableAtAll
  refine wpAny_bind (wpAny_specialOf hT F.slot_set_iter.lookup ?_)
  refine wpAny_pure ?_
  simp only [Bool.false_eq_true, if_false]
  refine wpAny_bind (wpAny_holding (setIter_b ho fun h₁ e₁ => ?_))
  subst e₁
  have hai : a ≠ s.heap.objs.size := new_ne (new_size _) ho
  have hi : (s.heap.push (siObj 0 0 a (bEs f t).size ep)).get? s.heap.objs.size = some (siObj 0 0 a (bEs f t).size ep) := Heap.get?_push_size _ rfl
  have ho1 := Heap.get?_push_of_some (siObj 0 0 a (bEs f t).size ep) ho
  refine wpAny_bind (wpAny_holding ?_)
  show wpAny _ _ (pyNext _ >>= _) _ _ _
  refine wpAny_bind (seti_1 (s := { s with heap := s.heap.push (siObj 0 0 a (bEs f t).size ep) }) ho1 hi hne fun x h₂ hx hs₂ hi₂ => ?_)
  dsimp only
  refine wpAny_bind (wpAny_holding ?_)
  show wpAny _ _ (pure []) _ _ _
  refine wpAny_pure (wpAny_pure ?_)
  rw [if_neg (by simp)]
  have ho2 : h₂.get? a = some (bObj (sled w) f t ep) := (hs₂.2 a hai).trans ho1
  refine wpAny_bind (wpAny_holding (seti_2 (s := { s with heap := h₂ }) hh ho2 hi₂ hne fun r h₃ hr1 hr2 hs₃ => ?_))
  have g3 : Grow s.heap h₃ := fun b o e => hs₃ b o (new_ne (new_size _) e) (hs₂.extBut b o (new_ne (new_size _) e) (Heap.get?_push_of_some _ e))
  cases hft : f && t with
  | false =>
    rw [hr1 hft]
    simp only [Option.isSome_none, Bool.false_eq_true, if_false]
    rw [hx hft]
    exact wpAny_pure (h1 hft h₃ g3)
  | true =>
    rw [hr2 hft]
    simp only [if_true]
    refine wpAny_bind (wpAny_rule ?_)
    refine wpAny_bind (raiseError_exc excClass_ValueError hh fun h' tk e hx => ?_)
    exact h2 hft h₃ h' e tk g3 hx
end
end Mine

end
section
open PySem PySem.W PyProof.Rows
namespace Mine

theorem compTurn_set (elt target iter : Expr) (scope : Scope) (pos : Pos) (it acc : Value) (env : Env) :
    compTurn (.SetComp elt [⟨target, iter, [], 0⟩] scope pos) 0 it acc env = (do
      standAt iter.pos
      match ← pyNext it with
      | none => pure (.done .next)
      | some v =>
        letOwnedTupleGo target it v
        assign target env v
        (do let v ← eval elt env; standAt elt.pos; let _ ← call (.builtin "set.add") [acc, v])
        again (.compLoop (.SetComp elt [⟨target, iter, [], 0⟩] scope pos) 0 it acc env)) := by rfl

theorem compStart_set {w : World} {A : Around} {s : Shared} {R : Result → Shared → Prop} {elt target iter scope pos it acc env}
    (h0 : codeAny (model pw w) A (.compLoop (.SetComp elt [⟨target, iter, [], 0⟩] scope pos) 0 it acc env) R s)
    (h : wpAny (model pw w) A (pyIter it) (fun it' s' => codeAny (model pw w) A (.compLoop (.SetComp elt [⟨target, iter, [], 0⟩] scope pos) 0 it' acc env) R s')
      (notedBy (model pw w) A env fun x s' => R (.error x) s') s) :
    codeAny (model pw w) A (.compStart (.SetComp elt [⟨target, iter, [], 0⟩] scope pos) 0 it acc env) R s := by
  refine codeAny_of_tree ?_
  show wpAny _ _ ((compStart (.SetComp elt [⟨target, iter, [], 0⟩] scope pos) 0 it acc env).onRaise (fun x => do noteFrame x env; standAt theWindowsPlace)) _ _ s
  refine wpAny_notedAt ?_
  unfold compStart
  show wpAny _ _ (ask >>= _) _ _ s
  refine wpAny_bind (wpAny_askSetting (wpAny_ite ?_))
  split
  · first
      | exact wpAny_bind (wpAny_pure (wpAny_pure (And.intro rfl h0)))
      | exact wpAny_pure (And.intro rfl h0)
  · first
      | exact wpAny_bind (wpAny_rule (wpAny_bind (wpAny_standAt (wpAny_bind (wpAny_mono h (fun it' s' h' => wpAny_pure (And.intro rfl h')) fun _ _ x => x)))))
      | (refine wpAny_bind (wpAny_rule ?_); show wpAny _ _ (standAt iter.pos >>= _) _ _ s; exact wpAny_bind (wpAny_standAt (wpAny_bind (wpAny_mono h (fun it' s' h' => wpAny_pure (And.intro rfl h')) fun _ _ x => x))))

theorem loop_set {w : World} {A : Around} {R : Result → Shared → Prop} {s : Shared} {elt target iter : Expr} {scope : Scope} {pos : Pos} {it acc : Value} {env : Env} (I : Nat → Shared → Prop)
    (turn : ∀ n s, I n s → wpAny (model pw w) A (pyNext it) (fun r s₁ => match r with
      | none => R (.ok .next) s₁
      | some v => wpAny (model pw w) A (letOwnedTupleGo target it v) (fun _ s₁ => wpAny (model pw w) A (assign target env v) (fun _ s₂ =>
          wpAny (model pw w) A (eval elt env) (fun x s₄ =>
              wpAny (model pw w) A (call (.builtin "set.add") [acc, x]) (fun _ s₅ => ∃ m, m < n ∧ I m s₅) (notedBy (model pw w) A env fun e s' => R (.error e) s') s₄) (notedBy (model pw w) A env fun e s' => R (.error e) s') s₂)
            (notedBy (model pw w) A env fun e s' => R (.error e) s') s₁) (notedBy (model pw w) A env fun e s' => R (.error e) s') s₁)
            (notedBy (model pw w) A env fun e s' => R (.error e) s') s)
    (n : Nat) (h : I n s) : codeAny (model pw w) A (.compLoop (.SetComp elt [⟨target, iter, [], 0⟩] scope pos) 0 it acc env) R s := by
  refine codeAny_loop rfl I (fun n s hI => ?_) n h
  show wpAny _ A ((compTurn (.SetComp elt [⟨target, iter, [], 0⟩] scope pos) 0 it acc env).onRaise (fun x => do noteFrame x env; theTreesLotGoes x)) _ _ s
  refine wpAny_noted ?_
  rw [compTurn_set]
  refine wpAny_bind (wpAny_standAt (wpAny_bind (wpAny_mono (turn n s hI) (fun r s₁ h₁ => ?_) fun _ _ h' => h')))
  cases r with
  | none => exact wpAny_pure h₁
  | some v =>
    refine wpAny_bind (wpAny_mono h₁ (fun _ s₂ h₂ => ?_) fun _ _ h' => h')
    refine wpAny_bind (wpAny_mono h₂ (fun _ s₃ h₃ => ?_) fun _ _ h' => h')
    exact wpAny_bind (wpAny_bind (wpAny_mono h₃ (fun x s₅ h₅ => wpAny_bind (wpAny_standAt (wpAny_bind (wpAny_mono h₅ (fun _ s₆ h₆ => wpAny_pure (wpAny_pure ⟨rfl, h₆⟩)) fun _ _ h' => h')))) fun _ _ h' => h'))

section
variable {w : World} {A : Around} {mg mb : Str → Option Value} {s₀ : Base} {X : Addr → Prop} {env : Env} {l c : List (Str × Value)} {D : List (Da × Value)}

theorem newSet_b {s : Shared} {E : Value → Shared → Prop} {Q : Value → Shared → Prop} (h : Q (.ref s.heap.objs.size) { s with heap := s.heap.push (bObj (sled w) false false 0) }) : wpAny (model pw w) A (newSet (.type "set")) Q E s := by
  unfold newSet
  refine wpAny_bind (byText_is ?_)
  dsimp only
  simp only [newObj]
  exact wpAny_bind (wpAny_alloc (wpAny_pure h))

theorem ev_setcomp {α : Type} {xs : List α} {dat : α → Da} {f : α → Bool} {elt iter : Expr} {x : Str} {px : Pos} {scope : Scope} {pos : Pos} {cl : List (Str × Addr)} {s : Shared} {E : Value → Shared → Prop}
    (F : Cx mg mb s₀ X env l c D s) (hit : It w A mg mb s₀ X env l c D iter (xs.map dat))
    (hclos : closureFor scope env = pure cl) (hcl : ∀ n c', cl.lookup n = some c' → env.cells.lookup n = some c') (hcell : ∀ y ∈ scope.names, y.2 ≠ .cell) (hkind : scope.kind = .function)
    (hnames : ∀ y ∈ scope.names, y.2 = .local → scope.names.lookup y.1 = some .local) (hx : scope.names.lookup x = some .local)
    (helt : ∀ Y cenv, cenv.scope = relabel scope env → cenv.cells = cl → ∀ a ∈ xs, ∀ L P, J1 x dat a L P → Ev w A mg mb s₀ Y cenv L c (P ++ D) elt (.bool (f a)))
    (hs : ∀ x, foldedSetIterable iter env x = pure x := by intro _; rfl) :
    wpAny (model pw w) A (eval (.SetComp elt [⟨.Name x px, iter, [], 0⟩] scope pos) env) (fun v s' => Keeps s s' ∧ ∃ a ep, v = .ref a ∧ s'.heap.get? a = some (bObj (sled w) (xs.any fun a => !f a) (xs.any f) ep)) E s := by
  rw [arm_eval_SetComp]
  show wpAny (model pw w) A (comprehension (.SetComp elt [⟨.Name x px, iter, [], 0⟩] scope pos) scope env (firstIterPos [⟨.Name x px, iter, [], 0⟩] pos) (newSet (.type "set")) false (eval iter env) none) _ E s
  refine wpAny_comprehension_free (use := none) rfl hs hclos hkind hnames (wpAny_mono (hit s E F) (fun xv s₁ h₁ => wpAny_mono h₁.2 (fun it s₂ h₂ => ?_) fun _ _ e => e) fun _ _ e => e)
  obtain ⟨k₁, _⟩ := h₁
  obtain ⟨k₂, I, wr, rfl, hwn, hwl, hW⟩ := h₂
  have K₂ : Keeps s s₂ := kt k₁ k₂
  have F₂ := F.keeps K₂
  refine newSet_b (wpAny_newFunctionEnv hcell (by intro y hy; simp at hy) (fun h₁ hns₁ hsb₁ => ?_) hkind)
  dsimp only at hns₁ hsb₁ ⊢
  generalize hacc : s₂.heap.objs.size = acc at *
  generalize hH2 : s₂.heap.push (bObj (sled w) false false 0) = H2 at hns₁ hsb₁ ⊢
  generalize hCC : H2.objs.size = C at *
  have g2 : Grow s₂.heap H2 := hH2 ▸ grow_push _ _
  have nacc : New s₂.heap acc := hacc ▸ new_size _
  have nC2 : New H2 C := hCC ▸ new_size _
  have nC : New s₂.heap C := New.back g2 nC2
  have acc2 : H2.get? acc = some (bObj (sled w) false false 0) := by rw [← hH2, ← hacc]; exact Heap.get?_push_size _ rfl
  have hDC : acc ≠ C := new_ne nC2 acc2
  have g1 : ∀ b o, H2.get? b = some o → h₁.get? b = some o := fun b o e => hsb₁.extBut b o (new_ne nC2 e) (Heap.get?_push_of_some _ e)
  have gg : Grow s₂.heap h₁ := fun b o e => g1 b o (g2 b o e)
  have gs : Grow s.heap h₁ := fun b o e => gg b o (kg K₂ b o e)
  obtain ⟨St, W, hst⟩ := hW (fun b => (X b ∧ ¬ wr b) ∧ b ≠ acc ∧ b ≠ C) (fun b hb => hb.1) (fun b o xb wb e => ⟨⟨xb, wb⟩, new_ne nacc e, new_ne nC e⟩)
  have nsacc : New s.heap acc := New.back (kg K₂) nacc
  have nsC : New s.heap C := New.back (kg K₂) nC
  have a1 : acc ≠ C := hDC
  have a2 : ∀ n c', cl.lookup n = some c' → acc ≠ c' := fun n c' e q => by
    obtain ⟨o, ho, _⟩ := F₂.cell n c' (hcl n c' e)
    exact new_ne nacc ho q.symm
  have a3 : ¬ wr acc := fun q => by obtain ⟨o, ho⟩ := hwl acc q; exact new_ne nacc ho rfl
  have w1 : ¬ wr C := fun q => by obtain ⟨o, ho⟩ := hwl _ q; exact new_ne nC ho rfl
  have w2 : ∀ n c', cl.lookup n = some c' → ¬ wr c' := fun n c' e q => by
    obtain ⟨o, ho, _⟩ := F.cell n c' (hcl n c' e)
    exact new_ne (hwn _ q) ho rfl
  have t2 : ∀ b, wr b → ¬ b = C := fun b q r => by obtain ⟨o, ho⟩ := hwl b q; exact new_ne nC ho r
  have old : ∀ b o, s₀.B b o → ¬ wr b ∧ b ≠ acc := fun b o e => ⟨fun q => new_ne (hwn b q) (F.keep b o e) rfl, new_ne nacc (F₂.keep b o e)⟩
  have Fc : Cx mg mb s₀ (fun b => (X b ∧ ¬ wr b) ∧ b ≠ acc ∧ b ≠ C) (compEnvC scope cl C env) [] c D { s₂ with heap := h₁, toks := s₂.toks + ([] : List (Str × Value)).length } := by
    refine ⟨hkind, F.glob, F.blt, let ⟨_, _, e⟩ := F₂.same; ⟨h₁, _, by rw [e]⟩, fun b o e => gg b o (F₂.keep b o e), F.top, hns₁, fun n c' e => (F₂.cell n c' (hcl n c' e)).keeps gg, fun n n' c' e1 e2 => F.apart n n' c' (hcl _ _ e1) (hcl _ _ e2), fun n c' e => ?_, fun b o e => ?_,
      fun b hb => ?_, fun b hb => ?_, fun p hp => ?_⟩
    · obtain ⟨o, ho, _⟩ := F₂.cell n c' (hcl n c' e)
      exact new_ne nC ho
    · exact ⟨new_ne nC (F₂.keep b o e), fun n c' e' => (F.old b o e).2 n c' (hcl _ _ e')⟩
    · exact ⟨hb.2.2, fun n c' e' => (F.xl b hb.1.1).2 n c' (hcl _ _ e')⟩
    · refine ⟨⟨F.xn b (New.back gs hb), fun q => ?_⟩, fun q => ?_, fun q => ?_⟩
      · obtain ⟨o, ho⟩ := hwl b q
        have := gg b o ho; rw [show h₁.get? b = none from hb] at this; cases this
      · have := g1 acc _ acc2; rw [← q, show h₁.get? b = none from hb] at this; cases this
      · obtain ⟨o, ho⟩ := ns_some hns₁
        rw [← q, show h₁.get? b = none from hb] at ho; cases ho
    · exact (F.led p hp).ext fun b o xb e => ⟨⟨⟨xb, fun q => by have := hwn b q; rw [this] at e; cases e⟩, new_ne nsacc e, new_ne nsC e⟩, gs b o e⟩
  have hst₁ : St 0 h₁ := W.frame _ _ _ hst fun b o _ e => gg b o e
  have e1 : (compEnvC scope cl C env).scope = relabel scope env := rfl
  have e2 : (compEnvC scope cl C env).cells = cl := rfl
  have e3 : (compEnvC scope cl C env).locals = C := rfl
  have e4 : { compEnvC scope cl C env with scope := relabel scope env } = compEnvC scope cl C env := rfl
  have loop : ∀ s₃ : Shared, s₃ = { s₂ with heap := h₁, toks := s₂.toks + ([] : List (Str × Value)).length } →
      codeAny (model pw w) A (.compLoop (.SetComp elt [⟨.Name x px, iter, [], 0⟩] scope pos) 0 (.ref I) (.ref acc) (compEnvC scope cl C env))
        (compPost (model pw w) A E none (fun v s' => Keeps s s' ∧ ∃ a ep, v = .ref a ∧ s'.heap.get? a = some (bObj (sled w) (xs.any fun a => !f a) (xs.any f) ep)) (.ref acc) C) s₃ := by
    rintro s₃ rfl
    generalize hce : compEnvC scope cl C env = cenv at Fc e1 e2 e3 ⊢
    refine loop_set (fun k s' => ∃ h' tk L i ep, s' = { s₂ with heap := h', toks := tk } ∧ Cx mg mb s₀ (fun b => (X b ∧ ¬ wr b) ∧ b ≠ acc ∧ b ≠ C) cenv L c D s' ∧ St i h' ∧ h'.get? acc = some (bObj (sled w) ((xs.take i).any fun a => !f a) ((xs.take i).any f) ep) ∧ i ≤ xs.length ∧
      k = xs.length + 1 - i ∧ (∀ b o, b ≠ C → ¬ wr b → b ≠ acc → h₁.get? b = some o → h'.get? b = some o)) ?_ (xs.length + 1) ⟨h₁, _, [], 0, 0, rfl, Fc, hst₁, g1 _ _ acc2, Nat.zero_le _, rfl, fun _ _ _ _ _ e => e⟩
    rintro k s' ⟨H, tk, L, i, ep, rfl, F', hst', hacc', hi, rfl, hk⟩
    by_cases hlt : i < xs.length
    · have hd : (xs.map dat)[i]? = some (dat xs[i]) := by simp [hlt]
      have hm : xs[i] ∈ xs := List.getElem_mem hlt
      refine W.item i _ _ _ _ hd hst' F'.xn fun v h₃ tk₃ hv hst₃ hk₃ _ => ?_
      have F₃ : Cx mg mb s₀ (fun b => (X b ∧ ¬ wr b) ∧ b ≠ acc ∧ b ≠ C) cenv L c D { s₂ with heap := h₃, toks := tk₃ } := F'.move (h' := h₃) (tk := tk₃) wr hk₃ (fun b o e => (old b o e).1) (e3 ▸ w1) (fun n c' e => w2 n c' (e2 ▸ e)) W.off (W.live _ _ hst₃)
      refine wpAny_of_eq (a := ()) rfl ?_
      refine asg1 (xs := xs) (dat := dat) (px := px) hx _ cenv e1 e2 _ hm L _ v _ _ F₃ hv fun h₄ tk₄ L' P hk₄ F₄ hj => ?_
      refine wpAny_mono (helt _ cenv e1 e2 _ hm L' P hj _ _ F₄) (fun y s₅ h₅ => ?_) fun _ _ e => e
      obtain ⟨⟨h₅, tk₅, rfl, hk₅⟩, hy⟩ := h₅
      obtain rfl : y = .bool (f xs[i]) := hy
      have up : ∀ b o, b ≠ C → ¬ wr b → H.get? b = some o → h₅.get? b = some o := fun b o q1 q2 e => hk₅ b o (hk₄ b o (e3 ▸ q1) (hk₃ b o q2 e))
      have hst₅ : St (i + 1) h₅ := W.frame _ _ _ (W.frame _ _ _ hst₃ fun b o q e => hk₄ b o (q.elim (fun xb => e3 ▸ xb.2.2) (fun wb => e3 ▸ t2 b wb)) e) fun b o _ e => hk₅ b o e
      refine add_b (up _ _ a1 a3 hacc') fun h₆ ep₆ hs₆ hg₆ => ?_
      have htk : xs.take (i + 1) = xs.take i ++ [xs[i]] := by rw [List.take_add_one]; simp [hlt]
      refine ⟨_, ?_, h₆, _, L', i + 1, ep₆, rfl, ((F₄.keeps ⟨h₅, tk₅, rfl, hk₅⟩).sub fun p hp => List.mem_append_right _ hp).move (h' := h₆) (tk := tk₅ + 1) (fun b => b = acc) (fun b o q e => hs₆.extBut b o q e) (fun b o e => (old b o e).2) (fun q => a1 (q.symm.trans e3))
        (fun n c' e q => a2 n c' (e2 ▸ e) q.symm) (fun b xb q => xb.2.1 q) (fun b q => by subst q; exact ⟨_, hg₆⟩), W.frame _ _ _ hst₅ fun b o q e => hs₆.extBut b o (q.elim (fun xb => xb.2.1) fun wb r => a3 (r ▸ wb)) e, ?_, hlt, rfl,
        fun b o q1 q2 q3 e => hs₆.extBut b o q3 (up b o q1 q2 (hk b o q1 q2 q3 e))⟩
      · omega
      · rw [hg₆, htk]; simp only [List.any_append, List.any_cons, List.any_nil, Bool.or_false]
    · have hin : i = xs.length := by omega
      subst hin
      refine W.done _ _ _ (by simpa using hst') fun h₃ tk₃ hk₃ => ?_
      have hnC : h₃.Ns C (fun x => L.lookup x) := by
        have := F'.ns.at' (h' := h₃) fun o e => hk₃ _ o (e3 ▸ w1) e
        rw [e3] at this; exact this
      refine ⟨_, hnC, fun h' hsb => ⟨?_, acc, ep, rfl, ?_⟩⟩
      · have hh : Grow s.heap h' := fun b o e => hsb.extBut b o (new_ne nsC e) (hk₃ b o (fun q => new_ne (hwn b q) e rfl) (hk b o (new_ne nsC e) (fun q => new_ne (hwn b q) e rfl) (new_ne nsacc e) (gs b o e)))
        obtain ⟨_, _, rfl, _⟩ := K₂
        exact ⟨h', _, rfl, hh⟩
      · have := hsb.extBut acc _ a1 (hk₃ acc _ a3 hacc')
        rw [List.take_length] at this
        exact this
  exact compStart_set (loop _ rfl) (W.self 0 _ _ _ hst₁ (loop _ rfl))
end
end Mine

end
section
open PySem PySem.W PyProof.Rows
namespace Mine
section
variable {w : World} {A : Around} {mg mb : Str → Option Value} {s₀ : Base} {X : Addr → Prop} {env : Env} {l c : List (Str × Value)} {D : List (Da × Value)}

/-- the one truth of a set is taken out -/
theorem ex_oneset {α : Type} {xs : List α} {dat : α → Da} {f : α → Bool} {elt iter : Expr} {x y : Str} {px py tp : Pos} {k : Nat} {scope : Scope} {pos spos : Pos} {cl : List (Str × Addr)} {s : Shared} {Q : Flow → Shared → Prop} {E : Value → Shared → Prop}
    (F : Cx mg mb s₀ X env l c D s) (hh : A.handled = none) (hit : It w A mg mb s₀ X env l c D iter (xs.map dat)) (hxs : xs ≠ [])
    (hclos : closureFor scope env = pure cl) (hcl : ∀ n c', cl.lookup n = some c' → env.cells.lookup n = some c') (hcell : ∀ y ∈ scope.names, y.2 ≠ .cell) (hkind : scope.kind = .function)
    (hnames : ∀ y ∈ scope.names, y.2 = .local → scope.names.lookup y.1 = some .local) (hx : scope.names.lookup x = some .local)
    (helt : ∀ Y cenv, cenv.scope = relabel scope env → cenv.cells = cl → ∀ a ∈ xs, ∀ L P, J1 x dat a L P → Ev w A mg mb s₀ Y cenv L c (P ++ D) elt (.bool (f a)))
    (hy : env.kindOf y = some .local)
    (h1 : (xs.any (fun a => !f a) && xs.any f) = false → ∀ s', Cx mg mb s₀ X env ((y, .bool (xs.any f)) :: l) c ((.bool (xs.any f), .bool (xs.any f)) :: D) s' → Q .next s')
    (h2 : (xs.any (fun a => !f a) && xs.any f) = true → ∀ s' h' e tk, Keeps s s' → Heap.NewExc s'.heap h' e "ValueError" → E (.ref e) { s' with heap := h', toks := tk })
    (hs : ∀ x, foldedSetIterable iter env x = pure x := by intro _; rfl)
    (hsw : swapsWithSole [.Tuple [.Name y py] k tp] (.SetComp elt [⟨.Name x px, iter, [], 0⟩] scope pos) spos.line env = pure false := by rfl)
    (hw : swappedStores [.Tuple [.Name y py] k tp] (.SetComp elt [⟨.Name x px, iter, [], 0⟩] scope pos) env = pure none := by rfl) :
    wpAny (model pw w) A (exec (.Assign [.Tuple [.Name y py] k tp] (.SetComp elt [⟨.Name x px, iter, [], 0⟩] scope pos) spos) env) Q E s := by
  refine Assign_Tuple (wpAny_mono (ev_setcomp F hit hclos hcl hcell hkind hnames hx helt hs) (fun v s₁ h₁ => ?_) fun _ _ e => e) hsw hw
  obtain ⟨k₁, a, ep, rfl, ho⟩ := h₁
  rw [assign_Tuple]
  refine wpAny_bind (wpAny_standAt ?_)
  have hne : (xs.any (fun a => !f a) || xs.any f) = true := by
    cases xs with
    | nil => exact absurd rfl hxs
    | cons q r => simp only [List.any_cons]; cases f q <;> simp
  unfold unpack
  refine wpAny_bind (wpAny_holding (unpack_b hh ho hne (fun e h' g => ?_) (fun e h' h'' e' tk g hx' => ?_)))
  · have F1 : Cx mg mb s₀ X env l c ((.bool (xs.any f), .bool (xs.any f)) :: D) { s₁ with heap := h' } := ((F.keeps k₁).keeps ⟨h', s₁.toks, rfl, g⟩).add rfl
    show wpAny _ A (do holding [] (assign (.Name y py) env (.bool (xs.any f))); pure ()) _ _ _
    exact wpAny_bind (wpAny_holding (wpAny_assign_Name (F1.st hy fun s1 F2 => wpAny_pure (h1 e s1 F2))))
  · exact h2 e { s₁ with heap := h' } h'' e' tk (kt k₁ ⟨h', s₁.toks, rfl, g⟩) hx'
end
end Mine

end
section
open PySem PySem.W PyProof.Rows
open AutoSeq1 (wpAny_loadPart')
open MeetsSeq MeetsSeq2 MeetsSeq3 SeqRoads2 PySem.SeqAt
namespace Mine

noncomputable def ltT (x y : List Nat) : Bool := decide (x < y)
/-- lists of texts in order -/
noncomputable def ltLL : List (List Nat) → List (List Nat) → Bool
  | [], [] => false
  | [], _ :: _ => true
  | _ :: _, [] => false
  | x :: xs, y :: ys => if x == y then ltLL xs ys else ltT x y
noncomputable def cmpL (g : Bool) (xs ys : List (List Nat)) : Bool := if g then ltLL ys xs else ltLL xs ys
noncomputable def cmpT (g : Bool) (x y : List Nat) : Bool := if g then ltT y x else ltT x y

theorem rcStr {prog : Program} {w : World} {A : Around} {E : Value → Shared → Prop} {s : Shared} {g : Bool} {x y : List Nat} {t u : Tok} {Q : Value → Shared → Prop} (h : Q (.bool (cmpT g x y)) s) :
    wpAny (model prog w) A (richCompare (if g then .Gt else .Lt) (.str (S x) t) (.str (S y) u)) Q E s := by
  cases g with
  | false => exact PyProof.Rows.lt_str (x := S x) (y := S y) h
  | true => exact richCompare_meets (op := .Gt) rfl rfl F.slot_str_gt F.entry_str_gt (F.args_str_gt_2 _ _) (gives_str_gt (S x) (S y) t u).meets ⟨by simp, h⟩

theorem listItems_at {prog : Program} {w : World} {A : Around} {E : Value → Shared → Prop} {s : Shared} {a : Addr} {o : Obj} {items : Array Value} {n : Nat} {Q : Array Value → Shared → Prop} (ho : s.heap.get? a = some o) (hd : o.data = .seq items n)
    (h : Q items s) : wpAny (model prog w) A (Builtin.List.listItems (.ref a)) Q E s := by
  unfold Builtin.List.listItems
  exact wpAny_bind (wpAny_seqItems ho hd (wpAny_pure h))
theorem S_beq (x y : List Nat) : (S x == S y) = (x == y) := by
  rw [Bool.eq_iff_iff, beq_iff_eq, beq_iff_eq]
  exact ⟨S_inj, fun e => by rw [e]⟩

set_option maxHeartbeats 2000000 in
theorem cmp_loop (g : Bool) (l b : Addr) (items items2 : Array Value) (n n2 : Nat) (dd dd2 : Option Addr) (sl sl2 : Array (Option Value)) (X : Addr → Prop) (hX : Heap) :
    ∀ (xs ys : List (List Nat)) (i : Nat), HoldsL X hX (xs.map fun p => Da.str (S p)) (items.toList.drop i) → HoldsL X hX (ys.map fun p => Da.str (S p)) (items2.toList.drop i) → i ≤ items.size → i ≤ items2.size →
      Meets (Builtin.«list.__eq__.loop» ⟨[.ref l, .ref b, rawInt i, rawInt (if g then 4 else 0)], []⟩)
      (fun A R s => s.heap.get? l = some { cls := .type "list", dict := dd, data := .seq items n, slots := sl } ∧ s.heap.get? b = some { cls := .type "list", dict := dd2, data := .seq items2 n2, slots := sl2 } ∧
        R (.ok (.ret (.bool (cmpL g xs ys)))) s) := by
  intro xs
  induction xs with
  | nil =>
    intro ys i h1 h2 le1 le2 prog w A R s h
    obtain ⟨hp, gg, d, tk, os⟩ := s; obtain ⟨hl, hb, h⟩ := h
    have s1 := h1.length
    have s2 := h2.length
    simp only [List.length_drop, Array.length_toList, List.length_map, List.length_nil] at s1 s2
    have hi1 : items[((i : Nat) : Int).toNat]? = none := by simp; omega
    have hz : (List.map (fun p => Da.str (S p)) ys).length = ys.length := List.length_map ..
    cases g
    · wp_walk using wpAny_loadPart' hl, wpAny_loadPart' hb
      rw [hi1]
      wp_walk using wpAny_loadPart' hl, wpAny_loadPart' hb
      show R (.ok (.ret (.bool (decide (items.size < items2.size))))) _
      have e : decide (items.size < items2.size) = cmpL false [] ys := by
        cases ys with
        | nil => simp only [List.length_nil] at s2; show _ = false; simp; omega
        | cons y ys => simp only [List.length_cons] at s2; show _ = true; simp; omega
      rw [e]; exact h
    · wp_walk using wpAny_loadPart' hl, wpAny_loadPart' hb
      rw [hi1]
      wp_walk using wpAny_loadPart' hl, wpAny_loadPart' hb
      show R (.ok (.ret (.bool (decide (items.size > items2.size))))) _
      have e : decide (items.size > items2.size) = cmpL true [] ys := by
        cases ys with
        | nil => simp only [List.length_nil] at s2; show _ = false; simp; omega
        | cons y ys => simp only [List.length_cons] at s2; show _ = false; simp; omega
      rw [e]; exact h
  | cons x xs ih =>
    intro ys i h1 h2 le1 le2 prog w A R s h
    obtain ⟨hp, gg, d, tk, os⟩ := s; obtain ⟨hl, hb, h⟩ := h
    have s1 := h1.length
    have s2 := h2.length
    simp only [List.length_drop, Array.length_toList, List.length_map, List.length_cons] at s1 s2
    obtain ⟨v, r, e1, ⟨t, rfl⟩, h1'⟩ := h1
    have hlt : i < items.size := by omega
    have hd1 : items.toList.drop i = items[i] :: items.toList.drop (i + 1) := by simp [List.drop_eq_getElem_cons, hlt]
    have e1' : items[i] = .str (S x) t ∧ items.toList.drop (i + 1) = r := by rw [hd1] at e1; exact List.cons.inj e1
    have hi1 : items[((i : Nat) : Int).toNat]? = some (.str (S x) t) := by simp [hlt, e1'.1]
    have hc : ((i : Int) + 1) = ((i + 1 : Nat) : Int) := by push_cast; rfl
    cases ys with
    | nil =>
      simp only [List.length_nil] at s2
      have hi2 : items2[((i : Nat) : Int).toNat]? = none := by simp; omega
      cases g
      · wp_walk using wpAny_loadPart' hl, wpAny_loadPart' hb
        rw [hi1, hi2]
        wp_walk using wpAny_loadPart' hl, wpAny_loadPart' hb
        show R (.ok (.ret (.bool (decide (items.size < items2.size))))) _
        have e : decide (items.size < items2.size) = cmpL false (x :: xs) [] := by show _ = false; simp; omega
        rw [e]; exact h
      · wp_walk using wpAny_loadPart' hl, wpAny_loadPart' hb
        rw [hi1, hi2]
        wp_walk using wpAny_loadPart' hl, wpAny_loadPart' hb
        show R (.ok (.ret (.bool (decide (items.size > items2.size))))) _
        have e : decide (items.size > items2.size) = cmpL true (x :: xs) [] := by show _ = true; simp; omega
        rw [e]; exact h
    | cons y ys =>
      simp only [List.length_cons] at s2
      obtain ⟨v2, r2, e2, ⟨t2, rfl⟩, h2'⟩ := h2
      have hlt2 : i < items2.size := by omega
      have hd2 : items2.toList.drop i = items2[i] :: items2.toList.drop (i + 1) := by simp [List.drop_eq_getElem_cons, hlt2]
      have e2' : items2[i] = .str (S y) t2 ∧ items2.toList.drop (i + 1) = r2 := by rw [hd2] at e2; exact List.cons.inj e2
      have hi2 : items2[((i : Nat) : Int).toNat]? = some (.str (S y) t2) := by simp [hlt2, e2'.1]
      have ihh := ih ys (i + 1) (e1'.2 ▸ h1') (e2'.2 ▸ h2') hlt hlt2
      cases g
      · wp_walk using wpAny_loadPart' hl, wpAny_loadPart' hb
        rw [hi1, hi2]
        refine wpAny_bind (EqAt.str_str (S x) t (S y) t2 prog w _ _ ?_)
        rw [S_beq]
        cases hxy : x == y with
        | true =>
          wp_walk
          rw [hc]
          refine ⟨plainId_quiet plain_eq_loop _, codeAny_builtin entry_eq_loop ?_⟩
          rw [Around.under_plainId plain_eq_loop _]
          refine ihh prog w A R _ ⟨hl, hb, ?_⟩
          have : cmpL false (x :: xs) (y :: ys) = cmpL false xs ys := by simp [cmpL, ltLL, hxy]
          rw [← this]; exact h
        | false =>
          rw [if_neg (by decide)]
          refine wpAny_bind (listItems_at hl rfl ?_)
          refine wpAny_bind (listItems_at hb rfl ?_)
          rw [hi1, hi2]
          have : cmpL false (x :: xs) (y :: ys) = cmpT false x y := by simp [cmpL, cmpT, ltLL, hxy]
          rw [this] at h
          exact wpAny_bind (rcStr (g := false) (wpAny_pure h))
      · wp_walk using wpAny_loadPart' hl, wpAny_loadPart' hb
        rw [hi1, hi2]
        refine wpAny_bind (EqAt.str_str (S x) t (S y) t2 prog w _ _ ?_)
        rw [S_beq]
        have hyx : (y == x) = (x == y) := by rw [Bool.eq_iff_iff, beq_iff_eq, beq_iff_eq]; exact ⟨Eq.symm, Eq.symm⟩
        cases hxy : x == y with
        | true =>
          wp_walk
          rw [hc]
          refine ⟨plainId_quiet plain_eq_loop _, codeAny_builtin entry_eq_loop ?_⟩
          rw [Around.under_plainId plain_eq_loop _]
          refine ihh prog w A R _ ⟨hl, hb, ?_⟩
          have : cmpL true (x :: xs) (y :: ys) = cmpL true xs ys := by simp [cmpL, ltLL, hyx, hxy]
          rw [← this]; exact h
        | false =>
          rw [if_neg (by decide)]
          refine wpAny_bind (listItems_at hl rfl ?_)
          refine wpAny_bind (listItems_at hb rfl ?_)
          rw [hi1, hi2]
          have : cmpL true (x :: xs) (y :: ys) = cmpT true x y := by simp [cmpL, cmpT, ltLL, hyx, hxy]
          rw [this] at h
          exact wpAny_bind (rcStr (g := true) (wpAny_pure h))

end Mine

end
section
open PySem PySem.W PyProof.Rows
open AutoSeq1 (wpAny_loadPart')
open MeetsSeq MeetsSeq2 MeetsSeq3 SeqRoads2 PySem.SeqAt
namespace Mine

noncomputable def dL (xs : List (List Nat)) : Da := .list (xs.map fun p => Da.str (S p))
noncomputable def pickL (g : Bool) (b x : List (List Nat)) : List (List Nat) := if cmpL g x b then x else b
noncomputable def bestL (g : Bool) : List (List (List Nat)) → List (List Nat)
  | [] => []
  | x :: xs => xs.foldl (pickL g) x

theorem rcList {prog : Program} {w : World} {A : Around} {E : Value → Shared → Prop} {s : Shared} {g : Bool} {l b : Addr} {vs ws : List Value} {xs ys : List (List Nat)} {X : Addr → Prop} {hX : Heap} {Q : Value → Shared → Prop} (hu : A.units < cLine)
    (hl : SeqAt s.heap l "list" vs) (hb : SeqAt s.heap b "list" ws) (h1 : HoldsL X hX (xs.map fun p => Da.str (S p)) vs) (h2 : HoldsL X hX (ys.map fun p => Da.str (S p)) ws) (h : Q (.bool (cmpL g xs ys)) s) :
    wpAny (model prog w) A (richCompare (if g then .Gt else .Lt) (.ref l) (.ref b)) Q E s := by
  obtain ⟨⟨cls, dd, data, sl⟩, ho, hc, n, hd⟩ := id hl
  obtain ⟨⟨cls2, dd2, data2, sl2⟩, ho2, hc2, n2, hd2⟩ := id hb
  simp only at hc hd hc2 hd2
  subst hc hd hc2 hd2
  have f3 := AutoSeq1.sub_list_list
  have M : ∀ g, Meets ((if g then Builtin.«list.__gt__» else Builtin.«list.__lt__») ⟨[.ref l, .ref b], []⟩) (fun A R s => s.heap.get? l = some { cls := .type "list", dict := dd, data := .seq vs.toArray n, slots := sl } ∧ s.heap.get? b = some { cls := .type "list", dict := dd2, data := .seq ws.toArray n2, slots := sl2 } ∧
        R (.ok (.ret (.bool (cmpL g xs ys)))) s) := by
    intro g prog w A R s h
    obtain ⟨hp, gg, d, tk, os⟩ := s; obtain ⟨hl, hb, h⟩ := h
    have C := cmp_loop g l b vs.toArray ws.toArray n n2 dd dd2 sl sl2 X hX xs ys 0 (by simpa using h1) (by simpa using h2) (Nat.zero_le _) (Nat.zero_le _)
    cases g
    · simp only [Bool.false_eq_true, if_false] at C ⊢
      wp_walk using wpAny_loadPart' hl, wpAny_loadPart' hb
      exact ⟨plainId_quiet plain_eq_loop _, codeAny_builtin entry_eq_loop (by
        rw [Around.under_plainId plain_eq_loop _]
        exact C prog w A R _ ⟨hl, hb, h⟩)⟩
    · simp only [if_true] at C ⊢
      wp_walk using wpAny_loadPart' hl, wpAny_loadPart' hb
      exact ⟨plainId_quiet plain_eq_loop _, codeAny_builtin entry_eq_loop (by
        rw [Around.under_plainId plain_eq_loop _]
        exact C prog w A R _ ⟨hl, hb, h⟩)⟩
  cases g
  · exact richCompare_meets_room (op := .Lt) ⟨_, ho, rfl⟩ ⟨_, ho2, rfl⟩ F.slot_list_lt F.entry_list_lt (F.args_list_lt_2 _ _) (M false) ⟨ho, ho2, show Value.bool _ ≠ Value.notImplemented ∧ Q (.bool (cmpL false xs ys)) s from ⟨(fun x => nomatch x), h⟩⟩ hu
  · exact richCompare_meets_room (op := .Gt) ⟨_, ho, rfl⟩ ⟨_, ho2, rfl⟩ F.slot_list_gt F.entry_list_gt (F.args_list_gt_2 _ _) (M true) ⟨ho, ho2, show Value.bool _ ≠ Value.notImplemented ∧ Q (.bool (cmpL true xs ys)) s from ⟨(fun x => nomatch x), h⟩⟩ hu

theorem rcData {prog : Program} {w : World} {A : Around} {E : Value → Shared → Prop} {s : Shared} {g : Bool} {u v : Value} {xs ys : List (List Nat)} {X : Addr → Prop} {Q : Value → Shared → Prop} (hu : A.units + 1 < cLine)
    (h1 : Holds X s.heap (dL xs) u) (h2 : Holds X s.heap (dL ys) v) (h : Q (.bool (cmpL g xs ys)) s) : wpAny (model prog w) A.in1 (richCompare (if g then .Gt else .Lt) u v) Q E s := by
  obtain ⟨a, vs, rfl, _, ho, hl⟩ := h1
  obtain ⟨b, ws, rfl, _, ho2, hl2⟩ := h2
  exact rcList (by simpa using hu) ho ho2 hl hl2 h

section
variable {w : World} {A : Around} {R : Result → Shared → Prop}

theorem max_loopL {I S l : Addr} {vs : List Value} {xss : List (List (List Nat))} {Y : Addr → Prop} (hh : A.handled = none) (hu : A.units + 1 < cLine) (hIS : I ≠ S) (hl : l ≠ I ∧ l ≠ S) (hY : ∀ b, Y b → b ≠ I ∧ b ≠ S) :
    ∀ (k j : Nat) (s : Shared) (vb : Value) (c : Nat) (b : List (List Nat)), xss.length - j = k → j ≤ xss.length → s.heap.IsListIter I l j → SeqAt s.heap l "list" vs → HoldsL Y s.heap (xss.map dL) vs → Holds Y s.heap (dL b) vb →
      s.heap.get? S = some { cls := .type "list", dict := none, data := .seq #[vb, vb] c, slots := #[] } →
      (∀ v h', Holds Y h' (dL ((xss.drop j).foldl (pickL true) b)) v → (∀ b o, b ≠ I → b ≠ S → s.heap.get? b = some o → h'.get? b = some o) → R (.ok (.ret v)) { s with heap := h' }) →
      codeAny (model pw w) A (.builtin "max.loop" ⟨[.ref I, .none, .ref S], []⟩) R s := by
  have hname : (toString "max" ++ toString ".loop" : String) = "max.loop" := by decide
  intro k
  induction k with
  | zero =>
    intro j s vb c b hk hj hit hsq hls hb hS hR
    have hlen := hls.length
    rw [List.length_map] at hlen
    have hin : j = xss.length := by omega
    refine codeAny_builtin F.entry_max_loop ?_
    rw [Around.under_plainId F.plain_max_loop _]
    show wpAny _ A.in1 (seqItems? (.ref S) >>= _) _ _ s
    refine wpAny_bind (wpAny_seqItems hS rfl ?_)
    show wpAny _ A.in1 (tryCatch (pyNext (.ref I)) _ >>= _) _ _ s
    refine wpAny_bind (wpAny_tryCatch (wpAny_pyNext_list_end (A := A.in1) hh hit hsq.list (by rw [List.getElem?_toArray]; exact List.getElem?_eq_none (by omega)) fun h₁ hs₁ => ?_))
    have hS' := hs₁ S _ (Ne.symm hIS) hS
    show wpAny _ A.in1 (updateSeq S (fun _ => #[]) >>= _) _ _ _
    refine wpAny_bind ?_
    refine wpAny_updateSeq hS' rfl (wpAny_bind (wpAny_letGo (wpAny_pure ?_)))
    have keep : ∀ b o, b ≠ I → b ≠ S → s.heap.get? b = some o → (h₁.update S (Obj.mapSeq fun _ => #[])).get? b = some o := fun b o q1 q2 e => (Heap.get?_update_other _ _ (Ne.symm q2)).trans (hs₁ b o q1 e)
    refine hR vb _ ?_ keep
    rw [hin, List.drop_length]
    exact hb.ext fun b o yb e => ⟨yb, keep b o (hY b yb).1 (hY b yb).2 e⟩
  | succ k ih =>
    intro j s vb c b hk hj hit hsq hls hb hS hR
    have hlen := hls.length
    rw [List.length_map] at hlen
    have hlt : j < xss.length := by omega
    obtain ⟨v, hv, hvh⟩ := hls.nth (i := j) (d := dL xss[j]) (by rw [List.getElem?_map, List.getElem?_eq_getElem hlt]; rfl)
    have hdrop : xss.drop j = xss[j] :: xss.drop (j + 1) := List.drop_eq_getElem_cons hlt
    rw [hdrop, List.foldl_cons] at hR
    refine codeAny_builtin F.entry_max_loop ?_
    rw [Around.under_plainId F.plain_max_loop _]
    show wpAny _ A.in1 (seqItems? (.ref S) >>= _) _ _ s
    refine wpAny_bind (wpAny_seqItems hS rfl ?_)
    show wpAny _ A.in1 (tryCatch (pyNext (.ref I)) _ >>= _) _ _ s
    refine wpAny_bind (wpAny_tryCatch (wpAny_pyNext_list_item hit hsq.list (x := v) (by rw [List.getElem?_toArray]; exact hv) fun h₁ hit₁ hs₁ => ?_))
    have hS' := hs₁.extBut S _ (Ne.symm hIS) hS
    have up : ∀ b o, b ≠ I → s.heap.get? b = some o → h₁.get? b = some o := fun b o q e => hs₁.extBut b o q e
    have hsq₁ : SeqAt h₁ l "list" vs := hsq.at fun o e => up l o hl.1 e
    have hls₁ : HoldsL Y h₁ (xss.map dL) vs := hls.ext fun b o yb e => ⟨yb, up b o (hY b yb).1 e⟩
    have hb₁ : Holds Y h₁ (dL b) vb := hb.ext fun b o yb e => ⟨yb, up b o (hY b yb).1 e⟩
    have hv₁ : Holds Y h₁ (dL xss[j]) v := hvh.ext fun b o yb e => ⟨yb, up b o (hY b yb).1 e⟩
    show wpAny _ A.in1 (tryCatch (holding [v, v] (richCompare .Gt v vb >>= _)) _ >>= _) _ _ _
    refine wpAny_bind (wpAny_tryCatch (wpAny_holding (wpAny_bind (rcData (g := true) (s := { s with heap := h₁ }) hu hv₁ hb₁ ?_))))
    refine wpAny_bind (wpAny_holding (wpAny_truthy_bool ?_))
    refine wpAny_bind (wpAny_letGo (wpAny_pure ?_))
    cases hc : cmpL true xss[j] b with
    | true =>
      rw [show pickL true b xss[j] = xss[j] from by simp [pickL, hc]] at hR
      simp only [if_true]
      refine wpAny_bind ?_
      refine wpAny_updateSeq hS' rfl (wpAny_bind (wpAny_letGo ?_))
      rw [hname]
      have up2 : ∀ b o, b ≠ S → h₁.get? b = some o → (h₁.update S (Obj.mapSeq fun _ => #[v, v])).get? b = some o := fun b o q e => (Heap.get?_update_other _ _ (Ne.symm q)).trans e
      obtain ⟨oI, hoI, rI⟩ := hit₁
      refine wpAny_pure ⟨plainId_quiet F.plain_max_loop _, ih (j + 1) _ v _ xss[j] (by omega) hlt ⟨oI, up2 _ _ hIS hoI, rI⟩ (hsq₁.at fun o e => up2 _ o hl.2 e) (hls₁.ext fun b o yb e => ⟨yb, up2 b o (hY b yb).2 e⟩)
        (hv₁.ext fun b o yb e => ⟨yb, up2 b o (hY b yb).2 e⟩) (Heap.get?_update_self _ hS' rfl) fun v' h' hv' hk' => ?_⟩
      exact hR v' h' hv' fun b o q1 q2 e => hk' b o q1 q2 (up2 b o q2 (up b o q1 e))
    | false =>
      rw [show pickL true b xss[j] = b from by simp [pickL, hc]] at hR
      simp only [Bool.false_eq_true, if_false]
      refine wpAny_bind (wpAny_letGo ?_)
      rw [hname]
      refine wpAny_pure ⟨plainId_quiet F.plain_max_loop _, ih (j + 1) _ vb c b (by omega) hlt hit₁ hsq₁ hls₁ hb₁ hS' fun v' h' hv' hk' => ?_⟩
      exact hR v' h' hv' fun b o q1 q2 e => hk' b o q1 q2 (up b o q1 e)

theorem b_max {x : List (List Nat)} {xss : List (List (List Nat))} (hh : A.handled = none) (hu : A.units + 2 < cLine) : BSpec w A (.builtin "max") [.list ((x :: xss).map dL)] (dL (bestL true (x :: xss))) := fun X s E vs hX h => by
  obtain ⟨_, _, rfl, ⟨a, ws, rfl, xa, ho, hl⟩, rfl⟩ := h
  have hname : (toString "max" ++ toString ".loop" : String) = "max.loop" := by decide
  refine call_function_tree F.kind_max F.plain_max F.entry_max (F.args_max1 _) ?_
  show wpAny _ A.in1 (Builtin.Builtins.bindParams "max" ["key", "default"] 0 ⟨[], []⟩ >>= _) _ _ s
  refine wpAny_bind (wpAny_of_eq (show Builtin.Builtins.bindParams "max" ["key", "default"] 0 ⟨[], []⟩ = pure [none, none] from rfl) ?_)
  refine wpAny_bind (wpAny_pure ?_)
  refine wpAny_bind (wpAny_pyIter_list ho.list ?_)
  refine wpAny_bind (wpAny_newObj_type ?_)
  rw [hname]
  generalize hI : s.heap.objs.size = I
  generalize hh1 : s.heap.push { cls := .type "list_iterator", data := .fields #[.ref a, .int 0 0] } = h₁
  dsimp only
  generalize hS : h₁.objs.size = S
  have nI : New s.heap I := hI ▸ new_size _
  have gI : h₁.get? I = some { cls := .type "list_iterator", data := .fields #[.ref a, .int 0 0] } := by rw [← hh1, ← hI]; exact Heap.get?_push_size _ rfl
  have nS1 : New h₁ S := hS ▸ new_size _
  have g1 : Grow s.heap h₁ := hh1 ▸ grow_push _ _
  have nS : New s.heap S := New.back g1 nS1
  have hIS : I ≠ S := new_ne nS1 gI
  obtain ⟨oa, hoa⟩ := ho.some
  have gg : ∀ b o, h₁.get? b = some o → (h₁.push { cls := .type "list", dict := none, data := .seq ([] : List Value).toArray, slots := #[] }).get? b = some o := fun b o e => Heap.get?_push_of_some _ e
  have hS1 : (h₁.push { cls := .type "list", dict := none, data := .seq ([] : List Value).toArray, slots := #[] }).get? S = some { cls := .type "list", dict := none, data := .seq #[] 0, slots := #[] } := by rw [← hS]; exact Heap.get?_push_size _ rfl
  have hl1 : HoldsL (fun b => X b ∧ b ≠ I ∧ b ≠ S) h₁ ((x :: xss).map dL) ws := hl.ext fun b o xb e => ⟨⟨xb, new_ne nI e, new_ne nS e⟩, g1 b o e⟩
  have hl2 := hl1.ext (Y := fun b => X b ∧ b ≠ I ∧ b ≠ S) fun b o xb e => ⟨xb, gg b o e⟩
  refine wpAny_pure ⟨plainId_quiet F.plain_max_loop _, ?_⟩
  refine codeAny_builtin F.entry_max_loop ?_
  rw [Around.under_plainId F.plain_max_loop _]
  show wpAny _ A.in1 (seqItems? (.ref S) >>= _) _ _ _
  refine wpAny_bind (wpAny_seqItems hS1 rfl ?_)
  obtain ⟨v, r, rfl, hv, hr⟩ := id hl2
  show wpAny _ A.in1 (tryCatch (pyNext (.ref I)) _ >>= _) _ _ _
  refine wpAny_bind (wpAny_tryCatch (wpAny_pyNext_list_item (i := 0) (l := a) ⟨_, gg _ _ gI, rfl, rfl⟩ (ho.at fun o e => gg _ _ (g1 _ _ e)).list (x := v) rfl fun h₂ hit₂ hs₂ => ?_))
  have hS2 := hs₂.extBut S _ (Ne.symm hIS) hS1
  show wpAny _ A.in1 (updateSeq S (fun _ => #[v, v]) >>= _) _ _ _
  refine wpAny_bind ?_
  refine wpAny_updateSeq hS2 rfl ?_
  rw [hname]
  have up2 : ∀ b o, b ≠ S → h₂.get? b = some o → (h₂.update S (Obj.mapSeq fun _ => #[v, v])).get? b = some o := fun b o q e => (Heap.get?_update_other _ _ (Ne.symm q)).trans e
  have up : ∀ b o, b ≠ I → b ≠ S → h₁.get? b = some o → (h₂.update S (Obj.mapSeq fun _ => #[v, v])).get? b = some o := fun b o q1 q2 e => up2 b o q2 (hs₂.extBut b o q1 (gg b o e))
  obtain ⟨oI, hoI, rI⟩ := hit₂
  have hai : a ≠ I := new_ne nI hoa
  have has : a ≠ S := new_ne nS hoa
  refine wpAny_pure ⟨plainId_quiet F.plain_max_loop _, max_loopL (Y := fun b => X b ∧ b ≠ I ∧ b ≠ S) (xss := x :: xss) (vs := v :: r) hh (by omega) hIS ⟨hai, has⟩ (fun b hb => hb.2) _ 1 _ v _ x rfl (by simp) ⟨oI, up2 _ _ hIS hoI, rI⟩ (ho.at fun o e => up a o hai has (g1 _ _ e))
    (hl1.ext fun b o xb e => ⟨xb, up b o xb.2.1 xb.2.2 e⟩) (hv.ext fun b o xb e => ⟨xb, up2 b o xb.2.2 (hs₂.extBut b o xb.2.1 e)⟩) (Heap.get?_update_self _ hS2 rfl) fun v' h' hv' hk' => ?_⟩
  refine ⟨⟨h', s.toks, rfl, fun b o e => hk' b o (new_ne nI e) (new_ne nS e) (up b o (new_ne nI e) (new_ne nS e) (g1 b o e))⟩, ?_⟩
  exact hv'.weak fun b xb => xb.1

theorem min_loopL {I S l : Addr} {vs : List Value} {xss : List (List (List Nat))} {Y : Addr → Prop} (hh : A.handled = none) (hu : A.units + 1 < cLine) (hIS : I ≠ S) (hl : l ≠ I ∧ l ≠ S) (hY : ∀ b, Y b → b ≠ I ∧ b ≠ S) :
    ∀ (k j : Nat) (s : Shared) (vb : Value) (c : Nat) (b : List (List Nat)), xss.length - j = k → j ≤ xss.length → s.heap.IsListIter I l j → SeqAt s.heap l "list" vs → HoldsL Y s.heap (xss.map dL) vs → Holds Y s.heap (dL b) vb →
      s.heap.get? S = some { cls := .type "list", dict := none, data := .seq #[vb, vb] c, slots := #[] } →
      (∀ v h', Holds Y h' (dL ((xss.drop j).foldl (pickL false) b)) v → (∀ b o, b ≠ I → b ≠ S → s.heap.get? b = some o → h'.get? b = some o) → R (.ok (.ret v)) { s with heap := h' }) →
      codeAny (model pw w) A (.builtin "min.loop" ⟨[.ref I, .none, .ref S], []⟩) R s := by
  have hname : (toString "min" ++ toString ".loop" : String) = "min.loop" := by decide
  intro k
  induction k with
  | zero =>
    intro j s vb c b hk hj hit hsq hls hb hS hR
    have hlen := hls.length
    rw [List.length_map] at hlen
    have hin : j = xss.length := by omega
    refine codeAny_builtin F.entry_min_loop ?_
    rw [Around.under_plainId F.plain_min_loop _]
    show wpAny _ A.in1 (seqItems? (.ref S) >>= _) _ _ s
    refine wpAny_bind (wpAny_seqItems hS rfl ?_)
    show wpAny _ A.in1 (tryCatch (pyNext (.ref I)) _ >>= _) _ _ s
    refine wpAny_bind (wpAny_tryCatch (wpAny_pyNext_list_end (A := A.in1) hh hit hsq.list (by rw [List.getElem?_toArray]; exact List.getElem?_eq_none (by omega)) fun h₁ hs₁ => ?_))
    have hS' := hs₁ S _ (Ne.symm hIS) hS
    show wpAny _ A.in1 (updateSeq S (fun _ => #[]) >>= _) _ _ _
    refine wpAny_bind ?_
    refine wpAny_updateSeq hS' rfl (wpAny_bind (wpAny_letGo (wpAny_pure ?_)))
    have keep : ∀ b o, b ≠ I → b ≠ S → s.heap.get? b = some o → (h₁.update S (Obj.mapSeq fun _ => #[])).get? b = some o := fun b o q1 q2 e => (Heap.get?_update_other _ _ (Ne.symm q2)).trans (hs₁ b o q1 e)
    refine hR vb _ ?_ keep
    rw [hin, List.drop_length]
    exact hb.ext fun b o yb e => ⟨yb, keep b o (hY b yb).1 (hY b yb).2 e⟩
  | succ k ih =>
    intro j s vb c b hk hj hit hsq hls hb hS hR
    have hlen := hls.length
    rw [List.length_map] at hlen
    have hlt : j < xss.length := by omega
    obtain ⟨v, hv, hvh⟩ := hls.nth (i := j) (d := dL xss[j]) (by rw [List.getElem?_map, List.getElem?_eq_getElem hlt]; rfl)
    have hdrop : xss.drop j = xss[j] :: xss.drop (j + 1) := List.drop_eq_getElem_cons hlt
    rw [hdrop, List.foldl_cons] at hR
    refine codeAny_builtin F.entry_min_loop ?_
    rw [Around.under_plainId F.plain_min_loop _]
    show wpAny _ A.in1 (seqItems? (.ref S) >>= _) _ _ s
    refine wpAny_bind (wpAny_seqItems hS rfl ?_)
    show wpAny _ A.in1 (tryCatch (pyNext (.ref I)) _ >>= _) _ _ s
    refine wpAny_bind (wpAny_tryCatch (wpAny_pyNext_list_item hit hsq.list (x := v) (by rw [List.getElem?_toArray]; exact hv) fun h₁ hit₁ hs₁ => ?_))
    have hS' := hs₁.extBut S _ (Ne.symm hIS) hS
    have up : ∀ b o, b ≠ I → s.heap.get? b = some o → h₁.get? b = some o := fun b o q e => hs₁.extBut b o q e
    have hsq₁ : SeqAt h₁ l "list" vs := hsq.at fun o e => up l o hl.1 e
    have hls₁ : HoldsL Y h₁ (xss.map dL) vs := hls.ext fun b o yb e => ⟨yb, up b o (hY b yb).1 e⟩
    have hb₁ : Holds Y h₁ (dL b) vb := hb.ext fun b o yb e => ⟨yb, up b o (hY b yb).1 e⟩
    have hv₁ : Holds Y h₁ (dL xss[j]) v := hvh.ext fun b o yb e => ⟨yb, up b o (hY b yb).1 e⟩
    show wpAny _ A.in1 (tryCatch (holding [v, v] (richCompare .Lt v vb >>= _)) _ >>= _) _ _ _
    refine wpAny_bind (wpAny_tryCatch (wpAny_holding (wpAny_bind (rcData (g := false) (s := { s with heap := h₁ }) hu hv₁ hb₁ ?_))))
    refine wpAny_bind (wpAny_holding (wpAny_truthy_bool ?_))
    refine wpAny_bind (wpAny_letGo (wpAny_pure ?_))
    cases hc : cmpL false xss[j] b with
    | true =>
      rw [show pickL false b xss[j] = xss[j] from by simp [pickL, hc]] at hR
      simp only [if_true]
      refine wpAny_bind ?_
      refine wpAny_updateSeq hS' rfl (wpAny_bind (wpAny_letGo ?_))
      rw [hname]
      have up2 : ∀ b o, b ≠ S → h₁.get? b = some o → (h₁.update S (Obj.mapSeq fun _ => #[v, v])).get? b = some o := fun b o q e => (Heap.get?_update_other _ _ (Ne.symm q)).trans e
      obtain ⟨oI, hoI, rI⟩ := hit₁
      refine wpAny_pure ⟨plainId_quiet F.plain_min_loop _, ih (j + 1) _ v _ xss[j] (by omega) hlt ⟨oI, up2 _ _ hIS hoI, rI⟩ (hsq₁.at fun o e => up2 _ o hl.2 e) (hls₁.ext fun b o yb e => ⟨yb, up2 b o (hY b yb).2 e⟩)
        (hv₁.ext fun b o yb e => ⟨yb, up2 b o (hY b yb).2 e⟩) (Heap.get?_update_self _ hS' rfl) fun v' h' hv' hk' => ?_⟩
      exact hR v' h' hv' fun b o q1 q2 e => hk' b o q1 q2 (up2 b o q2 (up b o q1 e))
    | false =>
      rw [show pickL false b xss[j] = b from by simp [pickL, hc]] at hR
      simp only [Bool.false_eq_true, if_false]
      refine wpAny_bind (wpAny_letGo ?_)
      rw [hname]
      refine wpAny_pure ⟨plainId_quiet F.plain_min_loop _, ih (j + 1) _ vb c b (by omega) hlt hit₁ hsq₁ hls₁ hb₁ hS' fun v' h' hv' hk' => ?_⟩
      exact hR v' h' hv' fun b o q1 q2 e => hk' b o q1 q2 (up b o q1 e)

theorem b_min {x : List (List Nat)} {xss : List (List (List Nat))} (hh : A.handled = none) (hu : A.units + 2 < cLine) : BSpec w A (.builtin "min") [.list ((x :: xss).map dL)] (dL (bestL false (x :: xss))) := fun X s E vs hX h => by
  obtain ⟨_, _, rfl, ⟨a, ws, rfl, xa, ho, hl⟩, rfl⟩ := h
  have hname : (toString "min" ++ toString ".loop" : String) = "min.loop" := by decide
  refine call_function_tree F.kind_min F.plain_min F.entry_min (F.args_min1 _) ?_
  show wpAny _ A.in1 (Builtin.Builtins.bindParams "min" ["key", "default"] 0 ⟨[], []⟩ >>= _) _ _ s
  refine wpAny_bind (wpAny_of_eq (show Builtin.Builtins.bindParams "min" ["key", "default"] 0 ⟨[], []⟩ = pure [none, none] from rfl) ?_)
  refine wpAny_bind (wpAny_pure ?_)
  refine wpAny_bind (wpAny_pyIter_list ho.list ?_)
  refine wpAny_bind (wpAny_newObj_type ?_)
  rw [hname]
  generalize hI : s.heap.objs.size = I
  generalize hh1 : s.heap.push { cls := .type "list_iterator", data := .fields #[.ref a, .int 0 0] } = h₁
  dsimp only
  generalize hS : h₁.objs.size = S
  have nI : New s.heap I := hI ▸ new_size _
  have gI : h₁.get? I = some { cls := .type "list_iterator", data := .fields #[.ref a, .int 0 0] } := by rw [← hh1, ← hI]; exact Heap.get?_push_size _ rfl
  have nS1 : New h₁ S := hS ▸ new_size _
  have g1 : Grow s.heap h₁ := hh1 ▸ grow_push _ _
  have nS : New s.heap S := New.back g1 nS1
  have hIS : I ≠ S := new_ne nS1 gI
  obtain ⟨oa, hoa⟩ := ho.some
  have gg : ∀ b o, h₁.get? b = some o → (h₁.push { cls := .type "list", dict := none, data := .seq ([] : List Value).toArray, slots := #[] }).get? b = some o := fun b o e => Heap.get?_push_of_some _ e
  have hS1 : (h₁.push { cls := .type "list", dict := none, data := .seq ([] : List Value).toArray, slots := #[] }).get? S = some { cls := .type "list", dict := none, data := .seq #[] 0, slots := #[] } := by rw [← hS]; exact Heap.get?_push_size _ rfl
  have hl1 : HoldsL (fun b => X b ∧ b ≠ I ∧ b ≠ S) h₁ ((x :: xss).map dL) ws := hl.ext fun b o xb e => ⟨⟨xb, new_ne nI e, new_ne nS e⟩, g1 b o e⟩
  have hl2 := hl1.ext (Y := fun b => X b ∧ b ≠ I ∧ b ≠ S) fun b o xb e => ⟨xb, gg b o e⟩
  refine wpAny_pure ⟨plainId_quiet F.plain_min_loop _, ?_⟩
  refine codeAny_builtin F.entry_min_loop ?_
  rw [Around.under_plainId F.plain_min_loop _]
  show wpAny _ A.in1 (seqItems? (.ref S) >>= _) _ _ _
  refine wpAny_bind (wpAny_seqItems hS1 rfl ?_)
  obtain ⟨v, r, rfl, hv, hr⟩ := id hl2
  show wpAny _ A.in1 (tryCatch (pyNext (.ref I)) _ >>= _) _ _ _
  refine wpAny_bind (wpAny_tryCatch (wpAny_pyNext_list_item (i := 0) (l := a) ⟨_, gg _ _ gI, rfl, rfl⟩ (ho.at fun o e => gg _ _ (g1 _ _ e)).list (x := v) rfl fun h₂ hit₂ hs₂ => ?_))
  have hS2 := hs₂.extBut S _ (Ne.symm hIS) hS1
  show wpAny _ A.in1 (updateSeq S (fun _ => #[v, v]) >>= _) _ _ _
  refine wpAny_bind ?_
  refine wpAny_updateSeq hS2 rfl ?_
  rw [hname]
  have up2 : ∀ b o, b ≠ S → h₂.get? b = some o → (h₂.update S (Obj.mapSeq fun _ => #[v, v])).get? b = some o := fun b o q e => (Heap.get?_update_other _ _ (Ne.symm q)).trans e
  have up : ∀ b o, b ≠ I → b ≠ S → h₁.get? b = some o → (h₂.update S (Obj.mapSeq fun _ => #[v, v])).get? b = some o := fun b o q1 q2 e => up2 b o q2 (hs₂.extBut b o q1 (gg b o e))
  obtain ⟨oI, hoI, rI⟩ := hit₂
  have hai : a ≠ I := new_ne nI hoa
  have has : a ≠ S := new_ne nS hoa
  refine wpAny_pure ⟨plainId_quiet F.plain_min_loop _, min_loopL (Y := fun b => X b ∧ b ≠ I ∧ b ≠ S) (xss := x :: xss) (vs := v :: r) hh (by omega) hIS ⟨hai, has⟩ (fun b hb => hb.2) _ 1 _ v _ x rfl (by simp) ⟨oI, up2 _ _ hIS hoI, rI⟩ (ho.at fun o e => up a o hai has (g1 _ _ e))
    (hl1.ext fun b o xb e => ⟨xb, up b o xb.2.1 xb.2.2 e⟩) (hv.ext fun b o xb e => ⟨xb, up2 b o xb.2.2 (hs₂.extBut b o xb.2.1 e)⟩) (Heap.get?_update_self _ hS2 rfl) fun v' h' hv' hk' => ?_⟩
  refine ⟨⟨h', s.toks, rfl, fun b o e => hk' b o (new_ne nI e) (new_ne nS e) (up b o (new_ne nI e) (new_ne nS e) (g1 b o e))⟩, ?_⟩
  exact hv'.weak fun b xb => xb.1

end
end Mine

end
section
open PySem PySem.W PyProof.Rows
namespace Mine

noncomputable abbrev enObj (f0 : Value) (f1 : Bool) (it : Addr) (i : Int) (old : Value) : Obj := { cls := .type "enumerate", dict := none, data := .fields #[f0, .bool f1, .ref it, rawInt i, .none, old], slots := #[] }
noncomputable def EnFree (X : Addr → Prop) (h : Heap) (f0 : Value) (f1 : Bool) : Prop := (f0 = .none ∧ f1 = false) ∨ ∃ (T : Addr) (o : Obj), f0 = rawInt T ∧ X T ∧ h.get? T = some o

section
variable {w : World} {A : Around} {E : Value → Shared → Prop} {s : Shared}

theorem free_alive {e T : Addr} {cls : Value} {f1 : Bool} {r : List Value} {oT : Obj} {Q : Bool → Shared → Prop} (he : s.heap.get? e = some { cls := cls, dict := none, data := .fields (rawInt T :: .bool f1 :: r).toArray, slots := #[] }) (hT : s.heap.get? T = some oT)
    (h : ∀ h' f1', h'.get? e = some { cls := cls, dict := none, data := .fields (rawInt T :: .bool f1' :: r).toArray, slots := #[] } → Heap.SameBut e s.heap h' → Q false { s with heap := h' }) :
    wpAny (model pw w) A (Builtin.SmallTypes.ownedTupleIsFree (.ref e)) Q E s := by
  unfold Builtin.SmallTypes.ownedTupleIsFree
  refine wpAny_bind (wpAny_field he rfl (x := rawInt T) rfl ?_)
  dsimp only [rawInt]
  refine wpAny_bind ?_
  have ld : ∀ {Q' : Option Obj → Shared → Prop}, Q' (some oT) s → wpAny (model pw w) A (loadIfAlive (Int.toNat (T : Nat))) Q' E s := by
    intro Q' hq Γ p hΓ
    show Sem.wp _ _ (.loadIfAlive _ _) _ _ _ _
    rw [Sem.wp_loadIfAlive]
    have : s.heap.get? (Int.toNat ((T : Nat) : Int)) = some oT := by rw [Int.toNat_natCast]; exact hT
    rw [this]; exact hq
  refine ld ?_
  rw [if_neg (by simp)]
  refine wpAny_bind (wpAny_field he rfl (x := .bool f1) rfl ?_)
  cases f1 with
  | true =>
    rw [if_neg (by simp)]
    exact wpAny_pure (h s.heap true he (Heap.SameBut.refl _ _))
  | false =>
    rw [if_pos (by simp)]
    exact wpAny_bind (wpAny_setField_rec he (by simp) fun h' he' hs => wpAny_pure (h h' true (by simpa using he') hs))

theorem enum_alive {e it l T : Addr} {i : Nat} {items : Array Value} {x old : Value} {f1 : Bool} {oT : Obj} {Q : Option Value → Shared → Prop}
    (he : s.heap.get? e = some (enObj (rawInt T) f1 it i old)) (hit : s.heap.IsListIter it l i) (hl : s.heap.IsList l items) (hx : items[i]? = some x) (hne : e ≠ it) (hT : s.heap.get? T = some oT) (hTe : T ≠ e) (hTi : T ≠ it)
    (hQ : ∀ h' f1', h'.get? e = some (enObj (rawInt T) f1' it ((i : Int) + 1) old) → h'.IsListIter it l (i + 1) →
      h'.get? s.heap.objs.size = some { cls := .type "tuple", data := .seq #[.int i s.toks, x] } →
      (∀ b o, b ≠ e → b ≠ it → s.heap.get? b = some o → h'.get? b = some o) → Q (some (.ref s.heap.objs.size)) { s with heap := h', toks := s.toks + 1 }) :
    wpAny (model pw w) A (pyNext (.ref e)) Q E s := by
  have hTy : s.TypeIs (.ref e) "enumerate" := ⟨_, he, rfl⟩
  unfold pyNext
  refine wpAny_bind (wpAny_attempt (wpAny_callSpecial?_slot (name := Str.ofString "__next__") hTy F.slot_enumerate_next
    (wpAny_call_entry F.slot_enumerate_next hTy F.entry_enumerate_next ?_ (F.args_enumerate_next_1 _))))
  obtain ⟨hp, g, d, tk, os⟩ := s
  show wpAny _ _ (field (.ref e) 2 >>= _) _ _ _
  refine wpAny_bind (wpAny_field he rfl (x := .ref it) rfl ?_)
  refine wpAny_bind (wpAny_nextOf_list_item hit hl hx fun h₁ hit₁ hs₁ => ?_)
  replace hs₁ : Heap.SameBut it hp h₁ := hs₁
  have he₁ : h₁.get? e = some (enObj (rawInt T) f1 it i old) := (hs₁.2 e hne).trans he
  show wpAny _ _ (field (.ref e) 3 >>= _) _ _ ⟨h₁, g, d, tk, os⟩
  refine wpAny_bind (wpAny_field he₁ rfl (x := rawInt i) rfl ?_)
  show wpAny _ _ (field (.ref e) 4 >>= _) _ _ ⟨h₁, g, d, tk, os⟩
  refine wpAny_bind (wpAny_field he₁ rfl (x := .none) rfl ?_)
  show wpAny _ _ (mkInt i >>= _) _ _ ⟨h₁, g, d, tk, os⟩
  refine wpAny_bind (wpAny_mkInt ?_)
  show wpAny _ _ (setField (.ref e) 3 (rawInt ((i : Int) + 1)) >>= _) _ _ ⟨h₁, g, d, tk + 1, os⟩
  refine wpAny_bind (wpAny_setField_rec he₁ (by simp) fun h₂ he₂ hs₂ => ?_)
  replace hs₂ : Heap.SameBut e h₁ h₂ := hs₂
  replace he₂ : h₂.get? e = some (enObj (rawInt T) f1 it ((i : Int) + 1) old) := he₂
  show wpAny _ _ (setField (.ref e) 4 .none >>= _) _ _ ⟨h₂, g, d, tk + 1, os⟩
  refine wpAny_bind (wpAny_setField_rec he₂ (by simp) fun h₃ he₃ hs₃ => ?_)
  replace hs₃ : Heap.SameBut e h₂ h₃ := hs₃
  replace he₃ : h₃.get? e = some (enObj (rawInt T) f1 it ((i : Int) + 1) old) := he₃
  show wpAny _ _ (newTuple [.int i tk, x] >>= _) _ _ ⟨h₃, g, d, tk + 1, os⟩
  refine wpAny_bind (wpAny_newTuple ?_)
  have hsz : h₃.objs.size = hp.objs.size := by rw [hs₃.1, hs₂.1, hs₁.1]
  have hk₃ : ∀ b o, b ≠ e → b ≠ it → hp.get? b = some o → h₃.get? b = some o := fun b o hbe hbi hb => hs₃.extBut b o hbe (hs₂.extBut b o hbe (hs₁.extBut b o hbi hb))
  have hit₃ : h₃.IsListIter it l (i + 1) := (hit₁.extBut hs₂.extBut (Ne.symm hne)).extBut hs₃.extBut (Ne.symm hne)
  have hel : e < h₃.objs.size := Heap.lt_size he₃
  show wpAny _ _ (Builtin.SmallTypes.ownedTupleIsFree (.ref e) >>= _) _ _ ⟨h₃.push { cls := .type "tuple", data := .seq #[.int i tk, x] }, g, d, tk + 1, os⟩
  refine wpAny_bind (free_alive (w := w) (e := e) (T := T) (oT := oT) (f1 := f1) (cls := .type "enumerate") (r := [.ref it, rawInt ((i : Int) + 1), .none, old])
    (Heap.get?_push_of_some _ he₃) (Heap.get?_push_of_some _ (hk₃ T _ hTe hTi hT)) fun h₅ f1' he₅ hs₅ => ?_)
  rw [if_neg (by decide)]
  refine wpAny_pure ⟨_, rfl, wpAny_pure ?_⟩
  have up : ∀ b o, b ≠ e → h₃.get? b = some o → h₅.get? b = some o := fun b o hb hq => hs₅.extBut b o hb (Heap.get?_push_of_some _ hq)
  show Q (some (.ref h₃.objs.size)) _
  rw [hsz]
  exact hQ h₅ f1' (by simpa using he₅) (hit₃.at fun o q => up _ o (Ne.symm hne) q) (by show h₅.get? hp.objs.size = _; rw [← hsz]; exact hs₅.extBut _ _ (Nat.ne_of_gt hel) (Heap.get?_push_size _ rfl)) fun b o hb1 hb2 hb => up b o hb1 (hk₃ b o hb1 hb2 hb)

theorem enum_end {e it l : Addr} {i : Nat} {items : Array Value} {f0 : Value} {f1 : Bool} {old : Value} {Q : Option Value → Shared → Prop} (hh : A.handled = none)
    (he : s.heap.get? e = some (enObj f0 f1 it i old)) (hit : s.heap.IsListIter it l i) (hl : s.heap.IsList l items) (hx : items[i]? = none)
    (hQ : ∀ h', Heap.ExtBut it s.heap h' → Q none { s with heap := h' }) : wpAny (model pw w) A (pyNext (.ref e)) Q E s := by
  have hT : s.TypeIs (.ref e) "enumerate" := ⟨_, he, rfl⟩
  unfold pyNext
  refine wpAny_bind (wpAny_attempt (wpAny_callSpecial?_slot (name := Str.ofString "__next__") hT F.slot_enumerate_next
    (wpAny_call_entry F.slot_enumerate_next hT F.entry_enumerate_next ?_ (F.args_enumerate_next_1 _))))
  show wpAny _ _ (field (.ref e) 2 >>= _) _ _ _
  refine wpAny_bind (wpAny_field he rfl (x := .ref it) rfl ?_)
  refine wpAny_bind (wpAny_nextOf_list_end hh hit hl hx fun h' x he' hx' => ?_)
  obtain ⟨o, ho, hc⟩ := hx'
  refine wpAny_bind (wpAny_isInstance (T := "StopIteration") (b := true) ⟨o, ho, hc⟩ isSubtype_stop ?_)
  exact wpAny_pure (hQ _ he')
theorem enum_self {e it : Addr} {f0 : Value} {f1 : Bool} {i : Int} {old : Value} {Q : Value → Shared → Prop} (he : s.heap.get? e = some (enObj f0 f1 it i old)) (h : Q (.ref e) s) : wpAny (model pw w) A (pyIter (.ref e)) Q E s := by
  have hT : s.TypeIs (.ref e) "enumerate" := ⟨_, he, rfl⟩
  refine wpAny_pyIter_slot hT F.slot_enumerate_iter (wpAny_call_entry F.slot_enumerate_iter hT F.entry_enumerate_iter ?_ (F.args_enumerate_iter_1 _))
  show wpAny _ _ (ret (.ref e)) _ _ s
  exact wpAny_pure ⟨_, rfl, "enumerate", _, hT, F.slot_enumerate_next.lookup, h⟩
end

noncomputable def enD (ps : List (List Nat)) : List Da := ps.zipIdx.map fun p => Da.tup [.int p.2, .str (S p.1)]
theorem enD_get {ps : List (List Nat)} {i : Nat} {d : Da} (h : (enD ps)[i]? = some d) : ∃ p, ps[i]? = some p ∧ d = .tup [.int i, .str (S p)] := by
  unfold enD at h
  rw [List.getElem?_map, List.getElem?_zipIdx] at h
  cases hp : ps[i]? with
  | none => rw [hp] at h; cases h
  | some p => rw [hp] at h; simp at h; exact ⟨p, rfl, h.symm⟩

theorem Walk.enum {w : World} {A : Around} {X : Addr → Prop} {e it l : Addr} {vs : List Value} {ps : List (List Nat)} (hh : A.handled = none) (hei : e ≠ it) (hX : ∀ b, X b → ¬ (b = e ∨ b = it)) (xl : X l) :
    Walk w A X (fun b => b = e ∨ b = it) e (enD ps) (fun i h => (∃ f0 f1 old, h.get? e = some (enObj f0 f1 it i old) ∧ EnFree X h f0 f1) ∧ h.IsListIter it l i ∧ SeqAt h l "list" vs ∧ HoldsL X h (ps.map fun p => Da.str (S p)) vs) where
  off := hX
  live := fun i h st b hb => by
    obtain ⟨⟨f0, f1, old, he, _⟩, ⟨o, ho, _⟩, _⟩ := st
    rcases hb with rfl | rfl
    · exact ⟨_, he⟩
    · exact ⟨_, ho⟩
  frame := fun i h h' st hk => by
    obtain ⟨⟨f0, f1, old, he, hf⟩, ⟨o, ho, r⟩, hs, hl⟩ := st
    refine ⟨⟨f0, f1, old, hk e _ (.inr (.inl rfl)) he, ?_⟩, ⟨o, hk it _ (.inr (.inr rfl)) ho, r⟩, hs.at fun o e => hk l o (.inl xl) e, hl.ext fun b o xb e => ⟨xb, hk b o (.inl xb) e⟩⟩
    rcases hf with hf | ⟨T, oT, e1, xT, hT⟩
    · exact .inl hf
    · exact .inr ⟨T, oT, e1, xT, hk T _ (.inl xT) hT⟩
  item := fun i d s Q E hd st hn hQ => by
    obtain ⟨p, hp, rfl⟩ := enD_get hd
    obtain ⟨⟨f0, f1, old, he, hf⟩, hit, hs, hl⟩ := st
    obtain ⟨v, hv, t, rfl⟩ := hl.nth (i := i) (d := .str (S p)) (by rw [List.getElem?_map, hp]; rfl)
    have hle : l ≠ e := fun q => hX l xl (.inl q)
    have hli : l ≠ it := fun q => hX l xl (.inr q)
    have nT : New s.heap s.heap.objs.size := new_size _
    have xT := hn _ nT
    have hTe : s.heap.objs.size ≠ e := fun q => hX _ xT (.inl q)
    rcases hf with ⟨rfl, rfl⟩ | ⟨T, oT, rfl, xT', hT⟩
    · refine wpAny_pyNext_enum_item he hit hs.list (x := .str (S p) t) (by rw [List.getElem?_toArray]; exact hv) hei fun h' he' hit' hTup _ hk => ?_
      have hk' : ∀ b o, ¬ (b = e ∨ b = it) → s.heap.get? b = some o → h'.get? b = some o := fun b o q => hk b o (fun r => q (.inl r)) (fun r => q (.inr r))
      have hs' : SeqAt h' l "list" vs := hs.at fun o => hk' l o (hX l xl)
      have hl' := hl.ext (Y := X) fun b o xb q => ⟨xb, hk' b o (hX b xb) q⟩
      refine hQ _ h' (s.toks + 1) ⟨_, [.int i s.toks, .str (S p) t], rfl, xT, ⟨_, hTup, rfl, 0, rfl⟩, _, _, rfl, ⟨_, rfl⟩, _, _, rfl, ⟨t, rfl⟩, rfl⟩ ⟨⟨_, false, _, he', .inr ⟨_, _, rfl, xT, hTup⟩⟩, hit', hs', hl'⟩ hk' ?_
      intro elts k pos Q' E' hq
      refine wpAny_letOwnedTupleGo_enum he' fun h'' he'' hs'' => hq h'' ⟨⟨_, _, _, he'', .inl ⟨rfl, rfl⟩⟩, hit'.extBut hs''.extBut (Ne.symm hei), hs'.at fun o q => hs''.extBut l o hle q, hl'.ext fun b o xb q => ⟨xb, hs''.extBut b o (fun r => hX b xb (.inl r)) q⟩⟩ fun b o q => hs''.extBut b o fun r => q (.inl r)
    · have hTT : T ≠ s.heap.objs.size := new_ne nT hT
      refine enum_alive he hit hs.list (x := .str (S p) t) (by rw [List.getElem?_toArray]; exact hv) hei hT (fun q => hX _ xT' (.inl q)) (fun q => hX _ xT' (.inr q)) fun h' f1' he' hit' hTup hk => ?_
      have hk' : ∀ b o, ¬ (b = e ∨ b = it) → s.heap.get? b = some o → h'.get? b = some o := fun b o q => hk b o (fun r => q (.inl r)) (fun r => q (.inr r))
      have hs' : SeqAt h' l "list" vs := hs.at fun o => hk' l o (hX l xl)
      have hl' := hl.ext (Y := X) fun b o xb q => ⟨xb, hk' b o (hX b xb) q⟩
      have st' : (∃ f0 f1 old, h'.get? e = some (enObj f0 f1 it ((i + 1 : Nat) : Int) old) ∧ EnFree X h' f0 f1) ∧ h'.IsListIter it l (i + 1) ∧ SeqAt h' l "list" vs ∧ HoldsL X h' (ps.map fun p => Da.str (S p)) vs :=
        ⟨⟨_, f1', _, he', .inr ⟨T, oT, rfl, xT', hk' T _ (hX _ xT') hT⟩⟩, hit', hs', hl'⟩
      refine hQ _ h' (s.toks + 1) ⟨_, [.int i s.toks, .str (S p) t], rfl, xT, ⟨_, hTup, rfl, 0, rfl⟩, _, _, rfl, ⟨_, rfl⟩, _, _, rfl, ⟨t, rfl⟩, rfl⟩ st' hk' ?_
      intro elts k pos Q' E' hq
      have hq' := hq h' st' fun _ _ _ e => e
      unfold letOwnedTupleGo
      refine wpAny_bind (wpAny_load he' ?_)
      show wpAny _ _ (if (_ && (#[rawInt T, .bool f1', .ref it, rawInt ((i : Int) + 1), .none, old] : Array Value)[0]? == some (rawInt s.heap.objs.size)) = true then _ else _) _ _ _
      rw [if_neg (by
        rw [Bool.and_eq_true]
        rintro ⟨_, q⟩
        have := eq_of_beq q
        simp [rawInt] at this
        exact hTT (by exact_mod_cast this))]
      exact wpAny_pure hq'
  done := fun s Q E st hQ => by
    obtain ⟨⟨f0, f1, old, he, hf⟩, hit, hs, hl⟩ := st
    have hlen := hl.length
    refine enum_end hh he hit hs.list (by rw [List.getElem?_toArray]; exact List.getElem?_eq_none (by rw [hlen]; simp [enD])) fun h' hx => ?_
    exact hQ h' s.toks fun b o q e => hx b o (fun r => q (.inr r)) e
  self := fun i s Q E st hQ => by
    obtain ⟨⟨f0, f1, old, he, hf⟩, _⟩ := st
    exact enum_self he hQ

section
variable {w : World} {A : Around} {mg mb : Str → Option Value} {s₀ : Base} {X : Addr → Prop} {env : Env} {l c : List (Str × Value)} {D : List (Da × Value)}
theorem it_enum {e : Expr} {np pos : Pos} {ps : List (List Nat)} (hh : A.handled = none) (kx : env.kindOf ("enumerate" : Str) = some .globalImplicit) (h : Ev w A mg mb s₀ X env l c D e (.list (ps.map fun p => Da.str (S p)))) (hs : starEach [e] env = [(false, eval e env)] := by rfl) :
    It w A mg mb s₀ X env l c D (.Call (.Name "enumerate" np) [e] [] pos) (enD ps) := fun s E F => by
  show wpAny _ A (eval (.Name "enumerate" np) env >>= fun fv => callWith pos fv [] (backTo pos (starEach [e] env)) (backToKw pos (keywordEach [] env))) _ _ s
  refine wpAny_bind (F.ldB kx (F.topNow.fr "enumerate" (by decide +kernel)) (by decide +kernel) Boot.«enumerate» ?_ (by decide +kernel))
  refine PySem.callWith_type (by rw [hs]; rfl) (evalArgs_of hs (wpAny_items_cons (ev_use h F fun v s₁ k₁ h₁ => wpAny_items_nil ?_) hs))
  obtain ⟨a, vs, rfl, xa, ho, hl⟩ := h₁
  refine call_enumerate_list ho.list fun h' he hit hsz g => ?_
  obtain ⟨oa, hoa⟩ := ho.some
  have n1 : New s₁.heap (s₁.heap.objs.size + 1) := new_ge (Nat.le_succ _)
  have n0 : New s₁.heap s₁.heap.objs.size := new_size _
  refine ⟨kt k₁ ⟨h', s₁.toks, rfl, g⟩, enum_self he ⟨keeps_refl _, s₁.heap.objs.size + 1, fun b => b = s₁.heap.objs.size + 1 ∨ b = s₁.heap.objs.size, rfl, fun b hb => ?_, fun b hb => ?_, fun Y hY hY' => ?_⟩⟩
  · rcases hb with rfl | rfl
    · exact New.back (kg k₁) n1
    · exact New.back (kg k₁) n0
  · rcases hb with rfl | rfl
    · exact ⟨_, he⟩
    · obtain ⟨o, q, _⟩ := hit; exact ⟨o, q⟩
  · have up : ∀ b o, X b → s₁.heap.get? b = some o → Y b ∧ h'.get? b = some o := fun b o xb e => ⟨hY' b o xb (fun q => by
      rcases q with rfl | rfl
      · exact new_ne n1 e rfl
      · exact new_ne n0 e rfl) (g b o e), g b o e⟩
    exact ⟨_, Walk.enum (ps := ps) (vs := vs) (l := a) hh (Nat.succ_ne_self _) (fun b hb => (hY b hb).2) (up a oa xa hoa).1, ⟨⟨_, false, _, he, .inl ⟨rfl, rfl⟩⟩, hit, ho.at fun o e => g _ _ e, hl.ext up⟩⟩
end
end Mine

end
section
open PySem PySem.W PyProof.Rows
namespace Mine

theorem HoldsL.take {X : Addr → Prop} {h : Heap} : ∀ {ds : List Da} {vs : List Value}, HoldsL X h ds vs → ∀ n, HoldsL X h (ds.take n) (vs.take n)
  | [], _, x, n => by rw [show _ = [] from x]; simp [HoldsL]
  | d :: ds, _, x, n => by
    obtain ⟨v, r, rfl, hd, hr⟩ := x
    cases n with
    | zero => rfl
    | succ n => exact ⟨v, _, rfl, hd, hr.take n⟩
theorem HoldsL.drop {X : Addr → Prop} {h : Heap} : ∀ {ds : List Da} {vs : List Value}, HoldsL X h ds vs → ∀ n, HoldsL X h (ds.drop n) (vs.drop n)
  | [], _, x, n => by rw [show _ = [] from x]; simp [HoldsL]
  | d :: ds, _, x, n => by
    obtain ⟨v, r, rfl, hd, hr⟩ := x
    cases n with
    | zero => exact ⟨v, r, rfl, hd, hr⟩
    | succ n => exact hr.drop n
theorem holds_strV {X : Addr → Prop} {h : Heap} : ∀ {q : List (Str × Tok)} {ps : List (List Nat)}, q.map (·.1) = ps.map S → HoldsL X h (ps.map fun p => Da.str (S p)) (strValues q)
  | [], [], _ => rfl
  | (x, t) :: q, p :: ps, e => by
    simp only [List.map_cons, List.cons.injEq] at e
    exact ⟨.str x t, strValues q, rfl, ⟨t, by rw [e.1]⟩, holds_strV e.2⟩
  | [], _ :: _, e => by simp at e
  | _ :: _, [], e => by simp at e

section
variable {w : World} {A : Around} {mg mb : Str → Option Value} {s₀ : Base} {X : Addr → Prop} {env : Env} {l c : List (Str × Value)} {D : List (Da × Value)}

theorem mo_split {s : Shared} {E : Value → Shared → Prop} {x y : Str} {t : Tok} {pos : Pos} {Q : Value → Shared → Prop} {a : Sem Value}
    (h : wpAny (model pw w) A a (fun v s₁ => ∃ u, v = .str y u ∧ (y.length == 0) = false ∧ 
      ∀ q tk, q.map (·.1) = Txt.split x y → Q (.ref s₁.heap.objs.size) { s₁ with heap := s₁.heap.push { cls := .type "list", data := .seq (strValues q).toArray }, toks := tk }) E s) (hx : x.length + 2 ≤ sizeLine) :
    MethodOnS pw w A E "split" (.str x t) pos [(false, a)] Q s := by
  refine ⟨"str", _, F.plainAttrs_str, F.slot_str_split, F.type_str_split, typeIs_str _ _ _, (fun _ e => nomatch e),
    method1_meets F.slot_str_split F.entry_str_split (wpAny_mono h (fun v s₁ h₁ => ?_) fun _ _ e => e)⟩
  obtain ⟨u, rfl, hy, hq⟩ := h₁
  refine ⟨typeIs_str _ _ _, F.args_str_split_2 _ _, ?_⟩
  have hn : (Builtin.Str.partsBetween x (Builtin.Str.occurrences x y 0 x.length (x.length + 1)) y.length).length ≤ sizeLine := by
    rw [len_partsBetween]
    have := StrLaws.occ_length_le x y 0 x.length (x.length + 1)
    omega
  cases h1 : (decide (x.length < y.length) || decide (Builtin.Str.strKind x < Builtin.Str.strKind y))
  · cases hf : (Builtin.Str.occurrences x y 0 x.length (x.length + 1)).isEmpty
    · refine ⟨_, meets_str_split_sep x y t u h1 hy hf (by omega) hn, ?_⟩
      show wants Q E _ { s₁ with toks := _, heap := s₁.heap.push { cls := .type "list", data := .seq (strsFrom s₁.toks (Builtin.Str.partsBetween x (Builtin.Str.occurrences x y 0 x.length (x.length + 1)) y.length)).toArray } }
      rw [strsFrom_eq]
      exact hq (numbered s₁.toks _) _ ((numbered_texts _ _).trans ((if_neg (ne_true_of_eq_false h1)).trans (if_neg (ne_true_of_eq_false hf))).symm)
    · exact ⟨_, meets_str_split_not_found x y t u h1 hy hf, hq [(x, t)] s₁.toks ((if_neg (ne_true_of_eq_false h1)).trans (if_pos hf)).symm⟩
  · exact ⟨_, meets_str_split_cannot_occur x y t u h1, hq [(x, t)] s₁.toks (if_pos h1).symm⟩

theorem ev_split {o e : Expr} {apos pos : Pos} {x : List Nat} (ho : Ev w A mg mb s₀ X env l c D o (.str (S x))) (he : Ev w A mg mb s₀ X env l c D e (.str (S [47]))) (hsz : x.length + 2 ≤ sizeLine)
    (hbase : attributeBase o "split" env (eval o env) = eval o env := by rfl) (hs : starEach [e] env = [(false, eval e env)] := by rfl) (hline : (apos.endLine == pos.line) = true := by rfl) :
    Ev w A mg mb s₀ X env l c D (.Call (.Attribute o "split" apos) [e] [] pos) (.list ((splitL x).map fun p => .str (S p))) :=
  ev_meth1 ho he (fun s E t Q h => mo_split (y := S [47]) (wpAny_mono h (fun v s₁ ⟨u, e, q⟩ => ⟨u, e, rfl, fun qs tk hq => q _ _ ⟨_, tk, rfl, grow_push _ _⟩
    ⟨s₁.heap.objs.size, strValues qs, rfl, new_size _, ⟨_, Heap.get?_push_size _ rfl, rfl, 0, rfl⟩, holds_strV (by rw [hq, split_S])⟩⟩) fun _ _ e => e) (by simpa using hsz)) hbase hs hline

/-- slices of lists -/
noncomputable def partE (w : World) (A : Around) (mg mb : Str → Option Value) (s₀ : Base) (X : Addr → Prop) (env : Env) (l c : List (Str × Value)) (D : List (Da × Value)) (e : Option Expr) (k : Option Nat) : Prop :=
  ∀ s E, Cx mg mb s₀ X env l c D s → wpAny (model pw w) A (evalPart e env) (fun v s' => Keeps s s' ∧ IsPart v (k.map fun n : Nat => (n : Int))) E s
theorem part_none : partE w A mg mb s₀ X env l c D none none := fun s E F => evalPart_none_step ⟨keeps_refl s, .none⟩
theorem part_some {e : Expr} {k : Nat} (h : Ev w A mg mb s₀ X env l c D e (.int k)) : partE w A mg mb s₀ X env l c D (some e) (some k) := fun s E F =>
  evalPart_some_step (ev_use h F fun v s₁ k₁ h₁ => by obtain ⟨t, rfl⟩ := h₁; exact ⟨k₁, .int _ _⟩)
noncomputable def cutL {α : Type} (a b : Option Nat) (l : List α) : List α := (l.take (b.getD l.length)).drop (a.getD 0)
theorem pick_cut (items : Array Value) (a b : Option Nat) : slicePick items (a.map fun n : Nat => (n : Int)) (b.map fun n : Nat => (n : Int)) none = (cutL a b items.toList).toArray := by
  rw [slicePick_plain]
  unfold cutL
  congr 1
  have e1 : ((a.map fun n : Nat => (n : Int)).elim 0 (clipAt items.size)) = min (a.getD 0) items.size := by cases a <;> simp [clipAt_nat]
  have e2 : ((b.map fun n : Nat => (n : Int)).elim items.size (clipAt items.size)) = min (b.getD items.toList.length) items.size := by cases b <;> simp [clipAt_nat]
  rw [e1, e2, List.drop_take]
  have hl : items.toList.length = items.size := by simp
  generalize b.getD items.toList.length = n
  generalize a.getD 0 = m
  rcases Nat.le_total m items.size with h | h
  · rw [Nat.min_eq_left h]
    rcases Nat.le_total n items.size with h' | h'
    · rw [Nat.min_eq_left h']
    · rw [Nat.min_eq_right h', List.take_of_length_le (by simp), List.take_of_length_le (by simp; omega)]
  · rw [Nat.min_eq_right h, List.drop_of_length_le (by simp), List.drop_of_length_le (by simpa using h)]; simp
theorem HoldsL.cut {h : Heap} {ds : List Da} {vs : List Value} (x : HoldsL X h ds vs) (a b : Option Nat) : HoldsL X h (cutL a b ds) (cutL a b vs) := by
  unfold cutL
  have e := x.length
  have : vs.take (b.getD vs.length) = vs.take (b.getD ds.length) := by rw [e]
  rw [this]
  exact (x.take _).drop _
theorem ev_cutL {o : Expr} {lo hi : Option Expr} {p pos : Pos} {ds : List Da} {a b : Option Nat} (ho : Ev w A mg mb s₀ X env l c D o (.list ds)) (hlo : partE w A mg mb s₀ X env l c D lo a) (hhi : partE w A mg mb s₀ X env l c D hi b) (hsz : ds.length ≤ sizeLine)
    (ht : ∀ v r, letTemporaryGo o v r = pure () := by intro _ _; rfl) : Ev w A mg mb s₀ X env l c D (.Subscript o (.Slice lo hi none p) pos) (.list (cutL a b ds)) := fun s E F => by
  refine wpAny_Subscript_list_slice (ev_use ho F fun v s₁ k₁ h₁ => wpAny_mono (hlo s₁ E (F.keeps k₁)) (fun vl s₂ h₂ => wpAny_mono (hhi s₂ E (F.keeps (kt k₁ h₂.1))) (fun vu s₃ h₃ => ?_) fun _ _ e => e) fun _ _ e => e) ht
  obtain ⟨al, vs, rfl, xa, hol, hl⟩ := h₁
  have k13 := kt h₂.1 h₃.1
  refine ⟨al, vs.toArray, _, _, rfl, (hol.at fun o e => kg k13 _ o e).list, ?_, h₂.2, h₃.2, ?_⟩
  · have := hl.length; simp; omega
  · have G := F.keeps (kt k₁ k13)
    refine ⟨kt (kt k₁ k13) ⟨_, s₃.toks, rfl, fun b o e => grow_push _ _ _ _ (grow_push _ _ _ _ e)⟩, s₃.heap.objs.size + 1, cutL a b vs, rfl, G.xn _ (new_ge (Nat.le_succ _)), ?_, (hl.ext (Y := X) fun b o xb e => ⟨xb, grow_push _ _ _ _ (grow_push _ _ _ _ (kg k13 b o e))⟩).cut a b⟩
    refine ⟨{ cls := .type "list", data := .seq (slicePick vs.toArray (a.map fun n : Nat => (n : Int)) (b.map fun n : Nat => (n : Int)) none) }, ?_, rfl, 0, ?_⟩
    · have := Heap.get?_push_size (s₃.heap.push { cls := .type "slice", data := .fields #[vl, vu, .none] }) (o := { cls := .type "list", data := .seq (slicePick vs.toArray (a.map fun n : Nat => (n : Int)) (b.map fun n : Nat => (n : Int)) none) }) rfl
      rw [Heap.size_push] at this
      exact this
    · show Data.seq (slicePick _ _ _ _) 0 = _
      rw [pick_cut]

theorem ts_tup {e : Expr} {ds : List Da} (h : Ev w A mg mb s₀ X env l c D e (.tup ds)) (hx : ds.length < 2 ^ 62)
    (he : isTrue e env (eval e env) = (do let v ← eval e env; standAt e.pos; holding [v] (truthy v)) := by rfl) : Ts w A mg mb s₀ X env l c D e (!ds.isEmpty) := fun s E F => by
  refine wpAny_isTrue_value (wpAny_mono (h s E F) (fun v s₁ h₁ => ?_) fun _ _ e => e) he
  obtain ⟨hk, a, vs, rfl, xa, ho, hl⟩ := h₁
  have hlen := hl.length
  refine PyProof.Rows.truthy_tuple (items := vs.toArray) ho (by simp; omega) ⟨kt hk (keeps_tok _ _), ?_⟩
  cases vs <;> cases ds <;> first | rfl | simp at hlen
theorem ts_lst {e : Expr} {ds : List Da} (h : Ev w A mg mb s₀ X env l c D e (.list ds)) (hx : ds.length < 2 ^ 62)
    (he : isTrue e env (eval e env) = (do let v ← eval e env; standAt e.pos; holding [v] (truthy v)) := by rfl) : Ts w A mg mb s₀ X env l c D e (!ds.isEmpty) := fun s E F => by
  refine wpAny_isTrue_value (wpAny_mono (h s E F) (fun v s₁ h₁ => ?_) fun _ _ e => e) he
  obtain ⟨hk, a, vs, rfl, xa, ho, hl⟩ := h₁
  have hlen := hl.length
  refine wpAny_truthy_list (items := vs.toArray) ho.list (by simp; omega) ⟨kt hk (keeps_tok _ _), ?_⟩
  cases vs <;> cases ds <;> first | rfl | simp at hlen

/-- a store into a cell name -/
theorem ex_assignC {x : Str} {e : Expr} {px pos : Pos} {rest : List Stmt} {d : Da} {a : Addr} {s : Shared} {Q : Flow → Shared → Prop} {E : Value → Shared → Prop} (F : Cx mg mb s₀ X env l c D s) (he : Ev w A mg mb s₀ X env l c D e d)
    (hx : env.kindOf x = some .cell) (ha : env.cells.lookup x = some a) (h : ∀ v s', Cx mg mb s₀ X env l ((x, v) :: c) ((d, v) :: D) s' → wpAny (model pw w) A (execs rest env) Q E s')
    (hs : swapsWith e (some (.Name x px)) pos.line env = pure false := by rfl) : wpAny (model pw w) A (execs (.Assign [.Name x px] e pos :: rest) env) Q E s :=
  wpAny_execs_cons (wpAny_Assign_Name (wpAny_mono (he s E F) (fun v s₁ hv => ((F.keeps hv.1).add hv.2).stC hx ha fun s' F' => h v s' F') fun _ _ e => e) hs)
end
end Mine

end
section
open PySem PySem.W PyProof.Rows
namespace Mine

theorem ltT_trans {x y z : List Nat} (h1 : ltT x y = true) (h2 : ltT y z = true) : ltT x z = true := by
  unfold ltT at *
  simp only [decide_eq_true_eq] at *
  exact List.lt_trans h1 h2
theorem ltT_irrefl (x : List Nat) : ltT x x = false := by
  unfold ltT
  simp only [decide_eq_false_iff_not]
  exact List.lt_irrefl x
theorem ltLL_trans : ∀ {x y z : List (List Nat)}, ltLL x y = true → ltLL y z = true → ltLL x z = true
  | [], _ :: _, _ :: _, _, _ => rfl
  | [], [], _, h, _ => by cases h
  | _ :: _, [], _, h, _ => by cases h
  | _, _ :: _, [], _, h => by cases h
  | a :: xs, b :: ys, c :: zs, h1, h2 => by
    unfold ltLL at h1 h2 ⊢
    by_cases hab : a = b
    · subst hab
      rw [if_pos (by simp)] at h1
      by_cases hac : a = c
      · subst hac
        rw [if_pos (by simp)] at h2 ⊢
        exact ltLL_trans h1 h2
      · rw [if_neg (by simpa using hac)] at h2 ⊢
        exact h2
    · rw [if_neg (by simpa using hab)] at h1
      by_cases hbc : b = c
      · subst hbc
        rw [if_neg (by simpa using hab)]
        exact h1
      · rw [if_neg (by simpa using hbc)] at h2
        have h3 := ltT_trans h1 h2
        by_cases hac : a = c
        · subst hac
          rw [ltT_irrefl] at h3; cases h3
        · rw [if_neg (by simpa using hac)]
          exact h3
theorem ltLL_irrefl : ∀ x : List (List Nat), ltLL x x = false
  | [] => rfl
  | a :: x => by unfold ltLL; rw [if_pos (by simp)]; exact ltLL_irrefl x

theorem fold_mem (g : Bool) : ∀ (xs : List (List (List Nat))) (b : List (List Nat)), xs.foldl (pickL g) b ∈ b :: xs
  | [], b => by simp
  | x :: xs, b => by
    have h := fold_mem g xs (pickL g b x)
    rw [List.foldl_cons]
    rcases List.mem_cons.mp h with h | h
    · rw [h]
      unfold pickL
      split <;> simp
    · exact List.mem_cons_of_mem _ (List.mem_cons_of_mem _ h)
theorem best_mem (g : Bool) {xs : List (List (List Nat))} (h : xs ≠ []) : bestL g xs ∈ xs := by
  cases xs with
  | nil => exact absurd rfl h
  | cons x xs => exact fold_mem g xs x
/-- nothing beats the best -/
theorem fold_best (g : Bool) : ∀ (xs : List (List (List Nat))) (b : List (List Nat)) (P : List (List Nat) → Prop), (∀ y, P y → cmpL g y b = false) → (∀ y, P y ∨ y = b ∨ y ∈ xs → cmpL g y (xs.foldl (pickL g) b) = false)
  | [], b, P, h, y, hy => by
    rcases hy with hy | hy | hy
    · exact h y hy
    · subst hy; unfold cmpL; cases g <;> exact ltLL_irrefl y
    · simp at hy
  | x :: xs, b, P, h, y, hy => by
    rw [List.foldl_cons]
    have tr : ∀ {u v t : List (List Nat)}, cmpL g u v = true → cmpL g v t = true → cmpL g u t = true := fun {u v t} h1 h2 => by
      unfold cmpL at *
      cases g
      · exact ltLL_trans h1 h2
      · exact ltLL_trans h2 h1
    have irr : ∀ u : List (List Nat), cmpL g u u = false := fun u => by unfold cmpL; cases g <;> exact ltLL_irrefl u
    refine fold_best g xs (pickL g b x) (fun y => P y ∨ y = b ∨ y = x) (fun y hy => ?_) y ?_
    · unfold pickL
      cases hx : cmpL g x b with
      | true =>
        simp only [if_true]
        rcases hy with hy | rfl | rfl
        · cases e : cmpL g y x with
          | false => rfl
          | true => have := h y hy; rw [tr e hx] at this; cases this
        · cases e : cmpL g y x with
          | false => rfl
          | true => have := irr y; rw [tr e hx] at this; cases this
        · exact irr y
      | false =>
        simp only [Bool.false_eq_true, if_false]
        rcases hy with hy | rfl | rfl
        · exact h y hy
        · exact irr y
        · exact hx
    · rcases hy with hy | hy | hy
      · exact .inl (.inl hy)
      · exact .inl (.inr (.inl hy))
      · rcases List.mem_cons.mp hy with hy | hy
        · exact .inl (.inr (.inr hy))
        · exact .inr (.inr hy)
theorem best_best (g : Bool) {xs : List (List (List Nat))} {y : List (List Nat)} (h : y ∈ xs) : cmpL g y (bestL g xs) = false := by
  cases xs with
  | nil => simp at h
  | cons x xs => exact fold_best g xs x (fun _ => False) (fun _ h => h.elim) y (.inr (List.mem_cons.mp h))

/-- the longest common beginning -/
noncomputable def lcpL : List (List Nat) → List (List Nat) → List (List Nat)
  | x :: xs, y :: ys => if x == y then x :: lcpL xs ys else []
  | _, _ => []
theorem lcpL_take : ∀ {x y : List (List Nat)} {i : Nat}, x.take i = y.take i → i < x.length → (∀ u v, x[i]? = some u → y[i]? = some v → u ≠ v) → lcpL x y = x.take i
  | [], _, i, _, h, _ => by simp at h
  | a :: x, [], 0, _, _, _ => rfl
  | a :: x, [], i + 1, h, _, _ => by simp at h
  | a :: x, b :: y, 0, _, _, h => by
    have : a ≠ b := h a b rfl rfl
    unfold lcpL
    rw [if_neg (by simpa using this)]; rfl
  | a :: x, b :: y, i + 1, h, hl, hn => by
    simp only [List.take_succ_cons, List.cons.injEq] at h
    unfold lcpL
    rw [if_pos (by simpa using h.1), List.take_succ_cons, lcpL_take h.2 (by simpa using hl) (by simpa using hn)]
theorem lcpL_all : ∀ {x y : List (List Nat)}, x = y.take x.length → lcpL x y = x
  | [], y, _ => by unfold lcpL; rfl
  | a :: x, [], h => by simp at h
  | a :: x, b :: y, h => by
    simp only [List.length_cons, List.take_succ_cons, List.cons.injEq] at h
    unfold lcpL
    rw [if_pos (by simpa using h.1), lcpL_all h.2]
/-- the lesser is no longer than what they share -/
theorem ltLL_pre : ∀ {x y : List (List Nat)} {i : Nat}, x.take i = y.take i → i < x.length → ltLL y x = false → i < y.length
  | [], _, _, _, h, _ => by simp at h
  | a :: x, [], 0, _, _, h => by cases h
  | a :: x, [], i + 1, h, _, _ => by simp at h
  | a :: x, b :: y, 0, _, _, _ => by simp
  | a :: x, b :: y, i + 1, h, hl, hn => by
    simp only [List.take_succ_cons, List.cons.injEq] at h
    unfold ltLL at hn
    rw [if_pos (by simpa using h.1.symm)] at hn
    have := ltLL_pre h.2 (by simpa using hl) hn
    simpa using this

noncomputable def absL (p : List Nat) : Bool := p.head? == some 47
noncomputable def partOk (c : List Nat) : Bool := (c.length != 0) && (c != [46])
noncomputable def partsL (p : List Nat) : List (List Nat) := (splitL p).filter partOk
noncomputable def mixed (ps : List (List Nat)) : Bool := ps.any (fun p => !absL p) && ps.any absL
noncomputable def comL (ps : List (List Nat)) : List Nat := (if ps.any absL then [47] else []) ++ joinL (lcpL (bestL false (ps.map partsL)) (bestL true (ps.map partsL)))

theorem lcp_len : ∀ (x y : List (List Nat)), (lcpL x y).length ≤ x.length
  | [], _ => by unfold lcpL; simp
  | a :: x, [] => by unfold lcpL; simp
  | a :: x, b :: y => by
    unfold lcpL
    split
    · simpa using lcp_len x y
    · simp
theorem best_pre {ps : List (List (List Nat))} (h : ps ≠ []) {i : Nat} (e : (bestL false ps).take i = (bestL true ps).take i) (hl : i < (bestL false ps).length) : i < (bestL true ps).length := by
  refine ltLL_pre e hl ?_
  have := best_best true (best_mem false h)
  exact this
theorem splitL_sum (p : List Nat) : ((splitL p).map (·.length)).sum + (splitL p).length = p.length + 1 := by
  induction p with
  | nil => rfl
  | cons a p ih =>
    have hne := splitL_ne p
    unfold splitL
    cases hs : splitL p with
    | nil => exact absurd hs hne
    | cons q qs =>
      rw [hs] at ih
      simp only [List.map_cons, List.sum_cons, List.length_cons] at ih
      split <;> simp_all <;> omega
end Mine

end
section
open PySem PySem.W PyProof.Rows
namespace Mine

theorem clos1 {scope : Scope} {env : Env} {n1 n2 x : Str} {a : Addr} (h : scope.names = [(n1, .local), (n2, .local), (x, .free)]) (ha : env.cells.lookup x = some a) : closureFor scope env = pure [(x, a)] := by
  unfold closureFor
  rw [h]
  simp [cellOf, ha]
/-- what comes behind an exception in a try -/
noncomputable def onErr (w : World) (A : Around) (env : Env) (hs : List ExceptHandler) (Q : Flow → Shared → Prop) (E : Value → Shared → Prop) (e : Value) (s₁ : Shared) : Prop :=
  wpAny (model pw w) A (noteFrame e env) (fun _ s₂ => wpAny (model pw w) A (setFlight e none) (fun _ s₃ => wpAny (model pw w) A (handleBy e env hs) Q E s₃) E s₂) E s₁
noncomputable def ComJ (s1 s2 : List (List Nat)) (b : Bool) (c : List (Str × Value)) (vsep : Value) (ok : Prop) (cm : List (List Nat)) (L C : List (Str × Value)) (D : List (Da × Value)) : Prop :=
  C = c ∧ ok ∧ ∃ u1 u2 uc, L.lookup ("s1" : Str) = some u1 ∧ L.lookup ("s2" : Str) = some u2 ∧ L.lookup ("common" : Str) = some uc ∧ L.lookup ("isabs" : Str) = some (.bool b) ∧
    (dL s1, u1) ∈ D ∧ (dL s2, u2) ∈ D ∧ (dL cm, uc) ∈ D ∧ (Da.bool b, Value.bool b) ∈ D ∧ (Da.str (S [47]), vsep) ∈ D
theorem filt {α : Type} (l : List α) : (l.filter fun _ => true) = l := List.filter_eq_self.mpr fun _ _ => rfl
noncomputable def sumL (x : List (List Nat)) : Nat := (x.map (·.length)).sum
theorem mem_sum {q : List Nat} : ∀ {x : List (List Nat)}, q ∈ x → q.length ≤ sumL x
  | [], h => by simp at h
  | a :: x, h => by
    simp only [sumL, List.map_cons, List.sum_cons]
    rcases List.mem_cons.mp h with rfl | h
    · omega
    · have := mem_sum h
      simp only [sumL] at this
      omega
theorem sum_take : ∀ (x : List (List Nat)) (n : Nat), sumL (x.take n) ≤ sumL x
  | [], n => by simp
  | a :: x, 0 => by simp [sumL]
  | a :: x, n + 1 => by
    have := sum_take x n
    simp only [sumL, List.take_succ_cons, List.map_cons, List.sum_cons] at this ⊢
    omega
theorem sum_filter (q : List Nat → Bool) : ∀ (x : List (List Nat)), sumL (x.filter q) ≤ sumL x
  | [] => by simp
  | a :: x => by
    have := sum_filter q x
    rw [List.filter_cons]
    split <;> simp only [sumL, List.map_cons, List.sum_cons] at this ⊢ <;> omega
theorem parts_len (p : List Nat) : (partsL p).length ≤ p.length + 1 ∧ sumL (partsL p) ≤ p.length + 1 := by
  have h := splitL_sum p
  have h1 : (partsL p).length ≤ (splitL p).length := List.length_filter_le _ _
  have h2 := sum_filter partOk (splitL p)
  unfold sumL at h2 ⊢
  unfold partsL
  unfold partsL at h1
  omega
theorem lcp_pre : ∀ (x y : List (List Nat)), ∃ n, lcpL x y = x.take n
  | [], _ => ⟨0, by unfold lcpL; rfl⟩
  | a :: x, [] => ⟨0, rfl⟩
  | a :: x, b :: y => by
    unfold lcpL
    split
    · obtain ⟨n, e⟩ := lcp_pre x y
      exact ⟨n + 1, by rw [e]; rfl⟩
    · exact ⟨0, rfl⟩
theorem join_len : ∀ x : List (List Nat), (joinL x).length ≤ sumL x + x.length
  | [] => by simp [joinL]
  | [p] => by simp [joinL, sumL]
  | p :: q :: r => by
    have := join_len (q :: r)
    simp only [joinL, sumL, List.map_cons, List.sum_cons, List.length_append, List.length_cons] at this ⊢
    omega
noncomputable def tryB15 : List Stmt := match bodAt 15 with | _ :: _ :: _ :: .Try b _ _ _ _ :: _ => b | _ => []
noncomputable def hndO15 : List ExceptHandler := match bodAt 15 with | _ :: _ :: _ :: .Try _ h _ _ _ :: _ => h | _ => []
noncomputable def hndI15 : List ExceptHandler := match tryB15 with | _ :: .Try _ h _ _ _ :: _ => h | _ => []

section
variable {w : World} {A : Around} {mg mb : Str → Option Value} {s₀ : Base} {X : Addr → Prop} {env : Env} {l c : List (Str × Value)} {D : List (Da × Value)}

theorem ex_try {body : List Stmt} {h₀ : ExceptHandler} {hs : List ExceptHandler} {pos : Pos} {rest : List Stmt} {Q : Flow → Shared → Prop} {E : Value → Shared → Prop} {s : Shared}
    (h : ∀ Qb Qh : Flow → Shared → Prop, (∀ s₁, wpAny (model pw w) A (execs rest env) Q E s₁ → Qb .next s₁ ∧ Qh .next s₁) → (∀ v s₁, Q (.ret v) s₁ → Qb (.ret v) s₁ ∧ Qh (.ret v) s₁) → wpAny (model pw w) A (execs body env) Qb (onErr w A env (h₀ :: hs) Qh E) s) :
    wpAny (model pw w) A (execs (.Try body (h₀ :: hs) [] [] pos :: rest) env) Q E s := by
  refine wpAny_execs_cons (wpAny_Try_except ?_)
  refine h _ _ (fun s₁ h₁ => ⟨?_, h₁⟩) (fun v s₁ h₁ => ⟨h₁, h₁⟩)
  exact wpAny_execs_nil h₁

theorem clk {x n : Str} {a c' : Addr} (h : List.lookup n [(x, a)] = some c') (ha : env.cells.lookup x = some a) : env.cells.lookup n = some c' := by
  by_cases e : n = x
  · subst e
    simp at h
    rw [← h]; exact ha
  · rw [List.lookup_cons, beq_eq_false_iff_ne.mpr e] at h
    simp at h
theorem swaps_on {elt : Expr} {gens : List Comprehension} {scope : Scope} {pos px : Pos} {t : Str} {n : Nat} (hk : env.blockKind = .function) (ht : env.kindOf t = some .local) (hl : (px.line == pos.line) = true) (hn : (scope.names.any fun (n, k) => n == t && (k == .local || k == .cell)) = false) :
    swapsWith (.ListComp elt gens scope pos) (some (.Name t px)) n env = pure true := by
  show pure (env.blockKind == .function && env.kindOf t == some .local && px.line == pos.line && !(scope.names.any fun (n, k) => n == t && (k == .local || k == .cell))) = pure true
  rw [hk, ht, hl, hn]; rfl
/-- what commonpath does -/
theorem com_body {ps : List (List Nat)} {s : Shared} {Q : Flow → Shared → Prop} {E : Value → Shared → Prop} {v : Value} {as ac : Addr} (hd : A.depth < recursionLimit) (hh : A.handled = none) (hu : A.units + 20 < cLine) (hne : ps ≠ []) (hn : ps.length ≤ 64)
    (hp : ∀ p ∈ ps, p.length < 65536) (hs : env.scope = scoAt 15) (ha : env.cells.lookup ("sep" : Str) = some as) (hc : env.cells.lookup ("curdir" : Str) = some ac) 
    (F : Cx mg mb s₀ X env [("paths", v)] [] [(.list (ps.map fun p => .str (S p)), v)] s)
    (hgood : mixed ps = false → ∀ v l c D s', Cx mg mb s₀ X env l c D s' → Holds X s'.heap (.str (S (comL ps))) v → Q (.ret v) s')
    (hbad : mixed ps = true → ∀ l c D s' h' e tk, Cx mg mb s₀ X env l c D s' → Heap.NewExc s'.heap h' e "ValueError" → ∀ Q₁ Q₂, onErr w A env hndI15 Q₁ (onErr w A env hndO15 Q₂ E) (.ref e) { s' with heap := h', toks := tk }) :
    wpAny (model pw w) A (execs (bodAt 15) env) Q E s := by
  have hsz : sizeLine = 16777216 := sizeLine_eq
  have kd : ∀ {x : Str} {kd : NameKind}, (scoAt 15).names.lookup x = some kd → env.kindOf x = some kd := fun h => kindOf_eq hs h
  have hfun : env.scope.kind = .function := F.kind
  have ksep := kd (x := "sep") (kd := .cell) (by decide +kernel)
  have kcur := kd (x := "curdir") (kd := .cell) (by decide +kernel)
  refine ex_assign F (ev_tuple_map hh hd (kd (by decide +kernel)) (kd (by decide +kernel)) (kd (by decide +kernel)) (ev_local (kd (by decide +kernel)) rfl (.head _)) (by omega)) (kd (by decide +kernel)) fun v₁ s₁ F => ?_
  obtain ⟨p₀, pr, rfl⟩ : ∃ p r, ps = p :: r := by cases ps with
    | nil => exact absurd rfl hne
    | cons p r => exact ⟨p, r, rfl⟩
  refine ex_if (b := false) F (ts_cast (ts_not (ts_tup (ev_local (kd (by decide +kernel)) rfl (.head _)) (by rw [List.length_map]; omega))) rfl) fun s₂ k₂ => wpAny_execs_nil ?_
  have F := F.keeps k₂
  refine ex_if (b := false) F (ts_call (ev_blt (kd (by decide +kernel)) (fun T => T.fr "isinstance" (by decide +kernel)) Boot.«isinstance»
      (evl_cons (ev_itemT (k := 0) (ev_local (kd (by decide +kernel)) rfl (.head _)) ev_int rfl (by decide)) (evl_cons (ev_bname (kd (by decide +kernel)) (fun T => T.fr "bytes" (by decide +kernel)) Boot.«bytes») evl_nil)) b_isi_bytes)) fun s₃ k₃ => ?_
  have F := F.keeps k₃
  refine ex_assignC F (d := .str (S [47])) (ev_cast ev_str (by kernel_rfl)) ksep ha fun v₄ s₄ F => ?_
  refine ex_assignC F (d := .str (S [46])) (ev_cast ev_str (by kernel_rfl)) kcur hc fun v₅ s₅ F => wpAny_execs_nil ?_
  refine ex_try fun Qb Qh hb1 hb2 => ?_
  have hbk : env.blockKind = .function := by unfold Env.blockKind; rw [hs]; rfl
  refine ex_comp (xs := p₀ :: pr) (dat := fun p => .str (S p)) (p := fun _ => true) (f := fun p => .list ((splitL p).map fun q => .str (S q))) (J := J1 "path" fun p => .str (S p)) F (it_tup hh (ev_local (kd (by decide +kernel)) rfl (.tail _ (.tail _ (.head _))))) (by omega)
    (clos1 rfl ha) (fun n c' e => clk e ha) (by decide +kernel) rfl (by decide +kernel) (.inl fun _ _ => rfl) (asg1 (by decide +kernel)) (fun Y cenv e1 e2 p hm L P hj => tsts_nil)
    (fun Y cenv e1 e2 p hm _ L P hj => ?_) (kd (by decide +kernel)) (swaps_on hbk (kd (by decide +kernel)) rfl (by decide +kernel)) fun v₆ s₆ F => ?_
  · obtain ⟨u, l', rfl, rfl⟩ := hj
    have := hp p hm
    exact ev_split (ev_local (kc e1 (by decide +kernel)) rfl (.head _)) (ev_cell (kf e1 hfun ksep (by decide +kernel)) (by rw [e2]; rfl) rfl (.tail _ (.tail _ (.head _)))) (by omega)
  refine ex_try fun Qb2 Qh2 hb3 hb4 => ?_
  refine wpAny_execs_cons (ex_oneset (xs := p₀ :: pr) (dat := fun p => .str (S p)) (f := absL) F hh (it_tup hh (ev_local (kd (by decide +kernel)) rfl (.tail _ (.tail _ (.tail _ (.head _)))))) (by simp)
    (clos1 rfl ha) (fun n c' e => clk e ha) (by decide +kernel) rfl (by decide +kernel) (by decide +kernel) (fun Y cenv e1 e2 p hm L P hj => ?_) (kd (by decide +kernel)) (fun hm s₇ F => wpAny_execs_nil ?_) (fun hm s₇ h' e tk k₇ hx => ?_))
  · obtain ⟨u, l', rfl, rfl⟩ := hj
    exact ev_cast (ev_startswith (y := S [47]) (ev_local (kc e1 (by decide +kernel)) rfl (.head _)) (ev_cell (kf e1 hfun ksep (by decide +kernel)) (by rw [e2]; rfl) rfl (.tail _ (.tail _ (.tail _ (.head _)))))) (by rw [startswith_S]; rfl)
  · refine (hb3 _ ?_).1
    have good := hgood hm
    generalize hb : (p₀ :: pr).any absL = b at F
    have e0 : Da.list (((p₀ :: pr).filter fun _ => true).map fun p => Da.list ((splitL p).map fun q => Da.str (S q))) = Da.list ((p₀ :: pr).map fun p => Da.list ((splitL p).map fun q => Da.str (S q))) := by rw [filt]
    rw [e0] at F
    refine ex_comp (xs := p₀ :: pr) (dat := fun p => .list ((splitL p).map fun q => .str (S q))) (p := fun _ => true) (f := fun p => dL (partsL p)) (J := J1 "s" fun p => .list ((splitL p).map fun q => .str (S q))) F (it_list hh (ev_local (kd (by decide +kernel)) rfl (.tail _ (.head _)))) (by omega)
      (clos1 rfl hc) (fun n c' e => clk e hc) (by decide +kernel) rfl (by decide +kernel) (.inl fun _ _ => rfl) (asg1 (by decide +kernel)) (fun Y cenv e1 e2 p hm L P hj => tsts_nil)
      (fun Y cenv e1 e2 p hm _ L P hj => ?_) (kd (by decide +kernel)) (swaps_on hbk (kd (by decide +kernel)) rfl (by decide +kernel)) fun v₈ s₈ F => ?_
    · obtain ⟨u, l', rfl, rfl⟩ := hj
      have hpl := hp p hm
      have hf1 : cenv.scope.kind = .function := by rw [e1]; rfl
      have hc1 : cenv.cells.lookup ("curdir" : Str) = some ac := by rw [e2]; rfl
      have kc1 : cenv.kindOf ("curdir" : Str) = some .cell := kf e1 hfun kcur (by decide +kernel)
      have hsl := splitL_sum p
      refine ev_cast (ev_comp (xs := splitL p) (dat := fun q => .str (S q)) (p := partOk) (f := fun q => .str (S q)) (J := J1 "c" fun q => .str (S q)) (it_list hh (ev_local (kc e1 (by decide +kernel)) rfl (.head _))) (by omega)
        (clos1 rfl hc1) (fun n c' e => clk e hc1) (by decide +kernel) rfl (by decide +kernel) (.inl fun _ _ => rfl) (asg1 (by decide +kernel)) (fun Y2 cenv2 f1 f2 q hq L2 P2 hj2 => ?_) (fun Y2 cenv2 f1 f2 q hq _ L2 P2 hj2 => ?_)) rfl
      · obtain ⟨u2, l2, rfl, rfl⟩ := hj2
        have hql : q.length < 2 ^ 62 := by
          have h1 := mem_sum hq
          unfold sumL at h1
          omega
        exact tsts_one (ts_cast (ts_and (ts_str (ev_local (d := .str (S q)) (kc f1 (by decide +kernel)) rfl (.head _)) (by rw [S_len]; exact hql)) fun _ => ts_neS (ev_local (d := .str (S q)) (kc f1 (by decide +kernel)) rfl (.head _))
          (ev_cell (d := .str (S [46])) (kf f1 hf1 kc1 (by decide +kernel)) (by rw [f2]; rfl) rfl (.tail _ (.tail _ (.tail _ (.tail _ (.head _))))))) (by rw [S_len]; rfl))
      · obtain ⟨u2, l2, rfl, rfl⟩ := hj2
        exact ev_local (kc f1 (by decide +kernel)) rfl (.head _)
    have e1 : Da.list (((p₀ :: pr).filter fun _ => true).map fun p => dL (partsL p)) = Da.list (((p₀ :: pr).map partsL).map dL) := by rw [filt, List.map_map]; rfl
    rw [e1] at F
    refine ex_assign F (ev_blt (kd (by decide +kernel)) (fun T => T.fr "min" (by decide +kernel)) Boot.«min» (evl_cons (ev_local (d := .list (((p₀ :: pr).map partsL).map dL)) (kd (by decide +kernel)) rfl (.head _)) evl_nil) (b_min (x := partsL p₀) (xss := pr.map partsL) hh (by omega))) (kd (by decide +kernel)) fun v₉ s₉ F => ?_
    refine ex_assign F (ev_blt (kd (by decide +kernel)) (fun T => T.fr "max" (by decide +kernel)) Boot.«max» (evl_cons (ev_local (d := .list (((p₀ :: pr).map partsL).map dL)) (kd (by decide +kernel)) rfl (.tail _ (.head _))) evl_nil) (b_max (x := partsL p₀) (xss := pr.map partsL) hh (by omega))) (kd (by decide +kernel)) fun v₁₀ s₁₀ F => ?_
    have hss : ∃ p ∈ p₀ :: pr, bestL false (partsL p₀ :: pr.map partsL) = partsL p := by
      have := best_mem false (xs := (p₀ :: pr).map partsL) (by simp)
      obtain ⟨p, hp1, hp2⟩ := List.mem_map.mp this
      exact ⟨p, hp1, hp2.symm⟩
    have hpre : ∀ i, (bestL false (partsL p₀ :: pr.map partsL)).take i = (bestL true (partsL p₀ :: pr.map partsL)).take i → i < (bestL false (partsL p₀ :: pr.map partsL)).length → i < (bestL true (partsL p₀ :: pr.map partsL)).length :=
      fun i h1 h2 => best_pre (by simp) h1 h2
    have good : ∀ v l c D s', Cx mg mb s₀ X env l c D s' → Holds X s'.heap (.str (S ((if b then [47] else []) ++ joinL (lcpL (bestL false (partsL p₀ :: pr.map partsL)) (bestL true (partsL p₀ :: pr.map partsL)))))) v → Q (.ret v) s' := by
      rw [← hb]; exact good
    generalize hs1 : bestL false (partsL p₀ :: pr.map partsL) = x1 at F hss hpre good
    generalize hs2 : bestL true (partsL p₀ :: pr.map partsL) = x2 at F hpre good
    obtain ⟨pm, hpm, hx1⟩ := hss
    have hl1 := parts_len pm
    rw [← hx1] at hl1
    have hpl := hp pm hpm
    refine ex_assign F (ev_local (d := dL x1) (kd (by decide +kernel)) rfl (.tail _ (.head _))) (kd (by decide +kernel)) fun v₁₁ s₁₁ F => ?_
    refine ex_for (xs := x1.zipIdx) (dat := fun p => .tup [.int p.2, .str (S p.1)]) (J := fun i => ComJ x1 x2 b [("curdir", v₅), ("sep", v₄)] v₄ (x1.take i = x2.take i) x1) (JB := ComJ x1 x2 b [("curdir", v₅), ("sep", v₄)] v₄ True (lcpL x1 x2)) F
      (it_enum hh (kd (by decide +kernel)) (ev_local (d := dL x1) (kd (by decide +kernel)) rfl (.tail _ (.tail _ (.head _)))))
      ⟨rfl, rfl, v₉, v₁₀, v₁₁, rfl, rfl, rfl, rfl, .tail _ (.tail _ (.head _)), .tail _ (.head _), .head _, .tail _ (.tail _ (.tail _ (.tail _ (.head _)))), .tail _ (.tail _ (.tail _ (.tail _ (.tail _ (.tail _ (.tail _ (.head _)))))))⟩
      (.inr ⟨_, _, _, rfl⟩) (fun Y s₂ i px L C D' s v E' hx hJ hY _ F hv => ?_) fun L C D' s' hJ F => ?_
    · obtain ⟨rfl, hok, u1, u2, uc, l1, l2, lc, lb, m1, m2, mc, mb', ms⟩ := hJ
      obtain ⟨q, j⟩ := px
      rw [List.getElem?_zipIdx] at hx
      cases hq : x1[i]? with
      | none => rw [hq] at hx; cases hx
      | some q' =>
      rw [hq] at hx
      simp at hx
      obtain ⟨rfl, rfl⟩ := hx
      have hlt : i < x1.length := (List.getElem?_eq_some_iff.mp hq).1
      have hlt2 := hpre i hok hlt
      refine asg_pair F hh hv (kd (by decide +kernel)) (kd (by decide +kernel)) fun vi vc s₃ F => ?_
      refine ex_if F (ts_neS (x := q') (y := x2[i]) (ev_local (kd (by decide +kernel)) rfl (.head _)) (ev_itemL (k := i) (ds := x2.map fun p => Da.str (S p)) (ev_local (kd (by decide +kernel)) (lkc (by decide +kernel) (lkc (by decide +kernel) l2)) (.tail _ (.tail _ m2)))
        (ev_local (kd (by decide +kernel)) (lkc (by decide +kernel) lkh) (.tail _ (.head _))) (by rw [List.getElem?_map, List.getElem?_eq_getElem hlt2]; rfl) (by omega))) fun s₄ k₄ => ?_
      have F := F.keeps k₄
      have hq2 : x2[i]? = some x2[i] := List.getElem?_eq_getElem hlt2
      cases hne : q' != x2[i] with
      | true =>
        have hlcp : lcpL x1 x2 = x1.take i := lcpL_take hok hlt fun a b h1 h2 => by
          rw [hq] at h1; rw [hq2] at h2; cases h1; cases h2; simpa using hne
        refine ex_assign F (ev_cutL (a := none) (b := some i) (ev_local (d := dL x1) (kd (by decide +kernel)) (lkc (by decide +kernel) (lkc (by decide +kernel) l1)) (.tail _ (.tail _ m1))) part_none (part_some (ev_local (kd (by decide +kernel)) (lkc (by decide +kernel) lkh) (.tail _ (.head _)))) (by rw [List.length_map]; omega)) (kd (by decide +kernel)) fun v₅ s₅ F => ?_
        have ecut : Da.list (cutL none (some i) (x1.map fun p => Da.str (S p))) = dL (lcpL x1 x2) := by rw [hlcp]; simp [cutL, dL, List.map_take]
        rw [ecut] at F
        refine wpAny_execs_cons (wpAny_Break ?_)
        exact ⟨_, _, _, ⟨rfl, trivial, u1, u2, v₅, lkc (by decide +kernel) (lkc (by decide +kernel) (lkc (by decide +kernel) l1)), lkc (by decide +kernel) (lkc (by decide +kernel) (lkc (by decide +kernel) l2)), lkh, lkc (by decide +kernel) (lkc (by decide +kernel) (lkc (by decide +kernel) lb)),
          .tail _ (.tail _ (.tail _ m1)), .tail _ (.tail _ (.tail _ m2)), .head _, .tail _ (.tail _ (.tail _ mb')), .tail _ (.tail _ (.tail _ ms))⟩, F⟩
      | false =>
        refine wpAny_execs_nil (wpAny_execs_nil ⟨_, _, _, ⟨rfl, ?_, u1, u2, uc, lkc (by decide +kernel) (lkc (by decide +kernel) l1), lkc (by decide +kernel) (lkc (by decide +kernel) l2), lkc (by decide +kernel) (lkc (by decide +kernel) lc), lkc (by decide +kernel) (lkc (by decide +kernel) lb),
          .tail _ (.tail _ m1), .tail _ (.tail _ m2), .tail _ (.tail _ mc), .tail _ (.tail _ mb'), .tail _ (.tail _ ms)⟩, F⟩)
        have : q' = x2[i] := by simpa using hne
        rw [List.take_add_one, List.take_add_one, hok, hq, hq2, this]
    · have hJ' : ∃ ok, ComJ x1 x2 b [("curdir", v₅), ("sep", v₄)] v₄ ok (lcpL x1 x2) L C D' := by
        rcases hJ with hJ | hJ
        · have hok := hJ.2.1
          rw [List.length_zipIdx, List.take_length] at hok
          refine ⟨x1.take x1.zipIdx.length = x2.take x1.zipIdx.length, ?_⟩
          rw [lcpL_all hok]; exact hJ
        · exact ⟨True, hJ⟩
      obtain ⟨ok, rfl, _, u1, u2, uc, l1, l2, lc, lb, m1, m2, mc, mb', ms⟩ := hJ'
      obtain ⟨n, hn'⟩ := lcp_pre x1 x2
      have hj := join_len (lcpL x1 x2)
      have hs1 := sum_take x1 n
      have hll : (lcpL x1 x2).length ≤ x1.length := lcp_len _ _
      rw [← hn'] at hs1
      have hsum : ((lcpL x1 x2).map (·.length)).sum ≤ x1.length + pm.length + 1 := by unfold sumL at hs1 hl1; omega
      refine ex_assign F (d := .str (S (if b then [47] else []))) (ev_ifexp (ts_bool (ev_local (kd (by decide +kernel)) lb mb')) (fun e => ev_cast (ev_cell (d := .str (S [47])) ksep ha rfl ms) (by rw [e]; rfl))
        (fun e => ev_cast (ev_cutS (k := 0) (ev_cell (d := .str (S [47])) ksep ha rfl ms) ev_int (by rw [hsz]; decide)) (by rw [e]; rfl))) (kd (by decide +kernel)) fun v₁₂ s₁₂ F => ?_
      refine ex_ret F (ev_addS (y := joinL (lcpL x1 x2)) (ev_local (d := .str (S (if b then [47] else []))) (kd (by decide +kernel)) lkh (.head _)) (ev_cast (ev_join (y := [47]) (ps := lcpL x1 x2) (ev_cell ksep ha rfl (.tail _ ms)) (ev_local (d := dL (lcpL x1 x2)) (kd (by decide +kernel)) (lkc (by decide +kernel) lc) (.tail _ mc))
        (by simp only [List.length_cons, List.length_nil]; omega)) (by rw [join_S])) ?_) fun v₁₃ s₁₃ k₁₃ h₁₃ => ?_
      · have : (if b then [47] else [] : List Nat).length ≤ 1 := by cases b <;> decide
        omega
      · exact (hb2 _ _ (good _ _ _ _ _ (F.keeps k₁₃) h₁₃)).1
  · exact hbad hm _ _ _ _ _ _ _ (F.keeps k₇) hx _ _
end
end Mine

end
section
open PySem PySem.W PyProof.Rows
namespace Mine
theorem cells15 (n : Nat) : (cellsFrom n (scoAt 15).names []).lookup ("sep" : Str) = some n ∧ (cellsFrom n (scoAt 15).names []).lookup ("curdir" : Str) = some (n + 1) := by
  have h : cellsFrom n (scoAt 15).names [] = [(("curdir" : Str), n + 1), (("sep" : Str), n)] := by rfl
  rw [h]
  constructor
  · rw [List.lookup_cons, show ((("sep" : Str) == ("curdir" : Str)) = false) from by decide +kernel]; simp
  · simp
section
variable {w : World} {A : Around}
theorem com_spec {ps : List (List Nat)} (hd : A.depth + 1 < recursionLimit) (hh : A.handled = none) (hu : A.units + 30 < cLine) (hne : ps ≠ []) (hn : ps.length ≤ 64) (hp : ∀ p ∈ ps, p.length < 65536) (hm : mixed ps = false) :
    Spec w A "commonpath" 15 [.list (ps.map fun p => .str (S p))] (.str (S (comL ps))) := by
  refine enter (ps := ["paths"]) (by omega) (fun pm cd doc vs hl => ?_) (by decide +kernel) rfl rfl rfl ?_
  · match vs, hl with
    | [v], _ => rfl
  · intro X mg mb s s' E a env vs hs hc hh' hl _ _ _ F
    match vs, hl with
    | [v], _ =>
    have h15 := cells15 (env.locals + 1)
    rw [← hc] at h15
    refine com_body (A := A.deeper env) hd hh (by rw [Around.deeper_units]; omega) hne hn hp hs h15.1 h15.2 F (fun _ v l c D s' F' h' => ⟨F'.done, h'⟩) (fun h => absurd h (by rw [hm]; decide))
end
end Mine

end
section
open PySem PySem.W PyProof.Rows
namespace Mine

noncomputable abbrev h0 : Heap := {}
noncomputable abbrev frs (l : List Env) : List Addr := l.filterMap (·.frame)
/-- an exception flies -/
structure Err (h₀ : Heap) (l : List Env) (e : Addr) (cx fl : Value) (h : Heap) : Prop where
  keep : ∀ b o, h₀.get? b = some o → b ∉ frs l → h.get? b = some o
  slot : ∀ b o, h₀.get? b = some o → ∃ sl, h.get? b = some { o with slots := sl }
  new : h₀.get? e = none
  fr : h.FunFrames h0 l
  exc : ∃ oe vs T oT ts, h.get? e = some oe ∧ oe.cls = .type "ValueError" ∧ oe.data = .fields vs ∧ vs[1]? = some (.ref T) ∧ vs[2]? = some cx ∧ h₀.get? T = none ∧ T ≠ e ∧ h.get? T = some oT ∧ oT.data = .fields ts ∧ ts[3]? = some fl
/-- an exception that no frame has noted -/
structure Raw (h₀ : Heap) (l : List Env) (e : Addr) (cx : Value) (h : Heap) : Prop where
  keep : ∀ b o, h₀.get? b = some o → b ∉ frs l → h.get? b = some o
  slot : ∀ b o, h₀.get? b = some o → ∃ sl, h.get? b = some { o with slots := sl }
  new : h₀.get? e = none
  fr : h.FunFrames h0 l
  exc : ∃ oe vs, h.get? e = some oe ∧ oe.cls = .type "ValueError" ∧ oe.data = .fields vs ∧ vs[1]? = some .none ∧ vs[2]? = some cx

section
variable {M : Model} {A : Around} {E : Value → Shared → Prop} {s : Shared}

theorem fr_ne {h : Heap} {l : List Env} {e : Addr} {oe : Obj} {vs : Array Value} (hl : h.FunFrames h0 l) (he : h.get? e = some oe) (hd : oe.data = .fields vs) : e ∉ frs l := fun hm => by
  obtain ⟨_, o, ho, hnf⟩ := hl.mem hm
  rw [he] at ho; injection ho with ho; subst ho; exact hnf vs hd

theorem entryX {env : Env} {outer : List Env} {L e : Addr} {oe : Obj} {vs : Array Value} {head : Value} {hadNext : Bool} {Q : Unit → Shared → Prop}
    (hfr : A.frames = some (env :: outer)) (hl : s.heap.FunFrames h0 (env :: outer)) (hf : env.frame = some L)
    (he : s.heap.get? e = some oe) (hd : oe.data = .fields vs) (hsz : 1 < vs.size)
    (h : ∀ h' T oT ts, (∀ b o, b ≠ e → s.heap.get? b = some o → (b ∉ frs (env :: outer) → h'.get? b = some o) ∧ ∃ sl, h'.get? b = some { o with slots := sl }) →
      h'.get? e = some (oe.mapFields (·.setIfInBounds 1 (.ref T))) → s.heap.get? T = none → T ≠ e → h'.get? T = some oT → oT.data = .fields ts → ts[3]? = some (rawInt L) → Q () { s with heap := h' }) :
    wpAny M A (do let a ← frameOf env; let pl ← entryPlaceOf L hadNext; let b ← EntryCells.newEntry head a .none (rawInt L) .none pl; setField (.ref e) 1 b) Q E s := by
  have hene := fr_ne hl he hd
  refine wpAny_bind (wpAny_frameOf_fun hfr hl hf fun h₁ hs₁ => ?_)
  refine wpAny_bind (wpAny_entryPlaceOf fun pl hpl => ?_)
  unfold EntryCells.newEntry newFields
  refine wpAny_bind (wpAny_newObj_type ?_ (hpl.sizeOk5 _ _ _ _ _))
  have he₁ : h₁.get? e = some oe := (hs₁.2.1 e hene).trans he
  have hTe : h₁.objs.size ≠ e := Nat.ne_of_gt (Heap.lt_size he₁)
  have he₂ := Heap.get?_push_of_some (h := h₁) { cls := .type "traceback", dict := none, data := .fields ([head, .ref L, .none, rawInt L, .none] ++ (if pl.isEmpty then List.replicate 6 Value.none else pl)).toArray } he₁
  have hd₃ := Obj.data_mapFields hd (·.setIfInBounds 1 (Value.ref h₁.objs.size))
  have he₃ := Heap.get?_update_self (Obj.mapFields (·.setIfInBounds 1 (Value.ref h₁.objs.size))) he₂ (Obj.isFreed_of_fields hd₃)
  have hT₃ := (Heap.get?_update_other (h₁.push { cls := .type "traceback", dict := none, data := .fields ([head, .ref L, .none, rawInt L, .none] ++ (if pl.isEmpty then List.replicate 6 Value.none else pl)).toArray })
    (Obj.mapFields (·.setIfInBounds 1 (Value.ref h₁.objs.size))) (Ne.symm hTe)).trans (Heap.get?_push_size h₁ rfl)
  have nT : s.heap.get? h₁.objs.size = none := Heap.get?_none_of_le (by rw [hs₁.1]; exact Nat.le_refl _)
  refine wpAny_setField he₂ hd hsz (h _ h₁.objs.size _ _ (fun b o hbe hb => ?_) he₃ nT hTe hT₃ rfl (by first | (simp; done) | (rcases hpl with rfl | ⟨_, _, _, _, _, _, _, rfl⟩ <;> simp)))
  have keep : ∀ b o, b ≠ e → h₁.get? b = some o →
      ((h₁.push { cls := .type "traceback", dict := none, data := .fields ([head, .ref L, .none, rawInt L, .none] ++ (if pl.isEmpty then List.replicate 6 Value.none else pl)).toArray }).update e (Obj.mapFields (·.setIfInBounds 1 (Value.ref h₁.objs.size)))).get? b = some o :=
    fun b o hbe hb => by
      rw [Heap.get?_update_other _ _ (Ne.symm hbe)]
      exact Heap.get?_push_of_some _ hb
  refine ⟨fun hb' => keep b o hbe ((hs₁.2.1 b hb').trans hb), ?_⟩
  obtain ⟨sl, q⟩ := hs₁.2.2 b o hb
  exact ⟨sl, keep b _ hbe q⟩

theorem FunFrames.by {h h' : Heap} {l : List Env} (hl : h.FunFrames h0 l) (k : ∀ b o, h.get? b = some o → (∀ vs, o.data ≠ .fields vs) → ∃ sl, h'.get? b = some { o with slots := sl }) : h'.FunFrames h0 l :=
  hl.of_keeps fun b o e hn => let ⟨sl, q⟩ := k b o e hn; ⟨_, q, rfl⟩

theorem note_new {h₀ : Heap} {env : Env} {outer : List Env} {L e : Addr} {cx : Value} {Q : Unit → Shared → Prop} (hfr : A.frames = some (env :: outer)) (hf : env.frame = some L) (R : Raw h₀ (env :: outer) e cx s.heap)
    (h : ∀ h', Err h₀ (env :: outer) e cx (rawInt L) h' → Q () { s with heap := h' }) : wpAny M A (noteFrame (.ref e) env) Q E s := by
  obtain ⟨oe, vs, he, hc, hd, h1, hcx⟩ := R.exc
  unfold noteFrame
  simp only [hf]
  refine wpAny_bind (wpAny_field he hd h1 ?_)
  rw [if_neg (by decide)]
  refine entryX hfr R.fr hf he hd (Array.getElem?_eq_some_iff.mp h1).1 fun h' T oT ts k he' nT hTe hT hdT h3 => h h' ?_
  have nh0 : ∀ b o, h₀.get? b = some o → b ≠ e := fun b o q r => by rw [r, R.new] at q; cases q
  refine ⟨fun b o q hb => (k b o (nh0 b o q) (R.keep b o q hb)).1 hb, fun b o q => ?_, R.new, FunFrames.by R.fr fun b o q hn => (k b o (fun r => by rw [r, he] at q; cases q; exact hn vs hd) q).2, ?_⟩
  · obtain ⟨sl, q'⟩ := R.slot b o q
    obtain ⟨sl', q''⟩ := (k b _ (nh0 b o q) q').2
    exact ⟨sl', q''⟩
  · refine ⟨_, _, T, oT, ts, he', (Obj.cls_mapFields _ _).trans hc, Obj.data_mapFields hd _, by simp [(Array.getElem?_eq_some_iff.mp h1).1], by rw [Array.getElem?_setIfInBounds_ne (by decide)]; exact hcx, ?_, hTe, hT, hdT, h3⟩
    cases q : h₀.get? T with
    | none => rfl
    | some o => obtain ⟨sl, q'⟩ := R.slot T o q; rw [nT] at q'; cases q'

theorem note_again {h₀ : Heap} {l : List Env} {env : Env} {L e : Addr} {cx : Value} {Q : Unit → Shared → Prop} (hf : env.frame = some L) (R : Err h₀ l e cx (rawInt L) s.heap) (h : Q () s) : wpAny M A (noteFrame (.ref e) env) Q E s := by
  obtain ⟨oe, vs, T, oT, ts, he, hcls, hd, h1, hcx, hnT, hTe, hT, hdT, h3⟩ := R.exc
  unfold noteFrame
  simp only [hf]
  refine wpAny_bind (wpAny_field he hd h1 ?_)
  rw [if_pos (show (Value.ref T != Value.none) = true from by simp)]
  refine wpAny_bind (wpAny_field hT hdT h3 ?_)
  rw [if_pos (show (rawInt L == rawInt L) = true from by simp)]
  exact wpAny_pure h

/-- the traceback's flag is set -/
theorem Err.flag {h₀ h : Heap} {l : List Env} {e T : Addr} {cx fl fl' : Value} {oe oT : Obj} {vs ts : Array Value} (R : Err h₀ l e cx fl h) (he : h.get? e = some oe) (hc : oe.cls = .type "ValueError") (hd : oe.data = .fields vs) (h1 : vs[1]? = some (.ref T)) (hcx : vs[2]? = some cx) (hnT : h₀.get? T = none) (hTe : T ≠ e)
    (hT : h.get? T = some oT) (hdT : oT.data = .fields ts) (h3 : 3 < ts.size) : Err h₀ l e cx fl' (h.update T (Obj.mapFields (·.setIfInBounds 3 fl'))) := by
  have other : ∀ b, b ≠ T → (h.update T (Obj.mapFields (·.setIfInBounds 3 fl'))).get? b = h.get? b := fun b hb => Heap.get?_update_other _ _ (Ne.symm hb)
  have nh0 : ∀ b o, h₀.get? b = some o → b ≠ T := fun b o q r => by rw [r, hnT] at q; cases q
  refine ⟨fun b o q hb => (other b (nh0 b o q)).trans (R.keep b o q hb), fun b o q => ?_, R.new, FunFrames.by R.fr fun b o q hn => ⟨o.slots, (other b fun r => by rw [r, hT] at q; cases q; exact hn ts hdT).trans q⟩, ?_⟩
  · obtain ⟨sl, q'⟩ := R.slot b o q
    exact ⟨sl, (other b (nh0 b o q)).trans q'⟩
  · exact ⟨oe, vs, T, _, _, (other e (Ne.symm hTe)).trans he, hc, hd, h1, hcx, hnT, hTe, Heap.get?_update_self _ hT (Obj.isFreed_of_fields (Obj.data_mapFields hdT _)), Obj.data_mapFields hdT _, by simp [h3]⟩

theorem flight {h₀ : Heap} {l : List Env} {e : Addr} {cx fl : Value} {f : Option Addr} {Q : Unit → Shared → Prop} (R : Err h₀ l e cx fl s.heap)
    (h : ∀ h', Err h₀ l e cx (f.elim .none fun f => rawInt f) h' → Q () { s with heap := h' }) : wpAny M A (setFlight (.ref e) f) Q E s := by
  obtain ⟨oe, vs, T, oT, ts, he, hcls, hd, h1, hcx, hnT, hTe, hT, hdT, h3⟩ := id R.exc
  have hsz3 : 3 < ts.size := (Array.getElem?_eq_some_iff.mp h3).1
  unfold setFlight
  refine wpAny_bind (wpAny_field he hd h1 ?_)
  rw [if_pos (show (Value.ref T != Value.none) = true from by simp)]
  exact wpAny_setField hT hdT hsz3 (h _ (R.flag he hcls hd h1 hcx hnT hTe hT hdT hsz3))

theorem note_next {h₀ : Heap} {env : Env} {outer : List Env} {L e : Addr} {cx : Value} {Q : Unit → Shared → Prop} (hfr : A.frames = some (env :: outer)) (hf : env.frame = some L) (R : Err h₀ (env :: outer) e cx .none s.heap)
    (h : ∀ h', Err h₀ (env :: outer) e cx (rawInt L) h' → Q () { s with heap := h' }) : wpAny M A (noteFrame (.ref e) env) Q E s := by
  obtain ⟨oe, vs, T, oT, ts, he, hcls, hd, h1, hcx, hnT, hTe, hT, hdT, h3⟩ := id R.exc
  have hsz3 : 3 < ts.size := (Array.getElem?_eq_some_iff.mp h3).1
  unfold noteFrame
  simp only [hf]
  refine wpAny_bind (wpAny_field he hd h1 ?_)
  rw [if_pos (show (Value.ref T != Value.none) = true from by simp)]
  refine wpAny_bind (wpAny_field hT hdT h3 ?_)
  rw [if_neg (show ¬ ((Value.none == rawInt L) = true) from by simp [rawInt])]
  have R2 := R.flag (fl' := .none) he hcls hd h1 hcx hnT hTe hT hdT hsz3
  refine wpAny_bind (wpAny_setField hT hdT hsz3 ?_)
  have he2 : (s.heap.update T (Obj.mapFields (·.setIfInBounds 3 Value.none))).get? e = some oe := (Heap.get?_update_other _ _ hTe).trans he
  refine entryX (s := { s with heap := s.heap.update T (Obj.mapFields (·.setIfInBounds 3 Value.none)) }) hfr R2.fr hf he2 hd (Array.getElem?_eq_some_iff.mp h1).1 fun h' T' oT' ts' k he' nT hTe' hT' hdT' h3' => h h' ?_
  have nh0 : ∀ b o, h₀.get? b = some o → b ≠ e := fun b o q r => by rw [r, R.new] at q; cases q
  refine ⟨fun b o q hb => (k b o (nh0 b o q) (R2.keep b o q hb)).1 hb, fun b o q => ?_, R.new, FunFrames.by R2.fr fun b o q hn => (k b o (fun r => by rw [r, he2] at q; cases q; exact hn vs hd) q).2, ?_⟩
  · obtain ⟨sl, q'⟩ := R2.slot b o q
    obtain ⟨sl', q''⟩ := (k b _ (nh0 b o q) q').2
    exact ⟨sl', q''⟩
  · refine ⟨_, _, T', oT', ts', he', (Obj.cls_mapFields _ _).trans hcls, Obj.data_mapFields hd _, by simp [(Array.getElem?_eq_some_iff.mp h1).1], by rw [Array.getElem?_setIfInBounds_ne (by decide)]; exact hcx, ?_, hTe', hT', hdT', h3'⟩
    cases q : h₀.get? T' with
    | none => rfl
    | some o => obtain ⟨sl, q'⟩ := R2.slot T' o q; rw [nT] at q'; cases q'
end
end Mine

end
section
open PySem PySem.W PyProof.Rows
namespace Mine

theorem entry_unchain : entryFor table "proto.unchain" = some Builtin.«proto.unchain» := entryFor_of_tree (by kernel_rfl)
theorem plain_unchain : plainId "proto.unchain" = true := by decide +kernel

section
variable {w : World} {A : Around} {mg mb : Str → Option Value} {env : Env} {s : Shared} {E : Value → Shared → Prop}

/-- a built-in's name, without a context -/
theorem ld_blt (T : TopF mg mb s.heap) (hk : env.scope.kind = .function) (hg : env.globals = mainGlobals) (hb : env.builtins = builtinsNs) {x : Str} {v : Value} {pos : Pos} {Q : Value → Shared → Prop} {M : Model} (hx : env.kindOf x = some .globalImplicit) (hm : mg x = none) (hn : x ≠ "__name__") (hv : bootBuiltins x = some v) (h : Q v s)
    (hd : (x == ("__debug__" : Str)) = false) : wpAny M A (eval (.Name x pos) env) Q E s :=
  Calls.Name_function_global hk hx (Calls.loadGlobal_builtin (by rw [hg]; exact T.g) hm (by rw [hb]; exact T.b) ((T.blt x hn).trans hv) h) hd

/-- raise ValueError(text) from None, in a handler -/
theorem raise_from {h₀ : Heap} {l : List Env} {e₁ : Addr} {m : Str} {k k2 : Nat} {np cp p2 p3 pos : Pos} {Q : Flow → Shared → Prop} (R : Err h₀ l e₁ .none .none s.heap) (T : TopF mg mb s.heap) (hk : env.scope.kind = .function) (hg : env.globals = mainGlobals) (hb : env.builtins = builtinsNs)
    (hx : env.kindOf ("ValueError" : Str) = some .globalImplicit) (hA : A.handled = some (.ref e₁)) (hu : A.units + 2 < cLine)
    (h : ∀ h' e tk, Raw h₀ l e (.ref e₁) h' → (∀ b o, s.heap.get? b = some o → h'.get? b = some o) → E (.ref e) { s with heap := h', toks := tk }) :
    wpAny (model pw w) A (exec (.Raise (some (.Call (.Name "ValueError" np) [.Constant (.str m) k p2] [] cp)) (some (.Constant .none k2 p3)) pos) env) Q E s := by
  rw [arm_exec_Raise]
  refine wpAny_bind (wpAny_standAt ?_)
  show wpAny _ _ (raiseStmt env (some (do let v ← eval (.Call (.Name "ValueError" np) [.Constant (.str m) k p2] [] cp) env; standAt pos; pure v)) (some (do let v ← eval (.Constant .none k2 p3) env; standAt pos; pure v))) _ _ _
  unfold raiseStmt
  dsimp only
  refine wpAny_bind (wpAny_bind ?_)
  show wpAny _ A (eval (.Name "ValueError" np) env >>= fun fv => callWith cp fv [] (backTo cp (starEach [.Constant (.str m) k p2] env)) (backToKw cp (keywordEach [] env))) _ _ s
  refine wpAny_bind (ld_blt T hk hg hb hx (T.fr "ValueError" (by decide +kernel)) (by decide +kernel) Boot.«ValueError» ?_ (by decide +kernel))
  refine PySem.callWith_type rfl (evalArgs_of rfl (wpAny_items_cons (wpAny_Constant_str (wpAny_items_nil ?_)) rfl))
  refine call_exc excClass_ValueError fun h₁ e hx₁ => ?_
  dsimp only at hx₁ ⊢
  obtain ⟨ob, t, he, hcls, hd⟩ := hx₁.there
  have kp := hx₁.keeps
  refine wpAny_bind (wpAny_standAt (wpAny_pure ?_))
  refine wpAny_bind (wpAny_holding (wpAny_bind (wpAny_Constant_none (wpAny_bind (wpAny_standAt (wpAny_pure ?_))))))
  refine wpAny_bind (wpAny_pure ?_)
  generalize hs1 : s.toks + 1 = tk1
  have he' : Shared.heap ⟨h₁, s.gens, s.drawn, tk1, s.os⟩ = h₁ := rfl
  have hT : Shared.TypeIs ⟨h₁, s.gens, s.drawn, tk1, s.os⟩ (.ref e) "ValueError" := ⟨ob, he, hcls⟩
  refine wpAny_bind (wpAny_holding ?_)
  unfold excFromValue isExcClass
  refine wpAny_bind (wpAny_bind ?_)
  simp only [isType, loadHead]
  refine wpAny_bind (wpAny_loadPart he ?_)
  rw [hd]
  refine wpAny_pure ?_
  simp only [Bool.false_eq_true, if_false]
  refine wpAny_pure ?_
  simp only [Bool.false_eq_true, if_false]
  refine wpAny_bind (wpAny_isInstance hT excClass_ValueError.base ?_)
  simp only [if_true]
  refine wpAny_pure ?_
  rw [if_pos (by simp)]
  refine wpAny_bind (wpAny_pure ?_)
  refine wpAny_bind (wpAny_setField he hd (by simp) ?_)
  have hd2 := Obj.data_mapFields hd (·.setIfInBounds 3 .none)
  have he2 := Heap.get?_update_self (Obj.mapFields (·.setIfInBounds 3 .none)) he (Obj.isFreed_of_fields hd2)
  refine wpAny_bind (wpAny_setField he2 hd2 (by simp) ?_)
  have hd3 := Obj.data_mapFields hd2 (·.setIfInBounds 4 (.bool true))
  have he3 := Heap.get?_update_self (Obj.mapFields (·.setIfInBounds 4 (.bool true))) he2 (Obj.isFreed_of_fields hd3)
  have hc3 : (Obj.mapFields (·.setIfInBounds 4 (.bool true)) (Obj.mapFields (·.setIfInBounds 3 .none) ob)).cls = .type "ValueError" := (Obj.cls_mapFields _ _).trans ((Obj.cls_mapFields _ _).trans hcls)
  have up : ∀ b o, s.heap.get? b = some o → ((h₁.update e (Obj.mapFields (·.setIfInBounds 3 .none))).update e (Obj.mapFields (·.setIfInBounds 4 (.bool true)))).get? b = some o := fun b o q => by
    have hbe : b ≠ e := fun r => by have := hx₁.new; rw [← r] at this; rw [show s.heap.get? b = none from this] at q; cases q
    rw [Heap.get?_update_other _ _ (Ne.symm hbe), Heap.get?_update_other _ _ (Ne.symm hbe)]
    exact hx₁.keeps b o q
  generalize hh3 : (h₁.update e (Obj.mapFields (·.setIfInBounds 3 .none))).update e (Obj.mapFields (·.setIfInBounds 4 (.bool true))) = h₃ at he3 up ⊢
  generalize hob3 : Obj.mapFields (·.setIfInBounds 4 (.bool true)) (Obj.mapFields (·.setIfInBounds 3 .none) ob) = ob3 at he3 hd3 hc3
  have hT3 : Shared.TypeIs ⟨h₃, s.gens, s.drawn, tk1, s.os⟩ (.ref e) "ValueError" := ⟨ob3, he3, hc3⟩
  simp only [isType, loadHead]
  refine wpAny_bind (wpAny_bind (wpAny_loadPart he3 ?_))
  rw [hd3]
  refine wpAny_pure ?_
  simp only [Bool.false_eq_true, if_false]
  unfold raisedInstance
  refine wpAny_bind (wpAny_bind (wpAny_typeOf hT3 (wpAny_bind (m := typeOf (.type "ValueError")) (wpAny_pure ?_))))
  rw [if_pos excClass_ValueError.metaType]
  refine wpAny_pure ?_
  unfold setFlight raiseNew
  refine wpAny_bind (wpAny_bind (wpAny_field he3 hd3 (x := .none) (by simp) ?_))
  rw [if_neg (by decide)]
  refine wpAny_pure (wpAny_bind (wpAny_handled ?_))
  rw [hA]
  dsimp only
  obtain ⟨oe₁, vs₁, T₁, oT, ts, hg1, hgc, hgd, hg1', hg2, hnT, hTe, hgT, hgdT, hg3⟩ := R.exc
  have hee : e₁ ≠ e := fun r => by have := hx₁.new; rw [← r] at this; rw [show s.heap.get? e₁ = none from this] at hg1; cases hg1
  rw [if_pos (by simpa using hee)]
  refine wpAny_bind (wpAny_holding ?_)
  refine wpAny_runValue (codeAny_builtin entry_unchain ?_)
  rw [Around.under_plainId plain_unchain _]
  show wpAny _ _ (field (.ref e₁) 2 >>= _) _ _ _
  refine wpAny_bind (wpAny_field (up _ _ hg1) hgd hg2 ?_)
  rw [if_pos (by simp)]
  refine wpAny_pure ?_
  show wpAny _ _ (setField (.ref e) 2 (.ref e₁) >>= _) _ _ _
  refine wpAny_bind (wpAny_setField he3 hd3 (by simp) (wpAny_throw ?_))
  have hd4 := Obj.data_mapFields hd3 (·.setIfInBounds 2 (.ref e₁))
  have he4 := Heap.get?_update_self (Obj.mapFields (·.setIfInBounds 2 (.ref e₁))) he3 (Obj.isFreed_of_fields hd4)
  have up4 : ∀ b o, s.heap.get? b = some o → (h₃.update e (Obj.mapFields (·.setIfInBounds 2 (.ref e₁)))).get? b = some o := fun b o q => by
    have hbe : b ≠ e := fun r => by have := hx₁.new; rw [← r] at this; rw [show s.heap.get? b = none from this] at q; cases q
    rw [Heap.get?_update_other _ _ (Ne.symm hbe)]
    exact up b o q
  refine h _ e tk1 ⟨fun b o q hb => up4 b o (R.keep b o q hb), fun b o q => ?_, ?_, FunFrames.by R.fr fun b o q hn => ⟨o.slots, up4 b o q⟩, ?_⟩ up4
  · obtain ⟨sl, q'⟩ := R.slot b o q
    exact ⟨sl, up4 b _ q'⟩
  · cases q : h₀.get? e with
    | none => rfl
    | some o =>
      obtain ⟨sl, q'⟩ := R.slot e o q
      have := hx₁.new
      rw [show s.heap.get? e = none from this] at q'; cases q'
  · exact ⟨_, _, he4, (Obj.cls_mapFields _ _).trans hc3, hd4, by simp, by simp⟩
end
end Mine

end
section
open PySem PySem.W PyProof.Rows
namespace Mine

theorem sub_VE : isSubtype (.type "ValueError") (.type "ValueError") = pure true := by rw [isSubtype_type]; kernel_rfl
theorem sub_VT : isSubtype (.type "ValueError") (.type "TypeError") = pure false := by rw [isSubtype_type]; kernel_rfl
theorem sub_VA : isSubtype (.type "ValueError") (.type "AttributeError") = pure false := by rw [isSubtype_type]; kernel_rfl
theorem sub_VB : isSubtype (.type "ValueError") (.type "BaseException") = pure true := by rw [isSubtype_type]; kernel_rfl
theorem sub_TB : isSubtype (.type "TypeError") (.type "BaseException") = pure true := by rw [isSubtype_type]; kernel_rfl
theorem sub_AB : isSubtype (.type "AttributeError") (.type "BaseException") = pure true := by rw [isSubtype_type]; kernel_rfl
theorem sub_tt : isSubtype (.type "tuple") (.type "tuple") = pure true := by rw [isSubtype_type]; kernel_rfl
theorem meta_VE : isSubtype (.type ((Manifest.find? "ValueError").elim "type" fun x => x.metatype)) (.type "tuple") = pure false := by
  have : ((Manifest.find? "ValueError").elim "type" fun x => x.metatype) = "type" := by kernel_rfl
  rw [this, isSubtype_type]; kernel_rfl

section
variable {w : World} {A : Around} {mg mb : Str → Option Value} {env : Env} {s : Shared} {E : Value → Shared → Prop}

theorem exc_tup {M : Model} {tp e : Addr} {Q : Bool → Shared → Prop} (ht : s.heap.get? tp = some { cls := .type "tuple", data := .seq #[.type "TypeError", .type "AttributeError"] }) (hX : s.TypeIs (.ref e) "ValueError") (h : Q false s) :
    wpAny M A (excMatches (.ref e) (.ref tp)) Q E s := by
  unfold excMatches
  refine wpAny_bind (wpAny_isInstance (T := "tuple") (b := true) ⟨_, ht, rfl⟩ sub_tt ?_)
  simp only [if_true]
  refine wpAny_bind (wpAny_seqItems ht rfl (wpAny_bind (wpAny_pure ?_)))
  have one : ∀ {c : String} {Q' : Bool → Shared → Prop}, isSubtype (.type c) (.type "BaseException") = pure true → Q' true s → wpAny M A (isExcClass (.type c)) Q' E s := by
    intro c Q' hs hq
    unfold isExcClass
    refine wpAny_bind (wpAny_pure (a := true) ?_)
    simp only [if_true]
    exact wpAny_of_eq hs hq
  simp only [Option.getD_some, List.forIn_cons, List.forIn_nil]
  refine wpAny_bind (wpAny_bind (wpAny_bind (one sub_TB ?_)))
  simp only [Bool.not_true, Bool.false_eq_true, if_false]
  refine wpAny_pure (wpAny_bind (wpAny_bind (one sub_AB ?_)))
  simp only [Bool.not_true, Bool.false_eq_true, if_false]
  refine wpAny_pure (wpAny_pure ?_)
  refine wpAny_bind (wpAny_typeOf hX ?_)
  refine wpAny_bind (wpAny_bind (wpAny_bind (wpAny_of_eq sub_VT ?_)))
  simp only [Bool.false_eq_true, if_false]
  refine wpAny_pure (wpAny_bind (wpAny_bind (wpAny_of_eq sub_VA ?_)))
  simp only [Bool.false_eq_true, if_false]
  exact wpAny_pure (wpAny_pure (wpAny_pure h))

theorem Err.there {h₀ h : Heap} {l : List Env} {e : Addr} {cx fl : Value} (R : Err h₀ l e cx fl h) : ∃ o, h.get? e = some o ∧ o.cls = .type "ValueError" := let ⟨oe, _, _, _, _, he, hc, _⟩ := R.exc; ⟨oe, he, hc⟩
theorem Err.has {M : Model} {h₀ : Heap} {l : List Env} {e : Addr} {cx fl : Value} {Q : Value → Shared → Prop} (R : Err h₀ l e cx fl s.heap) (h : ∀ T, Q (.ref T) s) : wpAny M A (field (.ref e) 1) Q E s := by
  obtain ⟨oe, vs, T, oT, ts, he, hcls, hd, h1, _⟩ := R.exc
  exact wpAny_field he hd h1 (h T)

/-- the inner handler of commonpath raises anew -/
theorem err_inner {h₀ hb : Heap} {outer : List Env} {L e₁ : Addr} {Q : Flow → Shared → Prop} (hfr : A.frames = some (env :: outer)) (hf : env.frame = some L) (hu : A.units + 2 < cLine) (hs : env.scope = scoAt 15) (hg : env.globals = mainGlobals) (hbl : env.builtins = builtinsNs)
    (Tb : TopF mg mb hb) (hbs : ∀ b o, hb.get? b = some o → h₀.get? b = some o ∧ b ∉ frs (env :: outer)) (R : Raw h₀ (env :: outer) e₁ .none s.heap)
    (h : ∀ h' e tk cx, Err h₀ (env :: outer) e cx (rawInt L) h' → E (.ref e) { s with heap := h', toks := tk }) : onErr w A env hndI15 Q E (.ref e₁) s := by
  have kd : ∀ {x : Str} {kd : NameKind}, (scoAt 15).names.lookup x = some kd → env.kindOf x = some kd := fun h => kindOf_eq hs h
  have top : ∀ {e cx fl h'}, Err h₀ (env :: outer) e cx fl h' → TopF mg mb h' := fun R => Tb.keeps fun b o q => R.keep b o (hbs b o q).1 (hbs b o q).2
  have hk : env.scope.kind = .function := by rw [hs]; rfl
  unfold onErr
  refine note_new hfr hf R fun h1 R1 => ?_
  refine flight (s := { s with heap := h1 }) R1 fun h2 R2 => ?_
  refine wpAny_handleBy_builtin (X := "ValueError") (T := "ValueError") (b := true) sub_VB meta_VE sub_VE (ld_blt (s := { s with heap := h2 }) (top R2) hk hg hbl (kd (by decide +kernel)) ((top R2).fr "ValueError" (by decide +kernel)) (by decide +kernel) Boot.«ValueError» ⟨rfl, R2.there, ?_⟩ (by decide +kernel))
  refine flight (s := { s with heap := h2 }) R2 fun h3 R3 => ?_
  refine wpAny_execs_cons (raise_from (s := { s with heap := h3 }) R3 (top R3) hk hg hbl (kd (by decide +kernel)) rfl hu fun h4 e tk R4 k4 => ?_)
  refine note_new (s := { s with heap := h4, toks := tk }) (env := env) (outer := outer) hfr hf R4 fun h5 R5 => ?_
  unfold cameBackBy
  refine wpAny_bind (Err.has (s := { s with heap := h5, toks := tk }) R5 fun T => ?_)
  rw [if_neg (by simp)]
  rw [hf]
  exact flight (s := { s with heap := h5, toks := tk }) (f := some L) R5 fun h6 R6 => h h6 e tk _ R6

/-- the outer handler of commonpath lets it pass -/
theorem err_outer {h₀ hb : Heap} {outer : List Env} {L e : Addr} {cx : Value} {Q : Flow → Shared → Prop} (hfr : A.frames = some (env :: outer)) (hf : env.frame = some L) (hs : env.scope = scoAt 15) (hg : env.globals = mainGlobals) (hbl : env.builtins = builtinsNs)
    (Tb : TopF mg mb hb) (hbs : ∀ b o, hb.get? b = some o → h₀.get? b = some o ∧ b ∉ frs (env :: outer)) (R : Err h₀ (env :: outer) e cx (rawInt L) s.heap)
    (h : ∀ h' tk cx, Err h₀ (env :: outer) e cx (rawInt L) h' → E (.ref e) { s with heap := h', toks := tk }) : onErr w A env hndO15 Q E (.ref e) s := by
  have kd : ∀ {x : Str} {kd : NameKind}, (scoAt 15).names.lookup x = some kd → env.kindOf x = some kd := fun h => kindOf_eq hs h
  have top : ∀ {e cx fl h'}, Err h₀ (env :: outer) e cx fl h' → TopF mg mb h' := fun R => Tb.keeps fun b o q => R.keep b o (hbs b o q).1 (hbs b o q).2
  have hk : env.scope.kind = .function := by rw [hs]; rfl
  unfold onErr
  refine note_again hf R ?_
  refine flight R fun h1 R1 => ?_
  refine wpAny_handleBy_cons (codeAny_handlers_test ?_) (by intro q; cases q)
  refine wpAny_Tuple ?_
  refine wpAny_items_cons (ld_blt (s := { s with heap := h1 }) (top R1) hk hg hbl (kd (by decide +kernel)) ((top R1).fr "TypeError" (by decide +kernel)) (by decide +kernel) Boot.«TypeError» ?_ (by decide +kernel))
  refine wpAny_items_cons (ld_blt (s := { s with heap := h1 }) (top R1) hk hg hbl (kd (by decide +kernel)) ((top R1).fr "AttributeError" (by decide +kernel)) (by decide +kernel) Boot.«AttributeError» (wpAny_items_nil ?_) (by decide +kernel))
  refine ⟨by rw [sizeLine_eq]; decide, ?_⟩
  have R2 : Err h₀ (env :: outer) e cx .none (h1.push { cls := .type "tuple", data := .seq ([.type "TypeError", .type "AttributeError"] : List Value).toArray }) := by
    refine ⟨fun b o q hb => Heap.get?_push_of_some _ (R1.keep b o q hb), fun b o q => ?_, R1.new, FunFrames.by R1.fr fun b o q _ => ⟨o.slots, Heap.get?_push_of_some _ q⟩, ?_⟩
    · obtain ⟨sl, q'⟩ := R1.slot b o q
      exact ⟨sl, Heap.get?_push_of_some _ q'⟩
    · obtain ⟨oe, vs, T, oT, ts, he, hcls, hd, h1', hcx, hnT, hTe, hT, hdT, h3⟩ := R1.exc
      exact ⟨oe, vs, T, oT, ts, Heap.get?_push_of_some _ he, hcls, hd, h1', hcx, hnT, hTe, Heap.get?_push_of_some _ hT, hdT, h3⟩
  obtain ⟨oe, he, hc⟩ := R2.there
  refine exc_tup (s := { s with heap := h1.push _ }) (Heap.get?_push_size _ rfl) ⟨oe, he, hc⟩ ?_
  refine wpAny_handleBy_nil ?_
  unfold PySem.passOn
  refine wpAny_bind (Err.has (s := { s with heap := h1.push _ }) R2 fun T => ?_)
  rw [if_neg (by simp)]
  rw [hf]
  exact wpAny_bind (flight (s := { s with heap := h1.push _ }) (f := some L) R2 fun h6 R6 => wpAny_throw (h h6 s.toks _ R6))
end
end Mine

end
section
open PySem PySem.W PyProof.Rows
namespace Mine
section
variable {w : World} {A : Around}

/-- entering a def, with what it raises -/
theorem enterE {name : Str} {k : Nat} {ds : List Da} {ps : List Str} (hroom : A.depth < recursionLimit)
    (hbind : ∀ pm cd doc vs, vs.length = ds.length → bindArgs (Calls.docDef name (parAt k) (bodAt k) (scoAt k) pm cd doc) ⟨vs, []⟩ = pure (ps.zip vs))
    (hloc : ∀ x ∈ ps, (scoAt k).names.lookup x = some .local)
    (hco : (scoAt k).isCoroutine = false) (hgen : (scoAt k).isGenerator = false) (hk : (scoAt k).kind = .function)
    {X : Addr → Prop} {mg mb : Str → Option Value} {s : Shared} {Q : Value → Shared → Prop} {E : Value → Shared → Prop} {a : Addr} {vs : List Value} (T : TopF mg mb s.heap) (hf : FnAt s.heap a name k) (hX : ∀ b, New s.heap b → X b) (hh : HoldsL X s.heap ds vs)
    (h : ∀ s' env, env.scope = scoAt k → env.cells = cellsFrom (env.locals + 1) (scoAt k).names [] → vs.length = ds.length →
      env.frame = some env.locals → env.locals = s.heap.objs.size →
      Cx mg mb (.of s) (fun b => X b ∧ Away env b) env (ps.zip vs).reverse [] (ds.zip vs) s' →
      wpAny (model pw w) (A.deeper env) (execs (bodAt k) env) (fun f s' => Q (match f with | .ret v => v | _ => .none) s') (fun e s' => wpAny (model pw w) (A.deeper env) (PySem.leaving env e) (fun _ s'' => E e s'') (fun e' s'' => E e' s'') s') s') :
    wpAny (model pw w) A (call (.ref a) vs) Q E s := by
  obtain ⟨o, pm, cd, doc, ho, hd, hcd⟩ := id hf
  have hlen := hh.length
  have hl : ∀ x ∈ ps.zip vs, (scoAt k).names.lookup x.1 = some .local := fun x hx => hloc x.1 (List.of_mem_zip hx).1
  refine wpAny_call (codeAny_call_cells hroom ho hd T.lim hcd rfl (hbind pm cd doc vs hlen) rfl (fun x hx => .inl (hl x hx)) (fun s₁ hc => ?_) hco hgen hk)
  generalize he : callEnvC (Calls.docDef name (parAt k) (bodAt k) (scoAt k) pm cd doc) s.heap.objs.size a = env at hc ⊢
  have e1 : env.scope = scoAt k := by rw [← he]; rfl
  have e2 : env.cells = cellsFrom (env.locals + 1) (scoAt k).names [] := by rw [← he]; rfl
  have e3 : env.locals = s.heap.objs.size := by rw [← he]; rfl
  have e4 : env.frame = some env.locals := by rw [← he]; rfl
  have e5 : env.func = some a := by rw [← he]; rfl
  have e6 : env.globals = mainGlobals := by rw [← he]; rfl
  have e7 : env.builtins = builtinsNs := by rw [← he]; rfl
  have hkd : ∀ x ∈ ps.zip vs, env.kindOf x.1 = some .local := fun x hx => by unfold Env.kindOf; rw [e1]; exact hl x hx
  have off : ∀ n c', env.cells.lookup n = some c' → env.locals < c' := fun n c' hm => hc.above n c' (mem_of_lookup hm)
  have old : ∀ b o, s.heap.get? b = some o → Away env b := fun b o hb => by
    have hlt := Heap.lt_size hb
    rw [← e3] at hlt
    exact ⟨Nat.ne_of_lt hlt, fun n c' hm => Nat.ne_of_lt (Nat.lt_trans hlt (off n c' hm))⟩
  refine wpAny_mono (h s₁ env e1 e2 hlen e4 e3 ?_) (fun f s' h' => h') fun e s' h' => h'
  have hns := hc.toInCall.ns
  rw [show (fun _ => none : Str → Option Value) = (fun x => ([] : List (Str × Value)).lookup x) from rfl, bindL_eq _ _ hkd, List.append_nil] at hns
  refine ⟨by rw [e1]; exact hk, e6, e7, hc.toInCall.same, hc.toInCall.keep, fun h hk => T.keeps fun b o e => hk b o e, hns, fun n c' hm => ?_, fun n n' c' h1 h2 => name_of_addr hc.apart (mem_of_lookup h1) (mem_of_lookup h2), fun n c' hm => Nat.ne_of_gt (off n c' hm), old, fun _ x => x.2, fun b hb => ?_, fun p hp => ?_⟩
  · have := hc.cell n c' hm
    rw [bindC_eq _ _ hkd] at this
    exact this
  · refine ⟨hX b (New.back hc.toInCall.keep hb), fun e => ?_, fun n c' hm e => ?_⟩
    · subst e
      obtain ⟨o, _, _, ho, _⟩ := hns
      rw [show s₁.heap.get? env.locals = none from hb] at ho; cases ho
    · subst e
      obtain ⟨o, ho, _⟩ := hc.cell n _ hm
      rw [show s₁.heap.get? b = none from hb] at ho; cases ho
  · exact (hh.zip p hp).ext fun b o xb e => ⟨⟨xb, old b o e⟩, hc.toInCall.keep b o e⟩

/-- commonpath of both kinds of paths raises -/
theorem com_err {ps : List (List Nat)} (hd : A.depth + 1 < recursionLimit) (hh : A.handled = none) (hu : A.units + 30 < cLine) (hne : ps ≠ []) (hn : ps.length ≤ 64) (hp : ∀ p ∈ ps, p.length < 65536) (hm : mixed ps = true)
    {l : List Env} (hfr : A.frames = some l) {X : Addr → Prop} {mg mb : Str → Option Value} {s : Shared} {Q : Value → Shared → Prop} {E : Value → Shared → Prop} {a : Addr} {vs : List Value} {hb : Heap} (Tb : TopF mg mb hb) (hbs : ∀ b o, hb.get? b = some o → s.heap.get? b = some o ∧ b ∉ frs l)
    (hf : FnAt s.heap a "commonpath" 15) (hX : ∀ b, New s.heap b → X b) (hv : HoldsL X s.heap [.list (ps.map fun p => .str (S p))] vs) (hl : s.heap.FunFrames h0 l)
    (h : ∀ h' e tk cx, Err s.heap l e cx .none h' → E (.ref e) { s with heap := h', toks := tk }) : wpAny (model pw w) A (call (.ref a) vs) Q E s := by
  refine enterE (k := 15) (ps := ["paths"]) (by omega) (fun pm cd doc vs hl => ?_) (by decide +kernel) rfl rfl rfl (Tb.keeps fun b o q => (hbs b o q).1) hf hX hv fun s' env hs hc hlv hfe hloc F => ?_
  · match vs, hl with
    | [v], _ => rfl
  · match vs, hlv with
    | [v], _ =>
    have h15 := cells15 (env.locals + 1)
    rw [← hc] at h15
    have hA : (A.deeper env).frames = some (env :: l) := Around.frames_deeper hfr
    have nl : s.heap.get? env.locals = none := by rw [hloc]; exact new_size _
    have hbs' : ∀ b o, hb.get? b = some o → s.heap.get? b = some o ∧ b ∉ frs (env :: l) := fun b o q => ⟨(hbs b o q).1, fun hm => by
      rw [frs, List.filterMap_cons, hfe] at hm
      rcases List.mem_cons.mp hm with r | r
      · rw [r] at q; have := (hbs _ o q).1; rw [nl] at this; cases this
      · exact (hbs b o q).2 r⟩
    refine com_body (A := A.deeper env) hd hh (by rw [Around.deeper_units]; omega) hne hn hp hs h15.1 h15.2 F (fun h => absurd h (by rw [hm]; decide)) fun _ l' c' D' s₁ h' e tk F₁ hx Q₁ Q₂ => ?_
    have K := F₁.done
    obtain ⟨H, t, rfl, hk⟩ := K
    have R : Raw s.heap (env :: l) e .none h' := by
      refine ⟨fun b o q _ => hx.keeps b o (hk b o q), fun b o q => ⟨o.slots, hx.keeps b o (hk b o q)⟩, New.back hk hx.new, ⟨by rw [hs]; decide, ?_, FunFrames.by hl fun b o q _ => ⟨o.slots, hx.keeps b o (hk b o q)⟩⟩, ?_⟩
      · obtain ⟨o, es, ep, ho, hd', _⟩ := F₁.ns
        exact ⟨env.locals, o, hfe, rfl, hx.keeps _ _ ho, fun vs q => by rw [hd'] at q; cases q⟩
      · obtain ⟨ob, t', he, hc', hd'⟩ := hx.there
        exact ⟨ob, _, he, hc', hd', rfl, rfl⟩
    refine err_inner (s := { s with heap := h', toks := tk }) hA hfe (by rw [Around.deeper_units]; omega) hs F.glob F.blt Tb hbs' R fun h1 e1 tk1 cx1 R1 => ?_
    refine err_outer (s := { s with heap := h1, toks := tk1 }) hA hfe hs F.glob F.blt Tb hbs' R1 fun h2 tk2 cx2 R2 => ?_
    unfold PySem.leaving
    refine wpAny_bind (note_again (s := { s with heap := h2, toks := tk2 }) hfe R2 ?_)
    refine flight (s := { s with heap := h2, toks := tk2 }) R2 fun h3 R3 => h h3 e1 tk2 cx2 ?_
    refine ⟨fun b o q hb => R3.keep b o q fun hm => ?_, R3.slot, R3.new, R3.fr.2.2, R3.exc⟩
    rw [frs, List.filterMap_cons, hfe] at hm
    rcases List.mem_cons.mp hm with r | r
    · rw [r, nl] at q; cases q
    · exact hb r
end
end Mine

end
section
open PySem PySem.W PyProof.Rows
namespace Mine
section
variable {w : World} {A : Around}

noncomputable def askL (ps : List (List Nat)) : Option (List Nat) := if mixed ps then none else some (comL ps)
noncomputable def optD : Option (List Nat) → Da
  | none => .none
  | some x => .str (S x)

/-- _law_asked -/
theorem asked_spec {ps : List (List Nat)} (hd : A.depth + 2 < recursionLimit) (hh : A.handled = none) (hu : A.units + 40 < cLine) (hne : ps ≠ []) (hn : ps.length ≤ 64) (hp : ∀ p ∈ ps, p.length < 65536)
    {l : List Env} (hfr : A.frames = some l) {X : Addr → Prop} {mg mb : Str → Option Value} {s : Shared} {Q : Value → Shared → Prop} {E : Value → Shared → Prop} {a : Addr} {vs : List Value} {hb : Heap} (Tb : TopF mg mb hb) (hbs : ∀ b o, hb.get? b = some o → s.heap.get? b = some o ∧ b ∉ frs l)
    (hf : FnAt s.heap a "_law_asked" 26) (hX : ∀ b, New s.heap b → X b) (hv : HoldsL X s.heap [.list (ps.map fun p => .str (S p))] vs) (hl : s.heap.FunFrames h0 l)
    (h : ∀ v h' tk, (∀ b o, s.heap.get? b = some o → b ∉ frs l → h'.get? b = some o) → (∀ b o, s.heap.get? b = some o → ∃ sl, h'.get? b = some { o with slots := sl }) → Holds X h' (optD (askL ps)) v → Q v { s with heap := h', toks := tk }) : wpAny (model pw w) A (call (.ref a) vs) Q E s := by
  refine enterE (k := 26) (ps := ["paths"]) (by omega) (fun pm cd doc vs hl => ?_) (by decide +kernel) rfl rfl rfl (Tb.keeps fun b o q => (hbs b o q).1) hf hX hv fun s' env hs hc hlv hfe hloc F => ?_
  · match vs, hl with
    | [v], _ => rfl
  · match vs, hlv with
    | [v], _ =>
    have kd : ∀ {x : Str} {kd : NameKind}, (scoAt 26).names.lookup x = some kd → env.kindOf x = some kd := fun h => kindOf_eq hs h
    have hA : (A.deeper env).frames = some (env :: l) := Around.frames_deeper hfr
    have nl : s.heap.get? env.locals = none := by rw [hloc]; exact new_size _
    have hbs' : ∀ b o, hb.get? b = some o → s.heap.get? b = some o ∧ b ∉ frs (env :: l) := fun b o q => ⟨(hbs b o q).1, fun hm => by
      rw [frs, List.filterMap_cons, hfe] at hm
      rcases List.mem_cons.mp hm with r | r
      · rw [r] at q; have := (hbs _ o q).1; rw [nl] at this; cases this
      · exact (hbs b o q).2 r⟩
    have nfr : ∀ b o, s.heap.get? b = some o → b ∉ frs l → b ∉ frs (env :: l) := fun b o q hb' hm => by
      rw [frs, List.filterMap_cons, hfe] at hm
      rcases List.mem_cons.mp hm with r | r
      · rw [r, nl] at q; cases q
      · exact hb' r
    refine ex_try fun Qb Qh hb1 hb2 => ?_
    cases hm : mixed ps with
    | false =>
      have e : askL ps = some (comL ps) := by unfold askL; rw [hm]; rfl
      rw [e] at h
      refine ex_ret F (ev_fn (k := 15) (kd (by decide +kernel)) (by decide +kernel) (evl_cons (ev_local (d := .list (ps.map fun p => .str (S p))) (kd (by decide +kernel)) rfl (.head _)) evl_nil) (com_spec (by show A.depth + 1 + 1 < _; omega) hh (by rw [Around.deeper_units]; omega) hne hn hp hm)) fun v₁ s₁ k₁ h₁ => (hb2 _ _ ?_).1
      obtain ⟨H, t, rfl, hk⟩ := (F.keeps k₁).done
      exact h v₁ H t (fun b o q _ => hk b o q) (fun b o q => ⟨o.slots, hk b o q⟩) (h₁.weak fun _ x => x.1)
    | true =>
      have e : askL ps = none := by unfold askL; rw [hm]; rfl
      rw [e] at h
      refine wpAny_execs_cons (wpAny_Return_some ?_)
      obtain ⟨ac, hmc, hfc⟩ := F.topNow.fn ("commonpath", 15) (by decide +kernel)
      show wpAny _ _ (eval (.Name "commonpath" _) env >>= fun fv => callWith _ fv [] (backTo _ (starEach [.Name "paths" _] env)) (backToKw _ (keywordEach [] env))) _ _ _
      refine wpAny_bind (F.ldG (kd (by decide +kernel)) hmc ?_ (by decide +kernel))
      obtain ⟨o, pm, cd, doc, ho, hd', hcd⟩ := id hfc
      refine Calls.callWith_function (o := o) (fd := Calls.docDef "commonpath" (parAt 15) (bodAt 15) (scoAt 15) pm cd doc) (evalArgs_of rfl (wpAny_mono ((evl_cons (ev_local (d := .list (ps.map fun p => .str (S p))) (kd (by decide +kernel)) rfl (.head _)) evl_nil) _ _ F) (fun vs s₁ h₁ => ?_) fun _ _ e => e))
      refine ⟨⟨kg h₁.1 _ _ ho, hd'⟩, ?_⟩
      have F₁ := F.keeps h₁.1
      obtain ⟨H, t, rfl, hk⟩ := F₁.done
      have fr1 : H.FunFrames h0 (env :: l) := by
        refine ⟨by rw [hs]; decide, ?_, FunFrames.by hl fun b o q _ => ⟨o.slots, hk b o q⟩⟩
        obtain ⟨o, es, ep, ho, hd', _⟩ := F₁.ns
        exact ⟨env.locals, o, hfe, rfl, ho, fun vs q => by rw [hd'] at q; cases q⟩
      refine com_err (A := A.deeper env) (by show A.depth + 1 + 1 < _; omega) hh (by rw [Around.deeper_units]; omega) hne hn hp hm hA Tb (hb := hb) (fun b o q => ⟨hk b o (hbs' b o q).1, (hbs' b o q).2⟩) (hfc.keeps (kg h₁.1)) F₁.xn h₁.2 fr1 fun h' e tk cx R => ?_
      have top : ∀ {e cx fl h'}, Err H (env :: l) e cx fl h' → TopF mg mb h' := fun R => Tb.keeps fun b o q => R.keep b o (hk b o (hbs' b o q).1) (hbs' b o q).2
      have hkf : env.scope.kind = .function := by rw [hs]; rfl
      unfold onErr
      refine note_next (s := { s with heap := h', toks := tk }) hA hfe R fun h1 R1 => ?_
      refine flight (s := { s with heap := h1, toks := tk }) R1 fun h2 R2 => ?_
      refine wpAny_handleBy_builtin (X := "ValueError") (T := "ValueError") (b := true) sub_VB meta_VE sub_VE (ld_blt (s := { s with heap := h2, toks := tk }) (top R2) hkf F.glob F.blt (kd (by decide +kernel)) ((top R2).fr "ValueError" (by decide +kernel)) (by decide +kernel) Boot.«ValueError» ⟨rfl, R2.there, ?_⟩ (by decide +kernel))
      refine flight (s := { s with heap := h2, toks := tk }) R2 fun h3 R3 => ?_
      refine wpAny_execs_cons (wpAny_Return_some (wpAny_Constant_none ?_))
      exact (hb2 _ _ (h .none h3 tk (fun b o q hb' => R3.keep b o (hk b o q) (nfr b o q hb')) (fun b o q => R3.slot b o (hk b o q)) rfl)).2
end
end Mine

end
section
open PySem PySem.W PyProof.Rows
namespace Mine
section
variable {w : World} {A : Around} {mg mb : Str → Option Value} {s₀ : Base} {X : Addr → Prop} {env : Env} {l c : List (Str × Value)} {D : List (Da × Value)}

theorem ex_while {test : Expr} {body rest : List Stmt} {pos : Pos} {s : Shared} {Q : Flow → Shared → Prop} {E : Value → Shared → Prop} (J : Nat → Shared → Prop) {n : Nat} (h0 : J n s)
    (turn : ∀ n s E', J n s → wpAny (model pw w) A (isTrue test env (eval test env)) (fun b s₂ => if b then wpAny (model pw w) A (execs body env) (fun f s₃ => match f with
      | .next | .cont => ∃ m, m < n ∧ J m s₃
      | .brk => False
      | .ret _ => False) E' s₂ else wpAny (model pw w) A (execs rest env) Q E s₂) E' s) :
    wpAny (model pw w) A (execs (.While test body [] pos :: rest) env) Q E s := by
  refine wpAny_execs_cons (wpAny_While (codeAny_whileLoop J (fun n s hJ => ?_) n h0))
  refine wpAny_mono (turn n s _ hJ) (fun b s₂ h₂ => ?_) fun _ _ e => e
  cases b with
  | false => exact wpAny_execs_nil h₂
  | true =>
    simp only [if_true] at h₂ ⊢
    refine wpAny_mono h₂ (fun f s₃ h₃ => ?_) fun _ _ e => e
    cases f with
    | next => exact h₃
    | cont => exact h₃
    | brk => exact h₃.elim
    | ret v => exact h₃.elim

theorem mo_append {s : Shared} {E : Value → Shared → Prop} {a : Addr} {pos : Pos} {Q : Value → Shared → Prop} {m : Sem Value} {ys : Array Value} (hl : s.heap.PlainList a ys)
    (h : wpAny (model pw w) A m (fun v s₁ => ∃ zs, s₁.heap.PlainList a zs ∧ zs.size ≤ sizeLine ∧ ∀ h', h'.PlainList a (zs.push v) → Heap.SameBut a s₁.heap h' → Q .none { s₁ with heap := h' }) E s) : MethodOnS pw w A E "append" (.ref a) pos [(false, m)] Q s := by
  obtain ⟨n, ho⟩ := id hl
  refine ⟨"list", _, F.plainAttrs_list, slot_list_append, F.type_list_append, ⟨_, ho, rfl⟩, (fun b e => by cases e; exact ⟨_, ho, rfl⟩), ?_⟩
  refine Calls.callWith_builtin rfl (Calls.evalArgs_plain (Calls.spliced_cons (wpAny_mono h (fun v s₁ h₁ => Calls.spliced_nil ?_) fun _ _ e => e)))
  obtain ⟨zs, hz, hsz, hq⟩ := h₁
  exact wpAny_list_append_plain hz hq hsz

/-- found.append(e), found off the context -/
theorem ex_append {o e : Expr} {apos cpos spos : Pos} {rest : List Stmt} {d : Da} {a : Addr} {ys : Array Value} {s : Shared} {Q : Flow → Shared → Prop} {E : Value → Shared → Prop} (F : Cx mg mb s₀ X env l c D s) (ho : Ev w A mg mb s₀ X env l c D o (.atom (.ref a))) (he : Ev w A mg mb s₀ X env l c D e d)
    (hl : s.heap.PlainList a ys) (hsz : ys.size ≤ sizeLine) (a0 : ¬ X a) (a1 : a ≠ env.locals) (a2 : ∀ n c', env.cells.lookup n = some c' → a ≠ c') (a3 : ∀ o, ¬ s₀.B a o)
    (h : ∀ v s', Cx mg mb s₀ X env l c D s' → Holds X s'.heap d v → s'.heap.PlainList a (ys.push v) → (∀ b o, b ≠ a → s.heap.get? b = some o → s'.heap.get? b = some o) → wpAny (model pw w) A (execs rest env) Q E s')
    (hbase : attributeBase o "append" env (eval o env) = eval o env := by rfl) (hs : starEach [e] env = [(false, eval e env)] := by rfl) (hline : (apos.endLine == cpos.line) = true := by rfl)
    (hsw : swapsWith (.Call (.Attribute o "append" apos) [e] [] cpos) none spos.line env = pure false := by rfl) :
    wpAny (model pw w) A (execs (.Expr (.Call (.Attribute o "append" apos) [e] [] cpos) spos :: rest) env) Q E s := by
  refine wpAny_execs_cons (wpAny_Expr (Call_method1 hbase hs hline (ev_use ho F fun v s₁ k₁ h₁ => ?_)) (by unfold interactive; rw [F.kind]; rfl) hsw)
  obtain rfl : v = .ref a := h₁
  have hl1 : s₁.heap.PlainList a ys := hl.at fun o => kg k₁ a o
  refine mo_append hl1 (ev_use he (F.keeps k₁) fun u s₂ k₂ h₂ => ⟨ys, hl1.at fun o => kg k₂ a o, hsz, fun h' hp hsb => ?_⟩)
  have F2 := (F.keeps k₁).keeps k₂
  have F3 := F2.move (h' := h') (tk := s₂.toks) (fun b => b = a) (fun b o q e => hsb.extBut b o q e) (fun b o e q => a3 o (q ▸ e)) (fun q => a1 q.symm) (fun n c' e q => a2 n c' e q.symm) (fun b xb q => a0 (q ▸ xb)) (fun b q => by obtain ⟨n, e⟩ := hp; subst q; exact ⟨_, e⟩)
  exact h u _ F3 (h₂.ext fun b o xb e => ⟨xb, hsb.extBut b o (fun q => a0 (q ▸ xb)) e⟩) hp fun b o q e => hsb.extBut b o q (kg k₂ b o (kg k₁ b o e))

/-! _law_above -/
noncomputable def chainL : Nat → List Nat → List (List Nat)
  | 0, _ => []
  | n + 1, p => if dirL p == p then [] else dirL p :: chainL n (dirL p)
noncomputable def oneL (p : List Nat) : List Nat := comL [prepL p]
noncomputable def aboveL (x : List Nat) : List (List Nat) := (x :: chainL x.length x).map oneL

theorem rstrip_pre (l : List Nat) : ∃ k, rstripL l = l.take k := ⟨_, rstripL_take l⟩
theorem dir_pre (l : List Nat) : ∃ k, dirL l = l.take k := by
  unfold dirL
  split
  · exact ⟨_, upto_take l⟩
  · obtain ⟨k, e⟩ := rstrip_pre (upto l)
    rw [e]
    refine ⟨min k (upto l).length, ?_⟩
    have := upto_take l
    rw [this, List.take_take]
    congr 1
    rw [← this]
theorem dir_lt {l : List Nat} (h : dirL l ≠ l) : (dirL l).length < l.length := by
  obtain ⟨k, e⟩ := dir_pre l
  rw [e] at h ⊢
  rw [List.length_take]
  rcases Nat.lt_or_ge k l.length with q | q
  · omega
  · exact absurd (List.take_of_length_le q) h
theorem mixed_one (p : List Nat) : mixed [p] = false := by unfold mixed; simp
theorem prep_len {x : List Nat} (hb : ∀ n ∈ x, (b3L n).length ≤ 64) : (prepL x).length ≤ x.length * 64 := by
  unfold prepL
  rw [List.length_flatten]
  have h1 := sum_le (fun p : List Nat => p.length) 64 ((x.filter fun n => !inB1 n).map b3L) fun p hp => by
    obtain ⟨n, hn, rfl⟩ := List.mem_map.mp hp
    exact hb n (List.mem_filter.mp hn).1
  have h2 : ((x.filter fun n => !inB1 n).map b3L).length ≤ x.length := by rw [List.length_map]; exact List.length_filter_le _ _
  have h3 := Nat.mul_le_mul_right 64 h2
  exact Nat.le_trans h1 h3

theorem ev_one {x : Str} {vp : Value} {p1 p2 p3 p4 p5 p6 : Pos} {p : List Nat} (hd : A.depth + 1 < recursionLimit) (hh : A.handled = none) (hu : A.units + 30 < cLine) (k1 : env.kindOf ("commonpath" : Str) = some .globalImplicit) (k2 : env.kindOf ("_law_prepared" : Str) = some .globalImplicit) (kx : env.kindOf x = some .local)
    (hv : l.lookup x = some vp) (hm : (Da.str (S p), vp) ∈ D) (hx : p.length ≤ 64) (hb : ∀ n ∈ p, (b3L n).length ≤ 64) (hn : (x == ("__debug__" : Str)) = false := by decide +kernel) :
    Ev w A mg mb s₀ X env l c D (.Call (.Name "commonpath" p1) [.List [.Call (.Name "_law_prepared" p2) [.Name x p3] [] p4] p5] [] p6) (.str (S (oneL p))) := by
  have hsz : sizeLine = 16777216 := sizeLine_eq
  have hpl := prep_len hb
  exact ev_fn (k := 15) k1 (by decide +kernel) (evl_cons (ev_list (ds := [.str (S (prepL p))]) (evl_cons (ev_fn (k := 25) k2 (by decide +kernel) (evl_cons (ev_local (d := .str (S p)) kx hv hm hn) evl_nil) (prep_spec hd hh (by omega) hb)) evl_nil) (by rw [hsz]; exact Nat.le_of_ble_eq_true rfl)) evl_nil)
    (com_spec (ps := [prepL p]) hd hh hu (by simp) (by simp) (fun q hq => by rw [List.mem_singleton.mp hq]; omega) (mixed_one _))

noncomputable def AbJ (mg mb : Str → Option Value) (s₀ : Base) (X : Addr → Prop) (env : Env) (a : Addr) (tot : List (List Nat)) (x : List Nat) (n : Nat) (s : Shared) : Prop :=
  ∃ L D p vp vs done, Cx mg mb s₀ X env L [] D s ∧ L.lookup ("path" : Str) = some vp ∧ (Da.str (S p), vp) ∈ D ∧ L.lookup ("found" : Str) = some (.ref a) ∧ (Da.atom (.ref a), .ref a) ∈ D ∧ s.heap.PlainList a vs ∧ HoldsL X s.heap (done.map fun p => Da.str (S p)) vs.toList ∧
    p.length ≤ n ∧ done ++ (chainL n p).map oneL = tot ∧ (∃ k, p = x.take k) ∧ done.length + n ≤ 128

theorem above_spec {x : List Nat} (hd : A.depth + 2 < recursionLimit) (hh : A.handled = none) (hu : A.units + 40 < cLine) (hx : x.length ≤ 64) (hb : ∀ n ∈ x, (b3L n).length ≤ 64) : Spec w A "_law_above" 27 [.str (S x)] (.list ((aboveL x).map fun p => .str (S p))) := by
  have hsz : sizeLine = 16777216 := sizeLine_eq
  refine enter (ps := ["path"]) (by omega) (fun pm cd doc vs hl => ?_) (by decide +kernel) rfl rfl rfl ?_
  · match vs, hl with
    | [v], _ => rfl
  · intro X mg mb s s' E _ env vs hs hc hh' hl _ _ _ F
    match vs, hl with
    | [v], _ =>
    have kd : ∀ {x : Str} {kd : NameKind}, (scoAt 27).names.lookup x = some kd → env.kindOf x = some kd := fun h => kindOf_eq hs h
    have hu' : (A.deeper env).units + 30 < cLine := by rw [Around.deeper_units]; omega
    have hd' : (A.deeper env).depth + 1 < recursionLimit := by show A.depth + 1 + 1 < _; omega
    refine wpAny_execs_cons (wpAny_Assign_Name (wpAny_List (wpAny_mono ((evl_cons (ev_one (p := x) hd' hh hu' (kd (by decide +kernel)) (kd (by decide +kernel)) (kd (by decide +kernel)) rfl (.head _) hx hb) evl_nil) _ _ F) (fun vs s₁ h₁ => ⟨?_, ?_⟩) fun _ _ e => e)) rfl)
    · rw [h₁.2.length, hsz]; exact Nat.le_of_ble_eq_true rfl
    obtain ⟨k₁, vo, r, rfl, ⟨to, rfl⟩, rfl⟩ := h₁
    have F1 := F.keeps k₁
    generalize ha : s₁.heap.objs.size = a
    generalize hH : s₁.heap.push { cls := .type "list", data := .seq ([.str (S (oneL x)) to] : List Value).toArray } = H
    have na : New s₁.heap a := ha ▸ new_size _
    have ga : H.get? a = some { cls := .type "list", data := .seq ([.str (S (oneL x)) to] : List Value).toArray } := by rw [← hH, ← ha]; exact Heap.get?_push_size _ rfl
    have gg : Grow s₁.heap H := hH ▸ grow_push _ _
    have F2 := F1.keeps (s' := { s₁ with heap := H }) ⟨H, s₁.toks, rfl, gg⟩
    have F3 : Cx mg mb (.of s) (fun b => (X b ∧ Away env b) ∧ b ≠ a) env [("path", v)] [] [(.atom (.ref a), .ref a), (.str (S x), v)] { s₁ with heap := H } := by
      refine (F2.toX (Y := fun b => (X b ∧ Away env b) ∧ b ≠ a) (fun b hb => hb.1.2) (fun b hb => ⟨F2.xn b hb, fun q => by rw [q] at hb; rw [show H.get? a = none from hb] at ga; cases ga⟩) ?_).add (d := .atom (.ref a)) rfl
      intro p hp
      rw [List.mem_singleton.mp hp]
      exact F2.led _ (.head _)
    have xa : X a ∧ Away env a := F1.xn a na
    have a0 : ∀ o, ¬ (Base.of s).B a o := fun o e => new_ne na (F1.keep a o e) rfl
    refine F3.rebase.st (kd (by decide +kernel)) fun s₂ G => ?_
    have ga2 : s₂.heap.get? a = some { cls := .type "list", data := .seq ([.str (S (oneL x)) to] : List Value).toArray } := G.keep a _ ⟨xa.2, ga⟩
    have F4 := F3.unbase G
    refine ex_while (AbJ mg mb (.of s) (fun b => (X b ∧ Away env b) ∧ b ≠ a) env a (aboveL x) x) (n := x.length) ⟨_, _, x, v, _, [oneL x], F4, rfl, .tail _ (.head _), rfl, .head _, ⟨_, ga2⟩, ⟨_, _, rfl, ⟨to, rfl⟩, rfl⟩, Nat.le_refl _, rfl, ⟨x.length, List.take_length.symm⟩, by simp; omega⟩ ?_
    rintro n s E' ⟨L, D, p, vp, ys, done, F, lp, mp, lf, mf, hpl, hys, hpn, htot, ⟨kk, hpx⟩, hdn⟩
    have hplen : p.length ≤ 64 := by rw [hpx, List.length_take]; omega
    have hpb : ∀ n ∈ p, (b3L n).length ≤ 64 := fun n hn => hb n (by rw [hpx] at hn; exact List.mem_of_mem_take hn)
    refine wpAny_mono ((ts_neS (x := dirL p) (y := p) (ev_fn (k := 14) (kd (by decide +kernel)) (by decide +kernel) (evl_cons (ev_local (d := .str (S p)) (kd (by decide +kernel)) lp mp) evl_nil) (dirname_spec hd' (by omega))) (ev_local (d := .str (S p)) (kd (by decide +kernel)) lp mp)) _ _ F) (fun b s₃ h₃ => ?_) fun _ _ e => e
    obtain ⟨k₃, rfl⟩ := h₃
    have F5 := F.keeps k₃
    have hpl5 := hpl.at fun o => kg k₃ a o
    have hys5 := hys.grow (kg k₃)
    cases hne : dirL p != p with
    | true =>
      simp only [if_true]
      have hne' : dirL p ≠ p := by simpa using hne
      have hlt := dir_lt hne'
      obtain ⟨n', rfl⟩ : ∃ n', n = n' + 1 := ⟨n - 1, by omega⟩
      obtain ⟨kd2, hk2⟩ := dir_pre p
      obtain ⟨np, e1⟩ := id hpl5
      have G := F5.rebase
      refine ex_assign G (ev_fn (k := 14) (kd (by decide +kernel)) (by decide +kernel) (evl_cons (ev_local (d := .str (S p)) (kd (by decide +kernel)) lp mp) evl_nil) (dirname_spec hd' (by omega))) (kd (by decide +kernel)) fun v₄ s₄ G => ?_
      have F6 := F5.unbase G
      have hpl6 : s₄.heap.PlainList a ys := hpl5.at fun o e => G.keep a o ⟨xa.2, e⟩
      have hys6 : HoldsL _ s₄.heap (done.map fun p => Da.str (S p)) ys.toList := hys5.ext fun b o xb e => ⟨xb, G.keep b o ⟨xb.1.2, e⟩⟩
      have hsub : ∀ n ∈ dirL p, (b3L n).length ≤ 64 := fun n hn => hpb n (by rw [hk2] at hn; exact List.mem_of_mem_take hn)
      have hyl := hys6.length
      rw [List.length_map, Array.length_toList] at hyl
      refine ex_append F6 (ev_local (d := .atom (.ref a)) (kd (by decide +kernel)) (lkc (by decide +kernel) lf) (.tail _ mf)) (ev_one (p := dirL p) hd' hh hu' (kd (by decide +kernel)) (kd (by decide +kernel)) (kd (by decide +kernel)) lkh (.head _) (by omega) hsub) hpl6 (by omega)
        (fun q => q.2 rfl) xa.2.1 (fun n c' e => xa.2.2 n c' e) a0 fun v₅ s₅ F7 hv5 hp7 hk7 => wpAny_execs_nil ⟨n', Nat.lt_succ_self _, _, _, dirL p, v₄, _, done ++ [oneL (dirL p)], F7, lkh, .head _, lkc (by decide +kernel) lf, .tail _ mf, hp7, ?_, by omega, ?_, ?_, ?_⟩
      · rw [Array.toList_push, List.map_append]
        exact (hys6.ext fun b o xb e => ⟨xb, hk7 b o xb.2 e⟩).append (HoldsL.one hv5)
      · rw [← htot]
        have : chainL (n' + 1) p = dirL p :: chainL n' (dirL p) := by
          show (if dirL p == p then [] else dirL p :: chainL n' (dirL p)) = _
          rw [if_neg (by simpa using hne')]
        rw [this]; simp
      · rw [hk2, hpx, List.take_take]; exact ⟨_, rfl⟩
      · rw [List.length_append]; simp only [List.length_cons, List.length_nil]; omega
    | false =>
      simp only [Bool.false_eq_true, if_false]
      have he : dirL p = p := by simpa using hne
      have hch : chainL n p = [] := by
        cases n with
        | zero => rfl
        | succ n =>
          show (if dirL p == p then [] else dirL p :: chainL n (dirL p)) = _
          rw [if_pos (by simpa using he)]
      rw [hch, List.map_nil, List.append_nil] at htot
      refine ex_ret F5 (ev_local (d := .atom (.ref a)) (kd (by decide +kernel)) lf mf) fun v₆ s₆ k₆ h₆ => ⟨(F5.keeps k₆).done, ?_⟩
      obtain rfl : v₆ = .ref a := h₆
      rw [htot] at hys5
      obtain ⟨np, e1⟩ := hpl5
      exact ⟨a, ys.toList, rfl, xa, ⟨_, kg k₆ _ _ e1, rfl, np, by simp⟩, (hys5.grow (kg k₆)).weak fun b xb => xb.1⟩
end
end Mine

end
section
open PySem PySem.W PyProof.Rows
open PySem.SeqAt
namespace Mine

/-- a kind of data that can be told apart -/
structure Kd (β : Type) [DecidableEq β] (d : β → Da) (k : Nat) : Prop where
  eq : ∀ {A : Around} {s : Shared} {X Y : Addr → Prop} {x y : β} {v u : Value}, A.units + k < cLine → Holds X s.heap (d x) v → Holds Y s.heap (d y) u → EqAt A s v u (decide (x = y))
  inj : ∀ {h : Heap} {X Y : Addr → Prop} {x y : β} {v : Value}, Holds X h (d x) v → Holds Y h (d y) v → x = y

noncomputable def strD (x : List Nat) : Da := .str (S x)
noncomputable def dP (p : List Nat × List Nat) : Da := .tup [.str (S p.1), .str (S p.2)]

theorem kStr (k : Nat) : Kd (List Nat) strD k where
  eq := fun {A s X Y x y v u} _ h1 h2 => by
    obtain ⟨t, rfl⟩ := h1
    obtain ⟨t', rfl⟩ := h2
    have := EqAt.str_str (A := A) (s := s) (S x) t (S y) t'
    rw [S_beq] at this
    have e : (x == y) = decide (x = y) := by rw [Bool.eq_iff_iff, beq_iff_eq, decide_eq_true_eq]
    rw [← e]; exact this
  inj := fun {h X Y x y v} h1 h2 => by
    obtain ⟨t, rfl⟩ := h1
    obtain ⟨t', e⟩ := h2
    have : S x = S y := by injection e
    exact S_inj this
theorem kBool (k : Nat) : Kd Bool Da.bool k where
  eq := fun {A s X Y x y v u} _ h1 h2 => by
    obtain rfl : v = .bool x := h1
    obtain rfl : u = .bool y := h2
    exact EqAt.bool_bool x y
  inj := fun {h X Y x y v} h1 h2 => by
    obtain rfl : v = .bool x := h1
    have : Value.bool x = .bool y := h2
    cases this; rfl

theorem HoldsL.inj {β : Type} [DecidableEq β] {d : β → Da} {k : Nat} (K : Kd β d k) {h : Heap} {X Y : Addr → Prop} : ∀ {xs ys : List β} {vs : List Value}, HoldsL X h (xs.map d) vs → HoldsL Y h (ys.map d) vs → xs = ys
  | [], [], _, _, _ => rfl
  | [], y :: ys, _, h1, h2 => by
    obtain ⟨v, r, e, _, _⟩ := h2
    rw [show _ = [] from h1] at e; cases e
  | x :: xs, [], _, h1, h2 => by
    obtain ⟨v, r, e, _, _⟩ := h1
    rw [show _ = [] from h2] at e; cases e
  | x :: xs, y :: ys, _, h1, h2 => by
    obtain ⟨v, r, rfl, a1, a2⟩ := h1
    obtain ⟨v', r', e, b1, b2⟩ := h2
    cases e
    rw [K.inj a1 b1, HoldsL.inj K a2 b2]

theorem range_all {β : Type} [DecidableEq β] [Inhabited β] : ∀ (xs ys : List β), xs.length = ys.length → ((List.range xs.length).all fun j => decide (xs.getD j default = ys.getD j default)) = decide (xs = ys)
  | [], [], _ => by simp
  | [], _ :: _, h => by simp at h
  | _ :: _, [], h => by simp at h
  | x :: xs, y :: ys, h => by
    have ih := range_all xs ys (by simpa using h)
    rw [List.length_cons, List.range_succ_eq_map, List.all_cons, List.all_map]
    have : ((List.range xs.length).all ((fun j => decide ((x :: xs).getD j default = (y :: ys).getD j default)) ∘ Nat.succ)) = decide (xs = ys) := by
      rw [← ih]; rfl
    rw [this]
    simp only [List.getD_cons_zero, List.cons.injEq, Bool.decide_and]

theorem SeqAt.sameSeq {h : Heap} {a : Addr} {T : String} {vs ws : List Value} (x : SeqAt h a T vs) (y : SeqAt h a T ws) : vs = ws := by
  obtain ⟨o, h1, _, n, hd⟩ := x
  obtain ⟨o', h1', _, n', hd'⟩ := y
  rw [h1] at h1'; cases h1'
  rw [hd] at hd'
  simp at hd'
  exact hd'.1

section
variable {β : Type} [DecidableEq β] [Inhabited β] {d : β → Da} {k : Nat}
theorem items_eq (K : Kd β d k) {A : Around} {s : Shared} {X Y : Addr → Prop} {xs ys : List β} {vs ws : List Value} (hu : A.units + k < cLine) (h1 : HoldsL X s.heap (xs.map d) vs) (h2 : HoldsL Y s.heap (ys.map d) ws) (hl : xs.length = ys.length) :
    ∀ j (q1 : j < vs.toArray.size) (q2 : j < ws.toArray.size), EqAt A s vs.toArray[j] ws.toArray[j] (decide (xs.getD j default = ys.getD j default)) := by
  intro j q1 q2
  have l1 := h1.length
  have l2 := h2.length
  rw [List.length_map] at l1 l2
  simp only [List.size_toArray] at q1 q2
  have r1 : j < xs.length := by omega
  have r2 : j < ys.length := by omega
  obtain ⟨v, e1, a1⟩ := h1.nth (i := j) (d := d xs[j]) (by rw [List.getElem?_map, List.getElem?_eq_getElem r1]; rfl)
  obtain ⟨u, e2, a2⟩ := h2.nth (i := j) (d := d ys[j]) (by rw [List.getElem?_map, List.getElem?_eq_getElem r2]; rfl)
  have f1 : vs.toArray[j] = v := by
    rw [List.getElem?_eq_getElem q1] at e1; simpa using e1
  have f2 : ws.toArray[j] = u := by
    rw [List.getElem?_eq_getElem q2] at e2; simpa using e2
  have g1 : xs.getD j default = xs[j] := by simp [List.getD, r1]
  have g2 : ys.getD j default = ys[j] := by simp [List.getD, r2]
  rw [f1, f2, g1, g2]
  exact K.eq hu a1 a2

/-- lists of a kind, compared -/
theorem rcEqL (K : Kd β d k) {A : Around} {s : Shared} {X Y : Addr → Prop} {xs ys : List β} {v u : Value} (hu : A.units + (k + 1) < cLine) (h1 : Holds X s.heap (.list (xs.map d)) v) (h2 : Holds Y s.heap (.list (ys.map d)) u) : RcAt A s v u (decide (xs = ys)) := by
  obtain ⟨a, vs, rfl, _, ho, hl⟩ := h1
  obtain ⟨b, ws, rfl, _, ho2, hl2⟩ := h2
  have l1 := hl.length
  have l2 := hl2.length
  rw [List.length_map] at l1 l2
  by_cases hlen : xs.length = ys.length
  · have := RcAt.lists (e := fun j => decide (xs.getD j default = ys.getD j default)) ho.list ho2.list (by simp; omega) (by omega) (items_eq K (A := A.in1) (by simp; omega) hl hl2 hlen)
    rw [List.size_toArray, l1, range_all xs ys hlen] at this
    exact this
  · have := RcAt.lists_lengths ho.list ho2.list (A := A) (by simp; omega) (by omega)
    have e : decide (xs = ys) = false := decide_eq_false fun q => hlen (by rw [q])
    rw [e]; exact this
theorem rcNeL (K : Kd β d k) {A : Around} {s : Shared} {X Y : Addr → Prop} {xs ys : List β} {v u : Value} (hu : A.units + (k + 1) < cLine) (h1 : Holds X s.heap (.list (xs.map d)) v) (h2 : Holds Y s.heap (.list (ys.map d)) u) : RcNeAt A s v u (!decide (xs = ys)) := by
  obtain ⟨a, vs, rfl, _, ho, hl⟩ := h1
  obtain ⟨b, ws, rfl, _, ho2, hl2⟩ := h2
  have l1 := hl.length
  have l2 := hl2.length
  rw [List.length_map] at l1 l2
  by_cases hlen : xs.length = ys.length
  · have := RcNeAt.lists (e := fun j => decide (xs.getD j default = ys.getD j default)) ho.list ho2.list (by simp; omega) (by omega) (items_eq K (A := A.in1) (by simp; omega) hl hl2 hlen)
    rw [List.size_toArray, l1, range_all xs ys hlen] at this
    exact this
  · have := RcNeAt.lists_lengths ho.list ho2.list (A := A) (by simp; omega) (by omega)
    have e : decide (xs = ys) = false := decide_eq_false fun q => hlen (by rw [q])
    rw [e]; exact this
end

theorem kPair : Kd (List Nat × List Nat) dP 2 where
  eq := fun {A s X Y x y v u} hu h1 h2 => by
    obtain ⟨a, vs, rfl, xa, ho, hl⟩ := h1
    obtain ⟨b, ws, rfl, xb, ho2, hl2⟩ := h2
    by_cases hab : a = b
    · subst hab
      have e := ho.sameSeq ho2
      subst e
      have : [x.1, x.2] = [y.1, y.2] := HoldsL.inj (kStr 0) (xs := [x.1, x.2]) (ys := [y.1, y.2]) hl hl2
      simp only [List.cons.injEq, and_true] at this
      have e : decide (x = y) = true := decide_eq_true (Prod.ext this.1 this.2)
      rw [e]
      exact EqAt.same _
    · have he := items_eq (kStr 0) (A := A.in1) (s := s) (xs := [x.1, x.2]) (ys := [y.1, y.2]) (by simp; omega) hl hl2 rfl
      have := RcAt.tuples (e := fun j => decide ([x.1, x.2].getD j default = [y.1, y.2].getD j default)) (A := A) (s := s) (l := a) (b := b) (items := vs.toArray) (items2 := ws.toArray) ho ho2 (by omega) he
      have l1 : vs.length = 2 := hl.length
      have l2 : ws.length = 2 := hl2.length
      simp only [List.size_toArray, l1, l2, Nat.min_self, beq_self_eq_true, Bool.and_true] at this
      have ra := range_all [x.1, x.2] [y.1, y.2] rfl
      have e2 : [x.1, x.2].length = 2 := rfl
      rw [e2] at ra
      rw [ra] at this
      have e : decide (x = y) = decide ([x.1, x.2] = [y.1, y.2]) := by
        apply decide_eq_decide.mpr
        constructor
        · intro q; rw [q]
        · intro q; simp only [List.cons.injEq, and_true] at q; exact Prod.ext q.1 q.2
      rw [e]
      exact EqAt.of_refs hab this
  inj := fun {h X Y x y v} h1 h2 => by
    obtain ⟨a, vs, rfl, xa, ho, hl⟩ := h1
    obtain ⟨b, ws, e, xb, ho2, hl2⟩ := h2
    cases e
    have e := ho.sameSeq ho2
    subst e
    have : [x.1, x.2] = [y.1, y.2] := HoldsL.inj (kStr 0) (xs := [x.1, x.2]) (ys := [y.1, y.2]) hl hl2
    simp only [List.cons.injEq, and_true] at this
    exact Prod.ext this.1 this.2
end Mine

end
section
open PySem PySem.W PyProof.Rows
open PySem.SeqAt
namespace Mine
section
variable {w : World} {A : Around} {mg mb : Str → Option Value} {s₀ : Base} {X : Addr → Prop} {env : Env} {l c : List (Str × Value)} {D : List (Da × Value)}

/-- a store that tells what stays -/
theorem Cx.stR {s : Shared} {E : Value → Shared → Prop} (F : Cx mg mb s₀ X env l c D s) {x : Str} {v : Value} {Q : Unit → Shared → Prop} (hx : env.kindOf x = some .local)
    (h : ∀ h' tk, Cx mg mb s₀ X env ((x, v) :: l) c D { s with heap := h', toks := tk } → (∀ b o, b ≠ env.locals → s.heap.get? b = some o → h'.get? b = some o) → Q () { s with heap := h', toks := tk }) : wpAny (model pw w) A (storeName env x v) Q E s := by
  refine wpAny_storeName_local hx F.ns (fun h' hn hs => h h' _ ?_ fun b o q e => hs.extBut b o q e) (by rw [F.kind]; rfl)
  refine ⟨F.kind, F.glob, F.blt, let ⟨_, _, e⟩ := F.same; ⟨h', _, by rw [e]⟩, fun b o e => hs.extBut b o (F.old b o e).1 (F.keep b o e), F.top, by rw [lk_cons] at hn; exact hn,
    fun n c' e => (F.cell n c' e).sameBut hs (F.off n c' e), F.apart, F.off, F.old, F.xl, fun b hb => F.xn b (new_but hs (let ⟨o, _, _, ho, _⟩ := hn; ⟨o, ho⟩) hb), fun p hp => (F.led p hp).ext fun b o hb e => ⟨hb, hs.extBut b o (F.xl b hb).1 e⟩⟩

theorem asg2 {α : Type} {xs : List α} {d1 d2 : α → Da} {scope : Scope} {cl : List (Str × Addr)} {x y : Str} {px py tp : Pos} {k : Nat} (hh : A.handled = none) (hx : scope.names.lookup x = some .local) (hy : scope.names.lookup y = some .local) :
    Asg w A mg mb s₀ env c D scope cl (.Tuple [.Name x px, .Name y py] k tp) xs (fun a => .tup [d1 a, d2 a]) (J2 x y d1 d2) := by
  intro Y cenv e1 e2 a ha L s v Q E F hv hQ
  have kx : cenv.kindOf x = some .local := by unfold Env.kindOf; rw [e1]; exact lookup_relabel_local hx
  have ky : cenv.kindOf y = some .local := by unfold Env.kindOf; rw [e1]; exact lookup_relabel_local hy
  obtain ⟨at', vs, rfl, xa, ho, hl⟩ := hv
  obtain ⟨vx, r, rfl, h1, vy, r2, rfl, h2, rfl⟩ := hl
  rw [assign_Tuple]
  refine wpAny_bind (wpAny_standAt (PyProof.Rows.unpack_tuple (items := [vx, vy].toArray) hh ho rfl rfl fun h' hs => ?_))
  have g : Grow s.heap h' := fun b o e => hs b o (Nat.ne_of_lt (Heap.lt_size e)) e
  have F1 : Cx mg mb s₀ Y cenv L c ((d2 a, vy) :: (d1 a, vx) :: D) { s with heap := h' } := ((F.add h1).add h2).keeps ⟨h', s.toks, rfl, g⟩
  show wpAny _ A (do holding [vy] (assign (.Name x px) cenv vx); do holding [] (assign (.Name y py) cenv vy); pure ()) _ _ _
  refine wpAny_bind (wpAny_holding (wpAny_assign_Name (F1.stR kx fun h₁ tk₁ F2 k2 => ?_)))
  refine wpAny_bind (wpAny_holding (wpAny_assign_Name (F2.stR ky fun h₂ tk₂ F3 k3 => wpAny_pure ?_)))
  exact hQ h₂ tk₂ _ [(d2 a, vy), (d1 a, vx)] (fun b o q e => k3 b o q (k2 b o q (g b o e))) F3 ⟨vx, vy, L, rfl, rfl⟩

theorem ev_eqS {a b : Expr} {pos : Pos} {x y : List Nat} (ha : Ev w A mg mb s₀ X env l c D a (.str (S x))) (hb : Ev w A mg mb s₀ X env l c D b (.str (S y))) (hm : behindInMarks .Eq b = false := by with_unfolding_all rfl) :
    Ev w A mg mb s₀ X env l c D (.Compare a [.Eq] [b] pos) (.bool (x == y)) := ev_cmp ha hb (fun s E va vb _ hX h1 h2 => by
    obtain ⟨t, rfl⟩ := h1
    obtain ⟨u, rfl⟩ := h2
    refine P.eq_str ⟨keeps_refl s, ?_⟩
    rfl) hm
theorem ev_gtI {a b : Expr} {pos : Pos} {i j : Int} (ha : Ev w A mg mb s₀ X env l c D a (.int i)) (hb : Ev w A mg mb s₀ X env l c D b (.int j)) (hm : behindInMarks .Gt b = false := by with_unfolding_all rfl) :
    Ev w A mg mb s₀ X env l c D (.Compare a [.Gt] [b] pos) (.bool (decide (j < i))) := ev_cmp ha hb (fun s E va vb _ hX h1 h2 => by
    obtain ⟨t, rfl⟩ := h1
    obtain ⟨u, rfl⟩ := h2
    exact PyProof.Rows.gt_int ⟨keeps_refl s, rfl⟩) hm
/-- lists of a kind, compared -/
theorem ev_eqL {β : Type} [DecidableEq β] [Inhabited β] {d : β → Da} {k : Nat} (K : Kd β d k) {a b : Expr} {pos : Pos} {xs ys : List β} (hu : A.units + (k + 1) < cLine) (ha : Ev w A mg mb s₀ X env l c D a (.list (xs.map d))) (hb : Ev w A mg mb s₀ X env l c D b (.list (ys.map d)))
    (hm : behindInMarks .Eq b = false := by with_unfolding_all rfl) : Ev w A mg mb s₀ X env l c D (.Compare a [.Eq] [b] pos) (.bool (decide (xs = ys))) := ev_cmp ha hb (fun s E va vb _ hX h1 h2 => rcEqL K hu h1 h2 pw w E _ ⟨keeps_refl s, rfl⟩) hm
theorem ts_neL {β : Type} [DecidableEq β] [Inhabited β] {d : β → Da} {k : Nat} (K : Kd β d k) {a b : Expr} {pos : Pos} {xs ys : List β} (hu : A.units + (k + 1) < cLine) (ha : Ev w A mg mb s₀ X env l c D a (.list (xs.map d))) (hb : Ev w A mg mb s₀ X env l c D b (.list (ys.map d)))
    (hm : behindInMarks .NotEq b = false := by with_unfolding_all rfl) : Ts w A mg mb s₀ X env l c D (.Compare a [.NotEq] [b] pos) (!decide (xs = ys)) := ts_cmp ha hb (fun s E va vb _ hX h1 h2 => rcNeL K hu h1 h2 pw w E _ ⟨keeps_refl s, rfl⟩) hm

open Classical in
/-- whether a value is a datum -/
noncomputable def isD (X : Addr → Prop) (h : Heap) (d : Da) (u : Value) : Bool := decide (Holds X h d u)
theorem isD_of {β : Type} [DecidableEq β] {d : β → Da} {k : Nat} (K : Kd β d k) {h : Heap} {x y : β} {u : Value} (hu : Holds X h (d y) u) : isD X h (d x) u = decide (y = x) := by
  unfold isD
  by_cases q : y = x
  · subst q; simp [hu]
  · have : ¬ Holds X h (d x) u := fun g => q (K.inj hu g)
    simp [this, q]
theorem isD_any {β : Type} [DecidableEq β] {d : β → Da} {k : Nat} (K : Kd β d k) {h : Heap} {x : β} : ∀ {ys : List β} {vs : List Value}, HoldsL X h (ys.map d) vs → vs.any (isD X h (d x)) = ys.any fun y => decide (y = x)
  | [], _, g => by rw [show _ = [] from g]; rfl
  | y :: ys, _, g => by
    obtain ⟨u, r, rfl, h1, h2⟩ := g
    rw [List.any_cons, List.any_cons, isD_any K h2, isD_of K h1]
theorem isD_eq {β : Type} [DecidableEq β] {d : β → Da} {k : Nat} (K : Kd β d k) {s : Shared} {x : β} {v : Value} (hu : A.units + 1 + k < cLine) (hx : Holds X s.heap (d x) v) : ∀ {ys : List β} {vs : List Value}, HoldsL X s.heap (ys.map d) vs → ∀ u ∈ vs, EqAt A.in1 s u v (isD X s.heap (d x) u)
  | [], _, g, u, hm => by rw [show _ = [] from g] at hm; simp at hm
  | y :: ys, _, g, u, hm => by
    obtain ⟨u', r, rfl, h1, h2⟩ := g
    rcases List.mem_cons.mp hm with rfl | hm
    · rw [isD_of K h1]
      exact K.eq (A := A.in1) (by simpa using hu) h1 hx
    · exact isD_eq K hu hx h2 u hm

theorem op_inL {β : Type} [DecidableEq β] {d : β → Da} {k : Nat} (K : Kd β d k) {s : Shared} {E : Value → Shared → Prop} {Q : Value → Shared → Prop} {x : β} {ys : List β} {v u : Value} (hu : A.units + 1 + k < cLine) (h1 : Holds X s.heap (d x) v) (h2 : Holds X s.heap (.list (ys.map d)) u)
    (h : Q (.bool (ys.any fun y => decide (y = x))) s) : wpAny (model pw w) A (compareOp .In v u) Q E s := by
  obtain ⟨a, vs, rfl, xa, ho, hl⟩ := h2
  refine in_listAt (isD X s.heap (d x)) ho.list (fun y hy => isD_eq K hu h1 hl y (by simpa using hy)) ?_
  have : vs.toArray.any (isD X s.heap (d x)) = ys.any fun y => decide (y = x) := by rw [List.any_toArray]; exact isD_any K hl
  rw [this]; exact h
theorem ev_inL {β : Type} [DecidableEq β] {d : β → Da} {k : Nat} (K : Kd β d k) {a b : Expr} {pos : Pos} {x : β} {ys : List β} (hu : A.units + 1 + k < cLine) (ha : Ev w A mg mb s₀ X env l c D a (d x)) (hb : Ev w A mg mb s₀ X env l c D b (.list (ys.map d)))
    (hm : behindInMarks .In b = false := by with_unfolding_all rfl) : Ev w A mg mb s₀ X env l c D (.Compare a [.In] [b] pos) (.bool (ys.any fun y => decide (y = x))) := ev_cmp ha hb (fun s E va vb _ hX h1 h2 => op_inL K hu h1 h2 ⟨keeps_refl s, rfl⟩) hm
theorem ts_inL {β : Type} [DecidableEq β] {d : β → Da} {k : Nat} (K : Kd β d k) {a b : Expr} {pos : Pos} {x : β} {ys : List β} (hu : A.units + 1 + k < cLine) (ha : Ev w A mg mb s₀ X env l c D a (d x)) (hb : Ev w A mg mb s₀ X env l c D b (.list (ys.map d)))
    (hm : behindInMarks .In b = false := by with_unfolding_all rfl) : Ts w A mg mb s₀ X env l c D (.Compare a [.In] [b] pos) (ys.any fun y => decide (y = x)) := ts_cmp ha hb (fun s E va vb _ hX h1 h2 => op_inL K hu h1 h2 ⟨keeps_refl s, rfl⟩) hm
theorem ts_notInT {β : Type} [DecidableEq β] {d : β → Da} {k : Nat} (K : Kd β d k) {a b : Expr} {pos : Pos} {x : β} {ys : List β} (hu : A.units + 1 + k < cLine) (ha : Ev w A mg mb s₀ X env l c D a (d x)) (hb : Ev w A mg mb s₀ X env l c D b (.tup (ys.map d)))
    (hm : behindInMarks .NotIn b = false := by with_unfolding_all rfl) : Ts w A mg mb s₀ X env l c D (.Compare a [.NotIn] [b] pos) (!ys.any fun y => decide (y = x)) := ts_cmp ha hb (fun s E va vb _ hX h1 h2 => by
  obtain ⟨a', vs, rfl, xa, ho, hl⟩ := h2
  refine notIn_tupleAt (isD X s.heap (d x)) ho (fun y hy => isD_eq K hu h1 hl y (by simpa using hy)) ⟨keeps_refl s, ?_⟩
  have : vs.toArray.any (isD X s.heap (d x)) = ys.any fun y => decide (y = x) := by rw [List.any_toArray]; exact isD_any K hl
  rw [this]) hm

theorem ev_andB {a b : Expr} {pos : Pos} {p q : Bool} (ha : Ev w A mg mb s₀ X env l c D a (.bool p)) (hb : p = true → Ev w A mg mb s₀ X env l c D b (.bool q)) : Ev w A mg mb s₀ X env l c D (.BoolOp .And [a, b] pos) (.bool (p && q)) := fun s E F => by
  refine wpAny_And2 (ev_use ha F fun v s₁ k₁ h₁ => ?_)
  obtain rfl : v = .bool p := h₁
  refine wpAny_truthy_bool ?_
  cases p with
  | true => exact ev_use (hb rfl) (F.keeps k₁) fun u s₂ k₂ h₂ => ⟨kt k₁ k₂, h₂⟩
  | false => exact ⟨k₁, rfl⟩
theorem ts_or {a b : Expr} {pos : Pos} {p q : Bool} (ha : Ts w A mg mb s₀ X env l c D a p) (hb : p = false → Ts w A mg mb s₀ X env l c D b q) : Ts w A mg mb s₀ X env l c D (.BoolOp .Or [a, b] pos) (p || q) := fun s E F => by
  refine wpAny_isTrue_BoolOp (wpAny_allTrue_Or_cons (wpAny_mono (ha s E F) (fun r s₁ h₁ => ?_) fun _ _ e => e))
  obtain ⟨k₁, rfl⟩ := h₁
  cases r with
  | true => exact ⟨k₁, rfl⟩
  | false =>
    simp only [Bool.false_eq_true, if_false]
    refine wpAny_allTrue_Or_cons (wpAny_mono (hb rfl s₁ E (F.keeps k₁)) (fun r' s₂ h₂ => ?_) fun _ _ e => e)
    obtain ⟨k₂, rfl⟩ := h₂
    cases r' with
    | true => exact ⟨kt k₁ k₂, rfl⟩
    | false => exact wpAny_allTrue_Or_nil ⟨kt k₁ k₂, rfl⟩

theorem b_lenL {ds : List Da} (hx : ds.length < 2 ^ 62) : BSpec w A (.builtin "len") [.list ds] (.int ds.length) := fun X s E vs hX h => by
  obtain ⟨_, _, rfl, ⟨a, ws, rfl, xa, ho, hl⟩, rfl⟩ := h
  have := hl.length
  refine Calls.call_len_list ho.list (by simp; omega) ⟨⟨_, s.toks + 1 + 1, rfl, fun _ _ e => e⟩, ?_⟩
  refine ⟨s.toks + 1, ?_⟩
  rw [← this]; simp
theorem b_all {bs : List Bool} (hh : A.handled = none) : BSpec w A (.builtin "all") [.list (bs.map Da.bool)] (.bool (bs.all id)) := fun X s E vs hX h => by
  obtain ⟨_, _, rfl, ⟨a, ws, rfl, xa, ho, hl⟩, rfl⟩ := h
  have hlen := hl.length
  rw [List.length_map] at hlen
  refine call_all_walk (wpAny_pyIter_list ho.list ?_)
  have hnew : New s.heap s.heap.objs.size := new_size _
  obtain ⟨oa, hoa⟩ := ho.some
  have hne : a ≠ s.heap.objs.size := new_ne hnew hoa
  refine ⟨_, _, _, _, _, _, (fun i => bs.getD i false), rfl, Walks.list (prog := pw) (w := w) (A := A.in1) hh s.heap.objs.size a hne ws.toArray, ⟨⟨_, Heap.get?_push_size _ rfl, rfl, rfl⟩, (ho.at (grow_push _ _ _)).list⟩, fun i v s' Q E' hv hq => ?_, fun h' tk hk => ?_⟩
  · replace hv : ws.toArray[i]? = some v := hv
    rw [List.getElem?_toArray] at hv
    obtain ⟨d, hd, hv'⟩ := hl.get hv
    rw [List.getElem?_map] at hd
    cases hb : bs[i]? with
    | none => rw [hb] at hd; cases hd
    | some b =>
      rw [hb] at hd
      simp at hd
      subst hd
      obtain rfl : v = .bool b := hv'
      have : bs.getD i false = b := by simp [List.getD, hb]
      replace hq : Q (bs.getD i false) s' := hq
      rw [this] at hq
      exact wpAny_truthy_bool hq
  · have e : (List.range ws.toArray.size).all (fun i => bs.getD i false) = bs.all id := by
      rw [List.size_toArray, hlen]
      clear hl hlen hk
      induction bs with
      | nil => rfl
      | cons b r ih =>
        rw [List.length_cons, List.range_succ_eq_map, List.all_cons, List.all_map, List.all_cons]
        congr 1
    rw [e]
    refine ⟨⟨h', tk, rfl, fun b o q => hk b o (by simpa using new_ne hnew q) (grow_push _ _ _ _ q)⟩, rfl⟩

/-- count += 1, for a cell -/
theorem ex_augC {x : Str} {px p2 pos : Pos} {i : Int} {j : Int} {k : Nat} {a : Addr} {v : Value} {rest : List Stmt} {s : Shared} {Q : Flow → Shared → Prop} {E : Value → Shared → Prop} (F : Cx mg mb s₀ X env l c D s) (hx : env.kindOf x = some .cell) (ha : env.cells.lookup x = some a)
    (hv : c.lookup x = some v) (hd : (Da.int i, v) ∈ D) (h : ∀ v s', Cx mg mb s₀ X env l ((x, v) :: c) ((.int (i + j), v) :: D) s' → wpAny (model pw w) A (execs rest env) Q E s') :
    wpAny (model pw w) A (execs (.AugAssign (.Name x px) .Add (.Constant (.int j) k p2) pos :: rest) env) Q E s := by
  obtain ⟨t, rfl⟩ := F.led _ hd
  refine wpAny_execs_cons (wpAny_AugAssign_Name (F.ldC hx ha hv (wpAny_Constant_int (iadd_int ?_))))
  have F1 : Cx mg mb s₀ X env l c ((.int (i + j), .int (i + j) (s.toks + 1)) :: D) { s with toks := s.toks + 1 + 1 } := ((F.keeps (keeps_tok s (s.toks + 1))).keeps (keeps_tok _ (s.toks + 1 + 1))).add ⟨_, rfl⟩
  exact F1.stC hx ha fun s' F2 => h _ s' F2
end
end Mine

end
section
open PySem PySem.W PyProof.Rows
open PySem.SeqAt
namespace Mine

noncomputable abbrev zObj (f0 : Value) (f1 : Bool) (TI TO : Addr) : Obj := { cls := .type "zip", dict := none, data := .fields #[f0, .bool f1, .bool false, .ref TI, .ref TO], slots := #[] }

section
variable {w : World} {A : Around} {E : Value → Shared → Prop} {s : Shared}

theorem zip_alive {z TI TO i1 i2 l1 l2 T : Addr} {k : Nat} {xs ys : Array Value} {x y : Value} {f1 : Bool} {oT : Obj} {Q : Option Value → Shared → Prop} (D : ZipApart z TI TO i1 i2 l1 l2)
    (hz : s.heap.get? z = some (zObj (rawInt T) f1 TI TO)) (hTI : IsPair s.heap TI (.ref i1) (.ref i2))
    (h1 : s.heap.IsListIter i1 l1 k) (h2 : s.heap.IsListIter i2 l2 k) (hl1 : s.heap.IsList l1 xs) (hl2 : s.heap.IsList l2 ys) (hx : xs[k]? = some x) (hy : ys[k]? = some y) (hT : s.heap.get? T = some oT)
    (hQ : ∀ h' f1', h'.get? z = some (zObj (rawInt T) f1' TI TO) → h'.IsListIter i1 l1 (k + 1) → h'.IsListIter i2 l2 (k + 1) → IsPair h' s.heap.objs.size x y →
      (∀ c o, c ≠ z → c ≠ i1 → c ≠ i2 → s.heap.get? c = some o → h'.get? c = some o) → Q (some (.ref s.heap.objs.size)) { s with heap := h' }) :
    wpAny (model pw w) A (pyNext (.ref z)) Q E s := by
  have hTy : s.TypeIs (.ref z) "zip" := ⟨_, hz, rfl⟩
  unfold pyNext
  refine wpAny_bind (wpAny_attempt (wpAny_callSpecial?_slot (name := Str.ofString "__next__") hTy F.slot_zip_next (wpAny_call_entry F.slot_zip_next hTy F.entry_zip_next ?_ (F.args_zip_next_1 _))))
  show wpAny _ _ (field (.ref z) 2 >>= _) _ _ _
  refine wpAny_bind (wpAny_field hz rfl (x := .bool false) rfl ?_)
  show wpAny _ _ (field (.ref z) 3 >>= _) _ _ _
  refine wpAny_bind (wpAny_field hz rfl (x := .ref TI) rfl ?_)
  refine wpAny_bind (wpAny_seqItems hTI rfl ?_)
  show wpAny _ _ (Builtin.SmallTypes.ownedTupleIsFree (.ref z) >>= _) _ _ _
  refine wpAny_bind (free_alive (cls := .type "zip") (r := [.bool false, .ref TI, .ref TO]) hz hT fun h₁ f1' hz₁ hs₁ => ?_)
  simp only [Bool.false_eq_true, if_false]
  simp only [List.forIn_cons, List.forIn_nil, ← Array.forIn_toList]
  refine wpAny_bind (wpAny_bind (wpAny_bind (wpAny_holding ?_)))
  show wpAny _ _ (Builtin.SmallTypes.nextOf (.ref i1) >>= _) _ _ _
  refine wpAny_bind (wpAny_nextOf_list_item (h1.extBut hs₁.extBut D.i1z) (hl1.extBut hs₁.extBut D.l1z) hx fun h₂ h1₂ hs₂ => wpAny_pure (wpAny_pure ?_))
  refine wpAny_bind (wpAny_bind (wpAny_holding ?_))
  show wpAny _ _ (Builtin.SmallTypes.nextOf (.ref i2) >>= _) _ _ _
  refine wpAny_bind (wpAny_nextOf_list_item (((h2.extBut hs₁.extBut D.i2z).extBut hs₂.extBut D.i12.symm)) ((hl2.extBut hs₁.extBut D.l2z).extBut hs₂.extBut D.l2i1) hy fun h₃ h2₃ hs₃ => wpAny_pure (wpAny_pure (wpAny_pure ?_)))
  dsimp only
  refine wpAny_bind (wpAny_newTuple (items := [x, y]) ?_ (by rw [sizeLine_eq]; exact Nat.le_of_ble_eq_true rfl))
  have hsz : h₃.objs.size = s.heap.objs.size := by rw [hs₃.1, hs₂.1, hs₁.1]
  have up : ∀ c o, c ≠ z → c ≠ i1 → c ≠ i2 → s.heap.get? c = some o → h₃.get? c = some o := fun c o c1 c2 c3 e => hs₃.extBut _ _ c3 (hs₂.extBut _ _ c2 (hs₁.extBut _ _ c1 e))
  have hz₃ : h₃.get? z = some (zObj (rawInt T) f1' TI TO) := hs₃.extBut _ _ D.i2z.symm (hs₂.extBut _ _ D.i1z.symm (by simpa using hz₁))
  refine wpAny_pure ⟨_, rfl, wpAny_pure ?_⟩
  show Q (some (.ref h₃.objs.size)) _
  rw [hsz]
  refine hQ _ f1' (Heap.get?_push_of_some _ hz₃) ?_ ?_ ?_ fun c o c1 c2 c3 e => Heap.get?_push_of_some _ (up c o c1 c2 c3 e)
  · exact (h1₂.extBut hs₃.extBut D.i12).at fun o e => Heap.get?_push_of_some _ e
  · exact h2₃.at fun o e => Heap.get?_push_of_some _ e
  · rw [← hsz]; exact Heap.get?_push_size _ rfl

theorem zip_alive_end {z TI TO i1 i2 l1 l2 T : Addr} {k : Nat} {xs ys : Array Value} {f1 : Bool} {oT : Obj} {Q : Option Value → Shared → Prop} (hh : A.handled = none) (D : ZipApart z TI TO i1 i2 l1 l2)
    (hz : s.heap.get? z = some (zObj (rawInt T) f1 TI TO)) (hTI : IsPair s.heap TI (.ref i1) (.ref i2))
    (h1 : s.heap.IsListIter i1 l1 k) (h2 : s.heap.IsListIter i2 l2 k) (hl1 : s.heap.IsList l1 xs) (hl2 : s.heap.IsList l2 ys) (hend : xs[k]? = none ∨ ys[k]? = none) (hT : s.heap.get? T = some oT)
    (hQ : ∀ h', (∀ c o, c ≠ z → c ≠ i1 → c ≠ i2 → s.heap.get? c = some o → h'.get? c = some o) → Q none { s with heap := h' }) :
    wpAny (model pw w) A (pyNext (.ref z)) Q E s := by
  have hTy : s.TypeIs (.ref z) "zip" := ⟨_, hz, rfl⟩
  unfold pyNext
  refine wpAny_bind (wpAny_attempt (wpAny_callSpecial?_slot (name := Str.ofString "__next__") hTy F.slot_zip_next (wpAny_call_entry F.slot_zip_next hTy F.entry_zip_next ?_ (F.args_zip_next_1 _))))
  show wpAny _ _ (field (.ref z) 2 >>= _) _ _ _
  refine wpAny_bind (wpAny_field hz rfl (x := .bool false) rfl ?_)
  show wpAny _ _ (field (.ref z) 3 >>= _) _ _ _
  refine wpAny_bind (wpAny_field hz rfl (x := .ref TI) rfl ?_)
  refine wpAny_bind (wpAny_seqItems hTI rfl ?_)
  show wpAny _ _ (Builtin.SmallTypes.ownedTupleIsFree (.ref z) >>= _) _ _ _
  refine wpAny_bind (free_alive (cls := .type "zip") (r := [.bool false, .ref TI, .ref TO]) hz hT fun h₁ f1' hz₁ hs₁ => ?_)
  simp only [Bool.false_eq_true, if_false]
  simp only [List.forIn_cons, List.forIn_nil, ← Array.forIn_toList]
  have fin : ∀ (h' : Heap) (e : Addr), (∀ c o, c ≠ z → c ≠ i1 → c ≠ i2 → s.heap.get? c = some o → h'.get? c = some o) → (∃ o, h'.get? e = some o ∧ o.cls = .type "StopIteration") →
      wpAny (model pw w) A (do if ← isInstance (.ref e) (.type "StopIteration") then pure none else throw (.ref e)) Q E { s with heap := h' } := by
    intro h' e hk he
    obtain ⟨o, ho, hc⟩ := he
    exact wpAny_bind (wpAny_isInstance (T := "StopIteration") (b := true) ⟨o, ho, hc⟩ isSubtype_stop (wpAny_pure (hQ h' hk)))
  refine wpAny_bind (wpAny_bind (wpAny_bind (wpAny_holding ?_)))
  show wpAny _ _ (Builtin.SmallTypes.nextOf (.ref i1) >>= _) _ _ _
  cases hx : xs[k]? with
  | none => exact wpAny_bind (wpAny_nextOf_list_end hh (h1.extBut hs₁.extBut D.i1z) (hl1.extBut hs₁.extBut D.l1z) hx fun h₂ e hs₂ he => fin h₂ e (fun c o c1 c2 c3 q => hs₂ _ _ c2 (hs₁.extBut _ _ c1 q)) he)
  | some x =>
    have hy : ys[k]? = none := by rcases hend with h | h; rw [hx] at h; cases h; exact h
    refine wpAny_bind (wpAny_nextOf_list_item (h1.extBut hs₁.extBut D.i1z) (hl1.extBut hs₁.extBut D.l1z) hx fun h₂ h1₂ hs₂ => wpAny_pure (wpAny_pure ?_))
    refine wpAny_bind (wpAny_bind (wpAny_holding ?_))
    show wpAny _ _ (Builtin.SmallTypes.nextOf (.ref i2) >>= _) _ _ _
    exact wpAny_bind (wpAny_nextOf_list_end hh (((h2.extBut hs₁.extBut D.i2z).extBut hs₂.extBut D.i12.symm)) ((hl2.extBut hs₁.extBut D.l2z).extBut hs₂.extBut D.l2i1) hy fun h₃ e hs₃ he => fin h₃ e (fun c o c1 c2 c3 q => hs₃ _ _ c3 (hs₂.extBut _ _ c2 (hs₁.extBut _ _ c1 q))) he)
end

theorem Walk.zip {w : World} {A : Around} {X : Addr → Prop} {z TI TO i1 i2 l1 l2 : Addr} {vs ws : List Value} {xs ys : List (List Nat)} (hh : A.handled = none) (D : ZipApart z TI TO i1 i2 l1 l2) (hX : ∀ b, X b → ¬ (b = z ∨ b = TI ∨ b = TO ∨ b = i1 ∨ b = i2)) (x1 : X l1) (x2 : X l2) :
    Walk w A X (fun b => b = z ∨ b = TI ∨ b = TO ∨ b = i1 ∨ b = i2) z ((xs.zip ys).map dP) (fun i h => (∃ f0 f1, h.get? z = some (zObj f0 f1 TI TO) ∧ EnFree X h f0 f1) ∧ IsPair h TI (.ref i1) (.ref i2) ∧ (∃ a b, IsPair h TO a b) ∧ h.IsListIter i1 l1 i ∧ h.IsListIter i2 l2 i ∧
      SeqAt h l1 "list" vs ∧ SeqAt h l2 "list" ws ∧ HoldsL X h (xs.map fun p => Da.str (S p)) vs ∧ HoldsL X h (ys.map fun p => Da.str (S p)) ws) where
  off := hX
  live := fun i h st b hb => by
    obtain ⟨⟨f0, f1, hz, _⟩, hTI, ⟨a, b', hTO⟩, ⟨o1, ho1, _⟩, ⟨o2, ho2, _⟩, _⟩ := st
    rcases hb with rfl | rfl | rfl | rfl | rfl
    · exact ⟨_, hz⟩
    · exact ⟨_, hTI⟩
    · exact ⟨_, hTO⟩
    · exact ⟨_, ho1⟩
    · exact ⟨_, ho2⟩
  frame := fun i h h' st hk => by
    obtain ⟨⟨f0, f1, hz, hf⟩, hTI, ⟨a, b', hTO⟩, h1, h2, s1, s2, hl1, hl2⟩ := st
    refine ⟨⟨f0, f1, hk z _ (.inr (.inl rfl)) hz, ?_⟩, hk TI _ (.inr (.inr (.inl rfl))) hTI, ⟨a, b', hk TO _ (.inr (.inr (.inr (.inl rfl)))) hTO⟩, h1.at fun o e => hk i1 o (.inr (.inr (.inr (.inr (.inl rfl))))) e, h2.at fun o e => hk i2 o (.inr (.inr (.inr (.inr (.inr rfl))))) e,
      s1.at fun o e => hk l1 o (.inl x1) e, s2.at fun o e => hk l2 o (.inl x2) e, hl1.ext fun b o xb e => ⟨xb, hk b o (.inl xb) e⟩, hl2.ext fun b o xb e => ⟨xb, hk b o (.inl xb) e⟩⟩
    rcases hf with hf | ⟨T, oT, e1, xT, hT⟩
    · exact .inl hf
    · exact .inr ⟨T, oT, e1, xT, hk T _ (.inl xT) hT⟩
  item := fun i d s Q E hd st hn hQ => by
    obtain ⟨⟨f0, f1, hz, hf⟩, hTI, ⟨a, b', hTO⟩, h1, h2, s1, s2, hl1, hl2⟩ := st
    obtain ⟨p, q, hp, hq, rfl⟩ : ∃ p q, xs[i]? = some p ∧ ys[i]? = some q ∧ d = .tup [.str (S p), .str (S q)] := by
      rw [List.getElem?_map] at hd
      cases hz : (xs.zip ys)[i]? with
      | none => rw [hz] at hd; cases hd
      | some pq =>
        rw [hz] at hd
        have := List.getElem?_zip_eq_some.mp hz
        exact ⟨pq.1, pq.2, this.1, this.2, by simpa [dP] using hd.symm⟩
    obtain ⟨v, hv, t, rfl⟩ := hl1.nth (i := i) (d := .str (S p)) (by rw [List.getElem?_map, hp]; rfl)
    obtain ⟨u, hu, t', rfl⟩ := hl2.nth (i := i) (d := .str (S q)) (by rw [List.getElem?_map, hq]; rfl)
    have nT : New s.heap s.heap.objs.size := new_size _
    have xT := hn _ nT
    have off1 : ∀ {b}, X b → b ≠ z ∧ b ≠ TI ∧ b ≠ TO ∧ b ≠ i1 ∧ b ≠ i2 := fun {b} xb => ⟨fun r => hX b xb (.inl r), fun r => hX b xb (.inr (.inl r)), fun r => hX b xb (.inr (.inr (.inl r))), fun r => hX b xb (.inr (.inr (.inr (.inl r)))), fun r => hX b xb (.inr (.inr (.inr (.inr r))))⟩
    rcases hf with ⟨rfl, rfl⟩ | ⟨T, oT, rfl, xT', hT⟩
    · refine wpAny_pyNext_zip_item D hz hTI hTO h1 h2 s1.list s2.list (x := .str (S p) t) (y := .str (S q) t') (by rw [List.getElem?_toArray]; exact hv) (by rw [List.getElem?_toArray]; exact hu) fun h' z' to' h1' h2' tup _ hk => ?_
      have hk' : ∀ b o, ¬ (b = z ∨ b = TI ∨ b = TO ∨ b = i1 ∨ b = i2) → s.heap.get? b = some o → h'.get? b = some o := fun b o q e => hk b o (fun r => q (.inl r)) (fun r => q (.inr (.inr (.inl r)))) (fun r => q (.inr (.inr (.inr (.inl r))))) (fun r => q (.inr (.inr (.inr (.inr r))))) e
      have hTI' : IsPair h' TI (.ref i1) (.ref i2) := hk _ _ D.TIz D.TITO D.TIi1 D.TIi2 hTI
      have st' : ∀ f0 f1 h'', h''.get? z = some (zObj f0 f1 TI TO) → EnFree X h'' f0 f1 → (∀ b o, b ≠ z → h'.get? b = some o → h''.get? b = some o) → (∃ f0 f1, h''.get? z = some (zObj f0 f1 TI TO) ∧ EnFree X h'' f0 f1) ∧ IsPair h'' TI (.ref i1) (.ref i2) ∧ (∃ a b, IsPair h'' TO a b) ∧ h''.IsListIter i1 l1 (i + 1) ∧ h''.IsListIter i2 l2 (i + 1) ∧
          SeqAt h'' l1 "list" vs ∧ SeqAt h'' l2 "list" ws ∧ HoldsL X h'' (xs.map fun p => Da.str (S p)) vs ∧ HoldsL X h'' (ys.map fun p => Da.str (S p)) ws := fun f0 f1 h'' e1 e2 k => ⟨⟨f0, f1, e1, e2⟩, k _ _ D.TIz hTI', ⟨_, _, k _ _ D.TOz to'⟩, h1'.at fun o e => k _ o D.i1z e, h2'.at fun o e => k _ o D.i2z e,
          s1.at fun o e => k _ o (off1 x1).1 (hk' _ o (hX _ x1) e), s2.at fun o e => k _ o (off1 x2).1 (hk' _ o (hX _ x2) e), hl1.ext fun b o xb e => ⟨xb, k b o (off1 xb).1 (hk' b o (hX b xb) e)⟩, hl2.ext fun b o xb e => ⟨xb, k b o (off1 xb).1 (hk' b o (hX b xb) e)⟩⟩
      refine hQ _ h' s.toks ⟨_, [.str (S p) t, .str (S q) t'], rfl, xT, ⟨_, tup, rfl, 0, rfl⟩, _, _, rfl, ⟨t, rfl⟩, _, _, rfl, ⟨t', rfl⟩, rfl⟩ (st' _ false h' z' (.inr ⟨_, _, rfl, xT, tup⟩) fun _ _ _ e => e) hk' ?_
      intro elts k pos Q' E' hq'
      exact wpAny_letOwnedTupleGo_zip z' fun h'' z'' hs'' => hq' h'' (st' _ false h'' z'' (.inl ⟨rfl, rfl⟩) fun b o q e => hs''.extBut b o q e) fun b o q e => hs''.extBut b o (fun r => q (.inl r)) e
    · have hTT : T ≠ s.heap.objs.size := new_ne nT hT
      refine zip_alive D hz hTI h1 h2 s1.list s2.list (x := .str (S p) t) (y := .str (S q) t') (by rw [List.getElem?_toArray]; exact hv) (by rw [List.getElem?_toArray]; exact hu) hT fun h' f1' z' h1' h2' tup hk => ?_
      have hk' : ∀ b o, ¬ (b = z ∨ b = TI ∨ b = TO ∨ b = i1 ∨ b = i2) → s.heap.get? b = some o → h'.get? b = some o := fun b o q e => hk b o (fun r => q (.inl r)) (fun r => q (.inr (.inr (.inr (.inl r))))) (fun r => q (.inr (.inr (.inr (.inr r))))) e
      have st' : (∃ f0 f1, h'.get? z = some (zObj f0 f1 TI TO) ∧ EnFree X h' f0 f1) ∧ IsPair h' TI (.ref i1) (.ref i2) ∧ (∃ a b, IsPair h' TO a b) ∧ h'.IsListIter i1 l1 (i + 1) ∧ h'.IsListIter i2 l2 (i + 1) ∧
          SeqAt h' l1 "list" vs ∧ SeqAt h' l2 "list" ws ∧ HoldsL X h' (xs.map fun p => Da.str (S p)) vs ∧ HoldsL X h' (ys.map fun p => Da.str (S p)) ws :=
        ⟨⟨_, f1', z', .inr ⟨T, oT, rfl, xT', hk' T _ (hX _ xT') hT⟩⟩, hk _ _ D.TIz D.TIi1 D.TIi2 hTI, ⟨_, _, hk _ _ D.TOz D.TOi1 D.TOi2 hTO⟩, h1', h2', s1.at fun o e => hk' _ o (hX _ x1) e, s2.at fun o e => hk' _ o (hX _ x2) e, hl1.ext fun b o xb e => ⟨xb, hk' b o (hX b xb) e⟩, hl2.ext fun b o xb e => ⟨xb, hk' b o (hX b xb) e⟩⟩
      refine hQ _ h' s.toks ⟨_, [.str (S p) t, .str (S q) t'], rfl, xT, ⟨_, tup, rfl, 0, rfl⟩, _, _, rfl, ⟨t, rfl⟩, _, _, rfl, ⟨t', rfl⟩, rfl⟩ st' hk' ?_
      intro elts k pos Q' E' hq'
      have hq'' := hq' h' st' fun _ _ _ e => e
      unfold letOwnedTupleGo
      refine wpAny_bind (wpAny_load z' ?_)
      show wpAny _ _ (if (_ && (#[rawInt T, .bool f1', .bool false, .ref TI, .ref TO] : Array Value)[0]? == some (rawInt s.heap.objs.size)) = true then _ else _) _ _ _
      rw [if_neg (by
        rw [Bool.and_eq_true]
        rintro ⟨_, q⟩
        have := eq_of_beq q
        simp [rawInt] at this
        exact hTT (by exact_mod_cast this))]
      exact wpAny_pure hq''
  done := fun s Q E st hQ => by
    obtain ⟨⟨f0, f1, hz, hf⟩, hTI, ⟨a, b', hTO⟩, h1, h2, s1, s2, hl1, hl2⟩ := st
    have e1 := hl1.length
    have e2 := hl2.length
    rw [List.length_map] at e1 e2
    have hend : vs.toArray[((xs.zip ys).map dP).length]? = none ∨ ws.toArray[((xs.zip ys).map dP).length]? = none := by
      rw [List.length_map, List.length_zip]
      rcases Nat.le_total xs.length ys.length with h | h
      · exact .inl (by rw [List.getElem?_toArray, Nat.min_eq_left h]; exact List.getElem?_eq_none (by omega))
      · exact .inr (by rw [List.getElem?_toArray, Nat.min_eq_right h]; exact List.getElem?_eq_none (by omega))
    rcases hf with ⟨rfl, rfl⟩ | ⟨T, oT, rfl, xT, hT⟩
    · exact wpAny_pyNext_zip_end hh D hz hTI hTO h1 h2 s1.list s2.list hend fun h' hk => hQ h' s.toks fun b o q e => hk b o (fun r => q (.inl r)) (fun r => q (.inr (.inr (.inl r)))) (fun r => q (.inr (.inr (.inr (.inl r))))) (fun r => q (.inr (.inr (.inr (.inr r))))) e
    · exact zip_alive_end hh D hz hTI h1 h2 s1.list s2.list hend hT fun h' hk => hQ h' s.toks fun b o q e => hk b o (fun r => q (.inl r)) (fun r => q (.inr (.inr (.inr (.inl r))))) (fun r => q (.inr (.inr (.inr (.inr r))))) e
  self := fun i s Q E st hQ => by
    obtain ⟨⟨f0, f1, hz, hf⟩, _⟩ := st
    have hT : s.TypeIs (.ref z) "zip" := ⟨_, hz, rfl⟩
    refine wpAny_pyIter_slot hT F.slot_zip_iter (wpAny_call_entry F.slot_zip_iter hT F.entry_zip_iter ?_ (F.args_zip_iter_1 _))
    show wpAny _ _ (ret (.ref z)) _ _ s
    exact wpAny_pure ⟨_, rfl, "zip", _, hT, F.slot_zip_next.lookup, hQ⟩

section
variable {w : World} {A : Around} {mg mb : Str → Option Value} {s₀ : Base} {X : Addr → Prop} {env : Env} {l c : List (Str × Value)} {D : List (Da × Value)}
theorem it_zip {e₁ e₂ : Expr} {np pos : Pos} {xs ys : List (List Nat)} (hh : A.handled = none) (kx : env.kindOf ("zip" : Str) = some .globalImplicit) (h1 : Ev w A mg mb s₀ X env l c D e₁ (.list (xs.map fun p => Da.str (S p)))) (h2 : Ev w A mg mb s₀ X env l c D e₂ (.list (ys.map fun p => Da.str (S p))))
    (hs : starEach [e₁, e₂] env = [(false, eval e₁ env), (false, eval e₂ env)] := by rfl) (hs2 : starEach [e₂] env = [(false, eval e₂ env)] := by rfl) :
    It w A mg mb s₀ X env l c D (.Call (.Name "zip" np) [e₁, e₂] [] pos) ((xs.zip ys).map dP) := fun s E F => by
  show wpAny _ A (eval (.Name "zip" np) env >>= fun fv => callWith pos fv [] (backTo pos (starEach [e₁, e₂] env)) (backToKw pos (keywordEach [] env))) _ _ s
  refine wpAny_bind (F.ldB kx (F.topNow.fr "zip" (by decide +kernel)) (by decide +kernel) Boot.«zip» ?_ (by decide +kernel))
  refine PySem.callWith_type (by rw [hs]; rfl) (evalArgs_of (by rw [hs, hs2]) (wpAny_items_cons (ev_use h1 F fun v₁ s₁ k₁ g₁ => wpAny_items_cons (ev_use h2 (F.keeps k₁) fun v₂ s₂ k₂ g₂ => wpAny_items_nil ?_) hs2) (by rw [hs, hs2])))
  obtain ⟨a₁, vs, rfl, xa₁, ho₁, hl₁⟩ := g₁
  obtain ⟨a₂, ws, rfl, xa₂, ho₂, hl₂⟩ := g₂
  have ho₁' : SeqAt s₂.heap a₁ "list" vs := ho₁.at fun o e => kg k₂ _ _ e
  have hl₁' := hl₁.grow (kg k₂)
  refine call_zip_2 ho₁'.list ho₂.list fun h' hz hTI hTO i1 i2 hsz g => ?_
  obtain ⟨o₁, q₁⟩ := ho₁'.some
  obtain ⟨o₂, q₂⟩ := ho₂.some
  generalize hn : s₂.heap.objs.size = n at *
  have nw : ∀ j, n ≤ j → New s₂.heap j := fun j hj => new_ge (by omega)
  have ne1 : ∀ j, n ≤ j → a₁ ≠ j := fun j hj => new_ne (nw j hj) q₁
  have ne2 : ∀ j, n ≤ j → a₂ ≠ j := fun j hj => new_ne (nw j hj) q₂
  have K := kt k₁ k₂
  have na : ∀ i j : Nat, i ≠ j → n + i ≠ n + j := by intro i j h; omega
  have DD : ZipApart (n + 4) (n + 2) (n + 3) n (n + 1) a₁ a₂ := ⟨na 2 4 (by decide), na 3 4 (by decide), na 0 4 (by decide), na 1 4 (by decide), na 2 3 (by decide), na 2 0 (by decide), na 2 1 (by decide), na 3 0 (by decide), na 3 1 (by decide), na 0 1 (by decide), ne1 _ (by omega), ne1 _ (by omega), ne1 _ (by omega), ne1 _ (by omega), ne2 _ (by omega), ne2 _ (by omega), ne2 _ (by omega), ne2 _ (by omega)⟩
  have hT : Shared.TypeIs { s₂ with heap := h' } (.ref (n + 4)) "zip" := ⟨_, hz, rfl⟩
  refine ⟨kt K ⟨h', s₂.toks, rfl, g⟩, wpAny_pyIter_zip (s := { s₂ with heap := h' }) hz ⟨keeps_refl _, n + 4, fun b => b = n + 4 ∨ b = n + 2 ∨ b = n + 3 ∨ b = n ∨ b = n + 1, rfl, fun b hb => ?_, fun b hb => ?_, fun Y hY hY' => ?_⟩⟩
  · refine New.back (kg K) (nw b ?_)
    rcases hb with rfl | rfl | rfl | rfl | rfl <;> omega
  · rcases hb with rfl | rfl | rfl | rfl | rfl
    · exact ⟨_, hz⟩
    · exact ⟨_, hTI⟩
    · exact ⟨_, hTO⟩
    · obtain ⟨o, q, _⟩ := i1; exact ⟨o, q⟩
    · obtain ⟨o, q, _⟩ := i2; exact ⟨o, q⟩
  · have up : ∀ b o, X b → s₂.heap.get? b = some o → Y b ∧ h'.get? b = some o := fun b o xb e => ⟨hY' b o xb (fun q => new_ne (nw b (by rcases q with rfl | rfl | rfl | rfl | rfl <;> omega)) e rfl) (g b o e), g b o e⟩
    exact ⟨_, Walk.zip (xs := xs) (ys := ys) (vs := vs) (ws := ws) hh DD (fun b hb => (hY b hb).2) (up a₁ o₁ xa₁ q₁).1 (up a₂ o₂ xa₂ q₂).1, ⟨⟨_, false, hz, .inl ⟨rfl, rfl⟩⟩, hTI, ⟨_, _, hTO⟩, i1, i2, ho₁'.at fun o e => g _ _ e, ho₂.at fun o e => g _ _ e, hl₁'.ext up, hl₂.ext up⟩⟩
end
end Mine

end
section
open PySem PySem.W PyProof.Rows
namespace Mine

noncomputable abbrev PP := List Nat × List Nat
noncomputable def rootB (p : PP) : Bool := p.1.take 1 == [47]
noncomputable def pairOk (q : PP) : Bool := !([[], [46]] : List (List Nat)).any fun y => decide (y = q.1)
noncomputable def zipL (p : PP) : List PP := ((splitL p.1).zip (splitL p.2)).filter pairOk
noncomputable def nmT (l0 : List PP) (k : Nat) (nm : List PP) : Bool := decide (k < nm.length) && decide (nm.take (k + 1) = l0.take (k + 1))
noncomputable def tst (ls : List (List PP)) (l0 : List PP) (k : Nat) : Bool := ls.all (nmT l0 k)
noncomputable def cntF (ls : List (List PP)) (l0 : List PP) : Nat → Nat → Nat
  | 0, k => k
  | n + 1, k => if tst ls l0 k then cntF ls l0 n (k + 1) else k
noncomputable def mixR (xs : List PP) : Bool := (xs.map rootB).any (fun y => decide (y = true)) && (xs.map rootB).any (fun y => decide (y = false))
noncomputable def rowCom : List PP → Option (List Nat)
  | [] => none
  | p :: r => if mixR (p :: r) then none else some ((if rootB p then [47] else []) ++ joinL (((zipL p).take (cntF ((p :: r).map zipL) (zipL p) (zipL p).length 0)).map (·.2)))

theorem rowCom_cons (p : PP) (r : List PP) : rowCom (p :: r) = if mixR (p :: r) then none else some ((if rootB p then [47] else []) ++ joinL (((zipL p).take (cntF ((p :: r).map zipL) (zipL p) (zipL p).length 0)).map (·.2))) := rfl
theorem swaps_off {env : Env} {elt : Expr} {gens : List Comprehension} {scope : Scope} {pos px : Pos} {t : Str} {n : Nat} (ht : env.kindOf t = some .cell) : swapsWith (.ListComp elt gens scope pos) (some (.Name t px)) n env = pure false := by
  show pure (env.blockKind == .function && env.kindOf t == some .local && px.line == pos.line && !(scope.names.any fun (n, k) => n == t && (k == .local || k == .cell))) = pure false
  rw [ht]
  cases (env.blockKind == ScopeKind.function) <;> rfl
theorem clos2 {scope : Scope} {env : Env} {n1 n2 n3 x y : Str} {a b : Addr} (h : scope.names = [(n1, .local), (n2, .local), (n3, .globalImplicit), (x, .free), (y, .free)]) (ha : env.cells.lookup x = some a) (hb : env.cells.lookup y = some b) : closureFor scope env = pure [(y, b), (x, a)] := by
  unfold closureFor
  rw [h]
  simp [cellOf, ha, hb]
theorem clk2 {env : Env} {x y n : Str} {a b c' : Addr} (h : List.lookup n [(y, b), (x, a)] = some c') (ha : env.cells.lookup x = some a) (hb : env.cells.lookup y = some b) : env.cells.lookup n = some c' := by
  by_cases e : n = y
  · subst e
    simp at h
    rw [← h]; exact hb
  · rw [List.lookup_cons, beq_eq_false_iff_ne.mpr e] at h
    exact clk h ha

theorem sum_snd : ∀ (xs ys : List (List Nat)), sumL ((((xs.zip ys).filter pairOk)).map (·.2)) ≤ sumL ys
  | [], ys => by simp [sumL]
  | x :: xs, [] => by simp [sumL]
  | x :: xs, y :: ys => by
    have ih := sum_snd xs ys
    rw [List.zip_cons_cons, List.filter_cons]
    split
    · simp only [List.map_cons, sumL, List.sum_cons] at ih ⊢
      omega
    · simp only [List.map_cons, sumL, List.sum_cons] at ih ⊢
      omega
theorem zipL_len (p : PP) : (zipL p).length ≤ p.1.length + 1 ∧ sumL ((zipL p).map (·.2)) ≤ p.2.length + 1 := by
  have h1 : (zipL p).length ≤ ((splitL p.1).zip (splitL p.2)).length := List.length_filter_le _ _
  rw [List.length_zip] at h1
  have h2 := splitL_sum p.1
  have h3 := splitL_sum p.2
  have h4 := sum_snd (splitL p.1) (splitL p.2)
  unfold sumL at h4 ⊢
  unfold zipL
  unfold zipL at h1
  omega

section
variable {w : World} {A : Around} {mg mb : Str → Option Value} {s₀ : Base} {X : Addr → Prop} {env : Env} {l c : List (Str × Value)} {D : List (Da × Value)}
theorem sub_sliceT {value : Expr} {lower upper : Option Expr} {p pos : Pos} {T id : String} {Q : Value → Shared → Prop} {s : Shared} {E : Value → Shared → Prop}
    (hl : typeLookup (.type T) "__getitem__" = pure (some (.builtin id)))
    (h : wpAny (model pw w) A (eval value env) (fun o s₁ => wpAny (model pw w) A (eval (.Slice lower upper none p) env) (fun i s₂ => s₂.TypeIs o T ∧ wpAny (model pw w) A (getItem o i) Q E s₂) E s₁) E s) :
    wpAny (model pw w) A (eval (.Subscript value (.Slice lower upper none p) pos) env) Q E s := by
  refine Subscript_ (wpAny_mono h (fun o s₁ h₁ => wpAny_mono h₁ (fun i s₂ h₂ => ?_) fun _ _ x => x) fun _ _ x => x)
  unfold subscriptTail
  refine wpAny_bind ?_
  rw [getitemInPython_of_ne h₂.1.not_modules]
  refine wpAny_bind (wpAny_specialOf h₂.1 hl ?_)
  have fin : wpAny (model pw w) A (subscripted (.Slice lower upper none p) false o i) (fun r s₃ => wpAny (model pw w) A (letTemporaryGo value o r >>= fun _ => pure r) Q E s₃) E s₂ := by
    show wpAny (model pw w) A (operate [i, o] (getItem o i)) _ _ _
    exact wpAny_operating (wpAny_mono h₂.2 (fun r s₃ h₃ => wpAny_bind (wpAny_letTemporaryGo (wpAny_pure h₃))) fun _ _ x => x)
  first
    | exact wpAny_pure (wpAny_bind fin)
    | exact wpAny_bind (wpAny_pure (wpAny_bind fin))
    | exact wpAny_bind fin
theorem ev_cutLT {o : Expr} {lo hi : Option Expr} {p pos : Pos} {ds : List Da} {a b : Option Nat} (ho : Ev w A mg mb s₀ X env l c D o (.list ds)) (hlo : partE w A mg mb s₀ X env l c D lo a) (hhi : partE w A mg mb s₀ X env l c D hi b) (hsz : ds.length ≤ sizeLine) :
    Ev w A mg mb s₀ X env l c D (.Subscript o (.Slice lo hi none p) pos) (.list (cutL a b ds)) := fun s E F => by
  refine sub_sliceT (T := "list") list_getitem_lookup (ev_use ho F fun v s₁ k₁ h₁ => wpAny_Slice (wpAny_mono (hlo s₁ E (F.keeps k₁)) (fun vl s₂ h₂ => wpAny_mono (hhi s₂ E (F.keeps (kt k₁ h₂.1))) (fun vu s₃ h₃ => evalPart_none_step ?_) fun _ _ e => e) fun _ _ e => e))
  obtain ⟨al, vs, rfl, xa, hol, hl⟩ := h₁
  have k13 := kt h₂.1 h₃.1
  have hol3 : SeqAt s₃.heap al "list" vs := hol.at fun o e => kg k13 _ o e
  refine ⟨(hol3.list.push _).typeIs, wpAny_getItem_list_slice (hol3.list.push _) (Heap.IsSliceOf.new ..) h₂.2 h₃.2 .none (by simp) ?_ (by have := hl.length; simp; omega)⟩
  rw [Heap.size_push]
  have G := F.keeps (kt k₁ k13)
  refine ⟨kt (kt k₁ k13) ⟨_, s₃.toks, rfl, fun b o e => grow_push _ _ _ _ (grow_push _ _ _ _ e)⟩, s₃.heap.objs.size + 1, cutL a b vs, rfl, G.xn _ (new_ge (Nat.le_succ _)), ?_, (hl.ext (Y := X) fun b o xb e => ⟨xb, grow_push _ _ _ _ (grow_push _ _ _ _ (kg k13 b o e))⟩).cut a b⟩
  refine ⟨{ cls := .type "list", data := .seq (slicePick vs.toArray (a.map fun n : Nat => (n : Int)) (b.map fun n : Nat => (n : Int)) none) }, ?_, rfl, 0, ?_⟩
  · have := Heap.get?_push_size (s₃.heap.push { cls := .type "slice", data := .fields #[vl, vu, .none] }) (o := { cls := .type "list", data := .seq (slicePick vs.toArray (a.map fun n : Nat => (n : Int)) (b.map fun n : Nat => (n : Int)) none) }) rfl
    rw [Heap.size_push] at this
    exact this
  · show Data.seq (slicePick _ _ _ _) 0 = _
    rw [pick_cut]
end

section
variable {w : World} {A : Around}

noncomputable def ComW (mg mb : Str → Option Value) (s₀ : Base) (X : Addr → Prop) (env : Env) (ls : List (List PP)) (l0 : List PP) (bs : List Bool) (L : List (Str × Value)) (vr : Value) (n : Nat) (s : Shared) : Prop :=
  ∃ k C D vk vl, Cx mg mb s₀ X env L C D s ∧ C.lookup ("count" : Str) = some vk ∧ (Da.int (k : Nat), vk) ∈ D ∧ C.lookup ("lists" : Str) = some vl ∧ (Da.list (ls.map fun l => Da.list (l.map dP)), vl) ∈ D ∧ (Da.list (bs.map Da.bool), vr) ∈ D ∧
    k + n = l0.length ∧ cntF ls l0 n k = cntF ls l0 l0.length 0

theorem cells28 (n : Nat) : (cellsFrom n (scoAt 28).names []).lookup ("lists" : Str) = some n ∧ (cellsFrom n (scoAt 28).names []).lookup ("count" : Str) = some (n + 1) := by
  have h : cellsFrom n (scoAt 28).names [] = [(("count" : Str), n + 1), (("lists" : Str), n)] := by rfl
  rw [h]
  constructor
  · rw [List.lookup_cons, show ((("lists" : Str) == ("count" : Str)) = false) from by decide +kernel]; simp
  · simp

theorem rowcom_spec {p₀ : PP} {pr : List PP} (hd : A.depth + 1 < recursionLimit) (hh : A.handled = none) (hu : A.units + 40 < cLine) (hn : (p₀ :: pr).length ≤ 64) (hp : ∀ p ∈ p₀ :: pr, p.1.length < 65536 ∧ p.2.length < 65536) :
    Spec w A "_law_common" 28 [.list ((p₀ :: pr).map dP)] (optD (rowCom (p₀ :: pr))) := by
  have hsz : sizeLine = 16777216 := sizeLine_eq
  refine enter (ps := ["row"]) (by omega) (fun pm cd doc vs hl => ?_) (by decide +kernel) rfl rfl rfl ?_
  · match vs, hl with
    | [v], _ => rfl
  · intro X mg mb s s' E _ env vs hs hc hh' hl _ _ _ F
    match vs, hl with
    | [v], _ =>
    have hcl := cells28 (env.locals + 1)
    rw [← hc] at hcl
    obtain ⟨hcl, hcc⟩ := hcl
    have kd : ∀ {x : Str} {kd : NameKind}, (scoAt 28).names.lookup x = some kd → env.kindOf x = some kd := fun h => kindOf_eq hs h
    have hfun : env.scope.kind = .function := F.kind
    have kli := kd (x := "lists") (kd := .cell) (by decide +kernel)
    have kco := kd (x := "count") (kd := .cell) (by decide +kernel)
    have hbk : env.blockKind = .function := by unfold Env.blockKind; rw [hs]; rfl
    have hu' : (A.deeper env).units + 20 < cLine := by rw [Around.deeper_units]; omega
    refine ex_comp (xs := p₀ :: pr) (dat := dP) (p := fun _ => true) (f := fun p => .bool (rootB p)) (J := J2 "judged" "told" (fun p => .str (S p.1)) (fun p => .str (S p.2))) F (it_list hh (ev_local (kd (by decide +kernel)) rfl (.head _))) (by omega)
      (closureFor_none (by decide +kernel)) (fun n c' e => by cases e) (by decide +kernel) rfl (by decide +kernel) (.inr ⟨_, _, _, rfl⟩) (asg2 hh (by decide +kernel) (by decide +kernel)) (fun Y cenv e1 e2 p hm L P hj => tsts_nil)
      (fun Y cenv e1 e2 p hm _ L P hj => ?_) (kd (by decide +kernel)) (swaps_on hbk (kd (by decide +kernel)) rfl (by decide +kernel)) fun v₁ s₁ F => ?_
    · obtain ⟨vx, vy, l', rfl, rfl⟩ := hj
      have := (hp p hm).1
      exact ev_eqS (x := p.1.take 1) (y := [47]) (ev_cutS (k := 1) (ev_local (d := .str (S p.1)) (kc e1 (by decide +kernel)) (lkc (by decide +kernel) lkh) (.tail _ (.head _))) ev_int (by omega)) (ev_cast ev_str (by kernel_rfl))
    have e0 : Da.list (((p₀ :: pr).filter fun _ => true).map fun p => Da.bool (rootB p)) = Da.list (((p₀ :: pr).map rootB).map Da.bool) := by rw [filt, List.map_map]; rfl
    rw [e0] at F
    refine ex_if F (ts_and (ts_inL (kBool 0) (x := true) (ys := (p₀ :: pr).map rootB) (by omega) ev_bool (ev_local (kd (by decide +kernel)) rfl (.head _))) fun _ => ts_inL (kBool 0) (x := false) (ys := (p₀ :: pr).map rootB) (by omega) ev_bool (ev_local (kd (by decide +kernel)) rfl (.head _))) fun s₂ k₂ => ?_
    have F := F.keeps k₂
    have hmx : ((((p₀ :: pr).map rootB).any fun y => decide (y = true)) && ((p₀ :: pr).map rootB).any fun y => decide (y = false)) = mixR (p₀ :: pr) := rfl
    rw [hmx]
    cases hm : mixR (p₀ :: pr) with
    | true =>
      refine ex_ret F ev_none fun v₃ s₃ k₃ h₃ => ⟨(F.keeps k₃).done, ?_⟩
      have e : rowCom (p₀ :: pr) = none := by rw [rowCom_cons, if_pos hm]
      rw [e]; exact h₃
    | false =>
      have e : rowCom (p₀ :: pr) = some ((if rootB p₀ then [47] else []) ++ joinL (((zipL p₀).take (cntF ((p₀ :: pr).map zipL) (zipL p₀) (zipL p₀).length 0)).map (·.2))) := by rw [rowCom_cons, if_neg (by rw [hm]; decide)]
      rw [e]
      refine wpAny_execs_nil ?_
      refine ex_assignC F (d := .list (((p₀ :: pr).map zipL).map fun l => Da.list (l.map dP))) (ev_cast (ev_comp (xs := p₀ :: pr) (dat := dP) (p := fun _ => true) (f := fun p => .list ((zipL p).map dP)) (J := J2 "judged" "told" (fun p => .str (S p.1)) (fun p => .str (S p.2))) (it_list hh (ev_local (d := .list ((p₀ :: pr).map dP)) (kd (by decide +kernel)) rfl (.tail _ (.head _)))) (by omega)
        (closureFor_none (by decide +kernel)) (fun n c' e => by cases e) (by decide +kernel) rfl (by decide +kernel) (.inr ⟨_, _, _, rfl⟩) (asg2 hh (by decide +kernel) (by decide +kernel)) (fun Y cenv e1 e2 p hm L P hj => tsts_nil)
        (fun Y cenv e1 e2 p hm _ L P hj => ?_)) (by rw [filt, List.map_map]; rfl)) kli hcl (fun v₄ s₄ F => ?_) (swaps_off kli)
      · obtain ⟨vx, vy, l', rfl, rfl⟩ := hj
        have hp1 := hp p hm
        have hl1 := splitL_sum p.1
        refine ev_cast (ev_comp (xs := (splitL p.1).zip (splitL p.2)) (dat := dP) (p := pairOk) (f := dP) (J := J1 "pair" dP) (it_zip hh (kc e1 (by decide +kernel)) (ev_split (x := p.1) (ev_local (d := .str (S p.1)) (kc e1 (by decide +kernel)) (lkc (by decide +kernel) lkh) (.tail _ (.head _))) (ev_cast ev_str (by kernel_rfl)) (by omega))
          (ev_split (x := p.2) (ev_local (d := .str (S p.2)) (kc e1 (by decide +kernel)) lkh (.head _)) (ev_cast ev_str (by kernel_rfl)) (by omega))) (by rw [List.length_zip]; omega)
          (closureFor_none (by decide +kernel)) (fun n c' e => by cases e) (by decide +kernel) rfl (by decide +kernel) (.inl fun _ _ => rfl) (asg1 (by decide +kernel)) (fun Y2 cenv2 f1 f2 q hq L2 P2 hj2 => ?_) (fun Y2 cenv2 f1 f2 q hq _ L2 P2 hj2 => ?_)) rfl
        · obtain ⟨u2, l2, rfl, rfl⟩ := hj2
          exact tsts_one (ts_notInT (kStr 0) (x := q.1) (ys := [[], [46]]) (by omega) (ev_itemT (k := 0) (ds := [.str (S q.1), .str (S q.2)]) (ev_local (d := dP q) (kc f1 (by decide +kernel)) rfl (.head _)) ev_int rfl (by decide))
            (ev_tuple (ds := [strD [], strD [46]]) (evl_cons (ev_cast ev_str (by kernel_rfl)) (evl_cons (ev_cast ev_str (by kernel_rfl)) evl_nil)) (by rw [hsz]; exact Nat.le_of_ble_eq_true rfl)))
        · obtain ⟨u2, l2, rfl, rfl⟩ := hj2
          exact ev_local (kc f1 (by decide +kernel)) rfl (.head _)
      have hls : ∀ l ∈ (p₀ :: pr).map zipL, l.length ≤ 65536 := fun l hl => by
        obtain ⟨p, hp1, rfl⟩ := List.mem_map.mp hl
        have := (zipL_len p).1
        have := (hp p hp1).1
        omega
      have hz0 := zipL_len p₀
      have hp0 := hp p₀ (.head _)
      have hl0 : (zipL p₀).length ≤ 65536 := by omega
      have hm0 : zipL p₀ ∈ (p₀ :: pr).map zipL := .head _
      have hnl : ((p₀ :: pr).map zipL).length ≤ 64 := by rw [List.length_map]; exact hn
      have hget : ((p₀ :: pr).map zipL)[0]? = some (zipL p₀) := rfl
      have hbs : ((p₀ :: pr).map rootB)[0]? = some (rootB p₀) := rfl
      generalize hLS : (p₀ :: pr).map zipL = ls at F hls hm0 hnl hget
      generalize hBS : (p₀ :: pr).map rootB = bs at F hbs
      generalize hL0 : zipL p₀ = l0 at hz0 hl0 hm0 hget
      refine ex_assignC F (d := .int (0 : Nat)) ev_int kco hcc fun v₅ s₅ F => ?_
      refine ex_while (ComW mg mb (.of s) (fun b => X b ∧ Away env b) env ls l0 bs _ v₁) (n := l0.length) ⟨0, _, _, v₅, v₄, F, lkh, .head _, lkc (by decide +kernel) lkh, .tail _ (.head _), .tail _ (.tail _ (.head _)), by omega, rfl⟩ ?_
      rintro n s₆ E' ⟨k, C, D, vk, vl, F, lk, mk, ll, ml, mr, hkn, hcnt⟩
      have ecl : ([(("lists" : Str), env.locals + 1), (("count" : Str), env.locals + 1 + 1)] : List (Str × Addr)).lookup ("count" : Str) = some (env.locals + 1 + 1) := by
        rw [List.lookup_cons, show ((("count" : Str) == ("lists" : Str)) = false) from by decide +kernel]; simp
      have hk1 : Da.int ((k : Int) + 1) = Da.int ((k + 1 : Nat) : Int) := by congr 1
      refine wpAny_mono ((?_ : Ts w (A.deeper env) mg mb (.of s) (fun b => X b ∧ Away env b) env _ C D _ (tst ls l0 k)) _ _ F) (fun b s₇ h₇ => ?_) fun _ _ e => e
      · refine ts_call (ev_cast (ev_blt (kd (by decide +kernel)) (fun T => T.fr "all" (by decide +kernel)) Boot.«all» (evl_cons (ev_cast (d' := .list ((ls.map (nmT l0 k)).map Da.bool)) (ev_comp (xs := ls) (dat := fun l => .list (l.map dP)) (p := fun _ => true) (f := fun nm => .bool (nmT l0 k nm)) (J := J1 "names" fun l => .list (l.map dP))
          (it_list hh (ev_cell kli hcl ll ml)) (by omega) (clos2 rfl hcc hcl) (fun n c' e => clk2 e hcc hcl) (by decide +kernel) rfl (by decide +kernel) (.inl fun _ _ => rfl) (asg1 (by decide +kernel)) (fun Y cenv e1 e2 nm hm L P hj => tsts_nil) (fun Y cenv e1 e2 nm hm _ L P hj => ?_)) (by rw [filt, List.map_map]; rfl)) evl_nil) (b_all hh)) (by rw [List.all_map]; rfl))
        obtain ⟨u, l', rfl, rfl⟩ := hj
        have hnm := hls nm hm
        have hcc' : cenv.cells.lookup ("count" : Str) = some (env.locals + 1 + 1) := by rw [e2]; exact ecl
        have hcl' : cenv.cells.lookup ("lists" : Str) = some (env.locals + 1) := by rw [e2]; simp
        have kco' : cenv.kindOf ("count" : Str) = some .cell := kf e1 hfun kco (by decide +kernel)
        have kli' : cenv.kindOf ("lists" : Str) = some .cell := kf e1 hfun kli (by decide +kernel)
        have hup : ∀ {p1 p2 p3 : Pos} {k2 : Nat} {L : List (Str × Value)}, partE w (A.deeper env) mg mb (.of s) Y cenv L C ([(Da.list (nm.map dP), u)] ++ D) (some (.BinOp (.Name "count" p1) .Add (.Constant (.int 1) k2 p2) p3)) (some (k + 1)) := part_some (ev_cast (ev_addI (ev_cell (d := .int (k : Nat)) kco' hcc' lk (.tail _ mk)) ev_int) hk1)
        refine ev_andB (p := decide (k < nm.length)) (q := decide (nm.take (k + 1) = l0.take (k + 1))) (ev_cast (ev_gtI (ev_blt (kc e1 (by decide +kernel)) (fun T => T.fr "len" (by decide +kernel)) Boot.«len» (evl_cons (ev_local (d := .list (nm.map dP)) (kc e1 (by decide +kernel)) rfl (.head _)) evl_nil) (b_lenL (by rw [List.length_map]; omega)))
          (ev_cell (d := .int (k : Nat)) kco' hcc' lk (.tail _ mk))) ?_) fun _ => ev_eqL kPair (by omega) (ev_cast (ev_cutL (a := none) (b := some (k + 1)) (ev_local (d := .list (nm.map dP)) (kc e1 (by decide +kernel)) rfl (.head _)) part_none hup (by rw [List.length_map]; omega)) ?_)
          (ev_cast (ev_cutLT (a := none) (b := some (k + 1)) (ev_itemL (k := 0) (ds := ls.map fun l => Da.list (l.map dP)) (d := .list (l0.map dP)) (ev_cell kli' hcl' ll (.tail _ ml)) ev_int (by rw [List.getElem?_map, hget]; rfl) (by decide)) part_none hup (by rw [List.length_map]; omega)) ?_)
        · rw [List.length_map]; congr 1; exact decide_eq_decide.mpr Int.ofNat_lt
        · simp [cutL, List.map_take]
        · simp [cutL, List.map_take]
      obtain ⟨k₇, rfl⟩ := h₇
      have F := F.keeps k₇
      cases hb : tst ls l0 k with
      | true =>
        simp only [if_true]
        have hlt : k < l0.length := by
          have := List.all_eq_true.mp hb l0 hm0
          unfold nmT at this
          rw [Bool.and_eq_true, decide_eq_true_eq] at this
          exact this.1
        obtain ⟨n', rfl⟩ : ∃ n', n = n' + 1 := ⟨n - 1, by omega⟩
        refine ex_augC F kco hcc lk mk fun v₈ s₈ F => wpAny_execs_nil ⟨n', Nat.lt_succ_self _, k + 1, _, _, v₈, vl, F, lkh, ?_, lkc (by decide +kernel) ll, .tail _ ml, .tail _ mr, by omega, ?_⟩
        · rw [← hk1]; exact .head _
        · rw [← hcnt]
          show _ = (if tst ls l0 k then cntF ls l0 n' (k + 1) else k)
          rw [if_pos hb]
      | false =>
        simp only [Bool.false_eq_true, if_false]
        have hck : cntF ls l0 n k = k := by
          cases n with
          | zero => rfl
          | succ n =>
            show (if tst ls l0 k then cntF ls l0 n (k + 1) else k) = k
            rw [if_neg (by rw [hb]; decide)]
        rw [hck] at hcnt
        rw [← hcnt]
        have hj := join_len ((l0.take k).map (·.2))
        have hsum : sumL ((l0.take k).map (·.2)) ≤ p₀.2.length + 1 := by
          rw [List.map_take]
          exact Nat.le_trans (sum_take _ _) hz0.2
        have hlk : ((l0.take k).map (·.2)).length ≤ 65536 := by rw [List.length_map, List.length_take]; omega
        refine ex_ret F (ev_addS (x := if rootB p₀ then [47] else []) (y := joinL ((l0.take k).map (fun q : PP => q.2))) (ev_ifexp (ts_bool (ev_itemL (k := 0) (ds := bs.map Da.bool) (d := .bool (rootB p₀)) (ev_local (kd (by decide +kernel)) rfl mr) ev_int (by rw [List.getElem?_map, hbs]; rfl) (by decide)))
          (fun e => ev_cast (ev_cast ev_str (d' := .str (S [47])) (by kernel_rfl)) (by rw [e]; rfl)) (fun e => ev_cast (ev_cast ev_str (d' := .str (S [])) (by kernel_rfl)) (by rw [e]; rfl)))
          (ev_cast (ev_join (y := [47]) (ps := (l0.take k).map (fun q : PP => q.2)) (ev_cast ev_str (by kernel_rfl)) (ev_cast (ev_comp (xs := l0.take k) (dat := dP) (p := fun _ => true) (f := fun q => .str (S q.2)) (J := J1 "pair" dP) (it_list hh (ev_cast (ev_cutLT (a := none) (b := some k) (ev_itemL (k := 0) (ds := ls.map fun l => Da.list (l.map dP)) (d := .list (l0.map dP)) (ev_cell kli hcl ll ml) ev_int (by rw [List.getElem?_map, hget]; rfl) (by decide)) part_none (part_some (ev_cell (d := .int (k : Nat)) kco hcc lk mk)) (by rw [List.length_map]; omega)) (by simp [cutL, List.map_take]))) (by rw [List.length_take]; omega)
            (closureFor_none (by decide +kernel)) (fun n c' e => by cases e) (by decide +kernel) rfl (by decide +kernel) (.inl fun _ _ => rfl) (asg1 (by decide +kernel)) (fun Y cenv e1 e2 q hq L P hj => tsts_nil) (fun Y cenv e1 e2 q hq _ L P hj => ?_)) (by rw [filt, List.map_map]; rfl))
            (by unfold sumL at hsum; simp only [List.length_cons, List.length_nil]; omega)) (by rw [join_S])) ?_) fun v₉ s₉ k₉ h₉ => ⟨(F.keeps k₉).done, h₉⟩
        · obtain ⟨u, l', rfl, rfl⟩ := hj
          exact ev_itemT (k := 1) (ds := [.str (S q.1), .str (S q.2)]) (ev_local (d := dP q) (kc e1 (by decide +kernel)) rfl (.head _)) ev_int rfl (by decide)
        · have : (if rootB p₀ then [47] else [] : List Nat).length ≤ 1 := by cases rootB p₀ <;> decide
          omega
end
end Mine

end
section
open PySem PySem.W PyProof.Rows
namespace Mine

noncomputable abbrev compEnvK (scope : Scope) (cl : List (Str × Addr)) (C : Addr) (pl : Str) (K : Addr) (env : Env) : Env :=
  { scope := relabel scope env, locals := C, globals := env.globals, cells := (pl, K) :: cl, qual := env.qual, func := none, code := env.code, frame := env.frame, builtins := env.builtins }

section
variable {w : World} {A : Around} {mg mb : Str → Option Value} {s₀ : Base} {X : Addr → Prop} {env : Env} {l c : List (Str × Value)} {D : List (Da × Value)}

theorem nfe1 {scope : Scope} {n1 pl n3 n4 n5 n6 : Str} {g : Addr} {cl : List (Str × Addr)} {q : Str} {s : Shared} {E : Value → Shared → Prop} {Q : Env → Shared → Prop} (h : scope.names = [(n1, .local), (pl, .cell), (n3, .globalImplicit), (n4, .free), (n5, .free), (n6, .free)])
    (hq : Q { scope := scope, locals := s.heap.objs.size, globals := g, cells := (pl, s.heap.objs.size + 1) :: cl, qual := q, func := none, code := env.code, frame := env.frame, builtins := env.builtins }
      { s with heap := (s.heap.push { cls := .type "dict", data := .dict #[] }).push { cls := .type "cell", data := .cell none } }) :
    wpAny (model pw w) A (newFunctionEnv scope g cl [] q none .none (some env)) Q E s := by
  unfold newFunctionEnv
  refine wpAny_bind (wpAny_alloc ?_)
  rw [h]
  simp only [List.forIn_cons, List.forIn_nil]
  refine wpAny_bind (wpAny_bind ?_)
  rw [if_neg (by decide)]
  refine wpAny_pure (wpAny_bind ?_)
  rw [if_pos (by decide)]
  refine wpAny_bind (wpAny_alloc (wpAny_pure (wpAny_bind ?_)))
  rw [if_neg (by decide)]
  refine wpAny_pure (wpAny_bind ?_)
  rw [if_neg (by decide)]
  refine wpAny_pure (wpAny_bind ?_)
  rw [if_neg (by decide)]
  refine wpAny_pure (wpAny_bind ?_)
  rw [if_neg (by decide)]
  refine wpAny_pure (wpAny_pure ?_)
  refine wpAny_bind (wpAny_pure ?_)
  refine wpAny_pure ?_
  show Q { scope := scope, locals := s.heap.objs.size, globals := g, cells := (pl, (s.heap.push { cls := .type "dict", data := .dict #[] }).objs.size) :: cl, qual := q, func := none, code := env.code, frame := env.frame, builtins := env.builtins } _
  rw [Heap.size_push]
  exact hq

/-- a target that is a cell of the comprehension's own -/
noncomputable def JK {α : Type} (pl : Str) (dat : α → Da) (c : List (Str × Value)) (a : α) (L C : List (Str × Value)) (P : List (Da × Value)) : Prop :=
  ∃ v, C.lookup pl = some v ∧ (∀ n, n ≠ pl → C.lookup n = c.lookup n) ∧ P = [(dat a, v)]

/-- y = [elt for pl in iter if ...], pl a cell -/
theorem ex_compK {α : Type} {xs : List α} {dat f : α → Da} {p : α → Bool} {elt iter : Expr} {ifs : List Expr} {scope : Scope} {pos spos py px : Pos} {y pl n1 n3 n4 n5 n6 : Str} {rest : List Stmt} {cl : List (Str × Addr)} {s : Shared} {Q : Flow → Shared → Prop} {E : Value → Shared → Prop}
    (F : Cx mg mb s₀ X env l c D s) (hit : It w A mg mb s₀ X env l c D iter (xs.map dat)) (hsz : xs.length ≤ sizeLine)
    (hshape : scope.names = [(n1, .local), (pl, .cell), (n3, .globalImplicit), (n4, .free), (n5, .free), (n6, .free)])
    (hclos : closureFor scope env = pure cl) (hcl : ∀ n c', cl.lookup n = some c' → env.cells.lookup n = some c') (hclp : cl.lookup pl = none) (hcp : c.lookup pl = none) (hkind : scope.kind = .function) (hplk : scope.names.lookup pl = some .cell)
    (hnames : ∀ y ∈ scope.names, y.2 = .local → scope.names.lookup y.1 = some .local)
    (htst : ∀ Y cenv K, cenv.scope = relabel scope env → cenv.cells = (pl, K) :: cl → ∀ x ∈ xs, ∀ L C P, JK pl dat c x L C P → Tsts w A mg mb s₀ Y cenv L C (P ++ D) ifs (p x))
    (helt : ∀ Y cenv K, cenv.scope = relabel scope env → cenv.cells = (pl, K) :: cl → ∀ x ∈ xs, p x = true → ∀ L C P, JK pl dat c x L C P → Ev w A mg mb s₀ Y cenv L C (P ++ D) elt (f x))
    (hy : env.kindOf y = some .local) (hsw : swapsWith (.ListComp elt [⟨.Name pl px, iter, ifs, 0⟩] scope pos) (some (.Name y py)) spos.line env = pure true)
    (h : ∀ v s', Cx mg mb s₀ X env ((y, v) :: l) c ((.list ((xs.filter p).map f), v) :: D) s' → wpAny (model pw w) A (execs rest env) Q E s')
    (hs : ∀ x, foldedSetIterable iter env x = pure x := by intro _; rfl) :
    wpAny (model pw w) A (execs (.Assign [.Name y py] (.ListComp elt [⟨.Name pl px, iter, ifs, 0⟩] scope pos) spos :: rest) env) Q E s := by
  refine wpAny_execs_cons ?_
  rw [exec_Assign_Name_used _ _ _ _ hsw]
  refine wpAny_bind (wpAny_standAt (wpAny_bind ?_))
  show wpAny _ A (do let _ ← comprehension (.ListComp elt [⟨.Name pl px, iter, ifs, 0⟩] scope pos) scope env _ (newList []) false (eval iter env) (some (assign (.Name y py) env))) _ _ s
  refine wpAny_bind ?_
  refine wpAny_comprehension_free (use := some (assign (.Name y py) env)) rfl hs hclos hkind hnames (wpAny_mono (hit s E F) (fun xv s₁ h₁ => wpAny_mono h₁.2 (fun it s₂ h₂ => ?_) fun _ _ e => e) fun _ _ e => e)
  obtain ⟨k₁, _⟩ := h₁
  obtain ⟨k₂, I, wr, rfl, hwn, hwl, hW⟩ := h₂
  have K₂ : Keeps s s₂ := kt k₁ k₂
  have F₂ := F.keeps K₂
  refine wpAny_newObj_type (nfe1 hshape ?_)
  dsimp only
  generalize hacc : s₂.heap.objs.size = acc
  generalize hH2 : s₂.heap.push { cls := .type "list", dict := none, data := .seq ([] : List Value).toArray } = H2
  generalize hCC : H2.objs.size = C
  generalize hK : C + 1 = K
  generalize hH3 : H2.push { cls := .type "dict", data := .dict #[] } = H3
  have hK3 : H3.objs.size = K := by rw [← hH3, Heap.size_push, hCC, hK]
  generalize hh1 : H3.push { cls := .type "cell", data := .cell none } = h₁
  have g2 : Grow s₂.heap H2 := hH2 ▸ grow_push _ _
  have g3 : Grow H2 H3 := hH3 ▸ grow_push _ _
  have g4 : Grow H3 h₁ := hh1 ▸ grow_push _ _
  have nacc : New s₂.heap acc := hacc ▸ new_size _
  have nC2 : New H2 C := hCC ▸ new_size _
  have nK3 : New H3 K := hK3 ▸ new_size _
  have nC : New s₂.heap C := New.back g2 nC2
  have nK : New s₂.heap K := New.back g2 (New.back g3 nK3)
  have acc2 : H2.get? acc = some { cls := .type "list", dict := none, data := .seq ([] : List Value).toArray } := by rw [← hH2, ← hacc]; exact Heap.get?_push_size _ rfl
  have gC3 : H3.get? C = some { cls := .type "dict", data := .dict #[] } := by rw [← hH3, ← hCC]; exact Heap.get?_push_size _ rfl
  have gK1 : h₁.get? K = some { cls := .type "cell", data := .cell none } := by rw [← hh1, ← hK3]; exact Heap.get?_push_size _ rfl
  have hDC : acc ≠ C := new_ne nC2 acc2
  have hDK : acc ≠ K := new_ne nK3 (g3 _ _ acc2)
  have hCK : C ≠ K := new_ne nK3 gC3
  have hns₁ : h₁.Ns C (fun x => ([] : List (Str × Value)).lookup x) := by
    have := Heap.Ns.new H2 (.type "dict")
    rw [hH3, hCC] at this
    exact this.keeps g4
  have g1 : ∀ b o, H2.get? b = some o → h₁.get? b = some o := fun b o e => g4 b o (g3 b o e)
  have gg : Grow s₂.heap h₁ := fun b o e => g1 b o (g2 b o e)
  have gs : Grow s.heap h₁ := fun b o e => gg b o (kg K₂ b o e)
  obtain ⟨St, W, hst⟩ := hW (fun b => (X b ∧ ¬ wr b) ∧ b ≠ acc ∧ b ≠ C ∧ b ≠ K) (fun b hb => hb.1) (fun b o xb wb e => ⟨⟨xb, wb⟩, new_ne nacc e, new_ne nC e, new_ne nK e⟩)
  have nsacc : New s.heap acc := New.back (kg K₂) nacc
  have nsC : New s.heap C := New.back (kg K₂) nC
  have nsK : New s.heap K := New.back (kg K₂) nK
  generalize hce : (compEnvK scope cl C pl K env) = cenv
  have e1 : cenv.scope = relabel scope env := by rw [← hce]
  have e2 : cenv.cells = (pl, K) :: cl := by rw [← hce]
  have e3 : cenv.locals = C := by rw [← hce]
  have e4 : cenv.globals = env.globals := by rw [← hce]
  have e5 : cenv.builtins = env.builtins := by rw [← hce]
  have cel : ∀ n c', cenv.cells.lookup n = some c' → (n = pl ∧ c' = K) ∨ (n ≠ pl ∧ env.cells.lookup n = some c') := fun n c' e => by
    rw [e2] at e
    by_cases q : n = pl
    · subst q; simp at e; exact .inl ⟨rfl, e.symm⟩
    · rw [List.lookup_cons, beq_eq_false_iff_ne.mpr q] at e
      exact .inr ⟨q, hcl n c' e⟩
  have cold : ∀ n c', env.cells.lookup n = some c' → c' ≠ C ∧ c' ≠ K ∧ c' ≠ acc := fun n c' e => by
    obtain ⟨o, ho, _⟩ := F₂.cell n c' e
    exact ⟨new_ne nC ho, new_ne nK ho, new_ne nacc ho⟩
  have Fc : Cx mg mb s₀ (fun b => (X b ∧ ¬ wr b) ∧ b ≠ acc ∧ b ≠ C ∧ b ≠ K) cenv [] c D { s₂ with heap := h₁ } := by
    refine ⟨by rw [e1]; exact hkind, by rw [e4]; exact F.glob, by rw [e5]; exact F.blt, let ⟨_, t, e⟩ := F₂.same; ⟨h₁, t, by rw [e]⟩, fun b o e => gg b o (F₂.keep b o e), F.top, by rw [e3]; exact hns₁, fun n c' e => ?_, fun n n' c' q1 q2 => ?_, fun n c' e => ?_, fun b o e => ?_,
      fun b hb => ?_, fun b hb => ?_, fun q hq => ?_⟩
    · rcases cel n c' e with ⟨rfl, rfl⟩ | ⟨q, e⟩
      · rw [hcp]; exact ⟨_, gK1, rfl⟩
      · exact (F₂.cell n c' e).keeps gg
    · rcases cel n c' q1 with ⟨rfl, rfl⟩ | ⟨r1, q1⟩ <;> rcases cel n' c' q2 with ⟨r, r'⟩ | ⟨r2, q2⟩
      · exact r.symm
      · exact absurd rfl (cold _ _ q2).2.1
      · subst r'; exact absurd rfl (cold _ _ q1).2.1
      · exact F.apart _ _ _ q1 q2
    · rw [e3]
      rcases cel n c' e with ⟨rfl, rfl⟩ | ⟨q, e⟩
      · exact hCK.symm
      · exact (cold _ _ e).1
    · refine ⟨by rw [e3]; exact new_ne nC (F₂.keep b o e), fun n c' e' => ?_⟩
      rcases cel n c' e' with ⟨rfl, rfl⟩ | ⟨q, e'⟩
      · exact new_ne nK (F₂.keep b o e)
      · exact (F.old b o e).2 n c' e'
    · refine ⟨by rw [e3]; exact hb.2.2.1, fun n c' e' => ?_⟩
      rcases cel n c' e' with ⟨rfl, rfl⟩ | ⟨q, e'⟩
      · exact hb.2.2.2
      · exact (F.xl b hb.1.1).2 n c' e'
    · refine ⟨⟨F.xn b (New.back gs hb), fun q => ?_⟩, fun q => ?_, fun q => ?_, fun q => ?_⟩
      · obtain ⟨o, ho⟩ := hwl b q
        have := gg b o ho; rw [show h₁.get? b = none from hb] at this; cases this
      · have := g1 acc _ acc2; rw [← q, show h₁.get? b = none from hb] at this; cases this
      · obtain ⟨o, ho⟩ := ns_some hns₁
        rw [← q, show h₁.get? b = none from hb] at ho; cases ho
      · rw [← q, show h₁.get? b = none from hb] at gK1; cases gK1
    · exact (F.led q hq).ext fun b o xb e => ⟨⟨⟨xb, fun q => by have := hwn b q; rw [this] at e; cases e⟩, new_ne nsacc e, new_ne nsC e, new_ne nsK e⟩, gs b o e⟩
  have hst₁ : St 0 h₁ := W.frame _ _ _ hst fun b o _ e => gg b o e
  have hkp : cenv.kindOf pl = some .cell := kc e1 hplk
  have loop : ∀ s₃ : Shared, s₃ = { s₂ with heap := h₁ } →
      codeAny (model pw w) A (.compLoop (.ListComp elt [⟨.Name pl px, iter, ifs, 0⟩] scope pos) 0 (.ref I) (.ref acc) cenv) (compPost (model pw w) A E (some (assign (.Name y py) env)) (fun _ s' => wpAny (model pw w) A (pure ()) (fun _ s' => wpAny (model pw w) A (pure Flow.next) (fun f s' => match f with | .next => wpAny (model pw w) A (execs rest env) Q E s' | f => Q f s') E s') E s') (.ref acc) C) s₃ := by
    rintro s₃ rfl
    refine comp_loop (p := p) (f := f) (T := fun b => b = C ∨ b = K) (JC := fun C' => ∀ n, n ≠ pl → C'.lookup n = c.lookup n) (J := JK pl dat c) Fc (fun _ _ => rfl) W hst₁ ⟨_, g1 _ _ acc2⟩ hsz (fun q => q.2.1 rfl) (by rw [e3]; exact hDC) (fun n c' e q => ?_) (fun q => ?_) (fun q => q.elim hDC hDK) (fun q => ?_) (fun n c' e q => ?_) (fun b o e => ?_)
      (fun b xb q => q.elim xb.2.2.1 xb.2.2.2) (fun b q r => ?_) (.inl fun _ _ => rfl) (fun x hx L C' s' v Q' E' F' hjc hv hQ' => ?_) (fun x hx L C' P hj => htst _ cenv K e1 e2 x hx L C' P hj) (fun x hx hp L C' P hj => helt _ cenv K e1 e2 x hx hp L C' P hj) fun h' tk m ys hn hpl hys hk => ?_
    · rcases cel n c' e with ⟨rfl, rfl⟩ | ⟨_, e⟩
      · exact hDK q
      · exact (cold n c' e).2.2 q.symm
    · obtain ⟨o, ho⟩ := hwl acc q
      exact new_ne nacc ho rfl
    · rw [e3] at q
      obtain ⟨o, ho⟩ := hwl _ q
      exact new_ne nC ho rfl
    · rcases cel n c' e with ⟨rfl, rfl⟩ | ⟨_, e⟩
      · obtain ⟨o, ho⟩ := hwl _ q
        exact new_ne nK ho rfl
      · obtain ⟨o, ho, _⟩ := F.cell n c' e
        exact new_ne (hwn _ q) ho rfl
    · exact ⟨fun q => new_ne (hwn b q) (F.keep b o e) rfl, new_ne nacc (F₂.keep b o e)⟩
    · obtain ⟨o, ho⟩ := hwl b q
      exact r.elim (fun r => new_ne nC ho r) fun r => new_ne nK ho r
    · have hak : cenv.cells.lookup pl = some K := by rw [e2]; simp
      refine wpAny_assign_Name (wpAny_storeName_cell F'.kind hkp hak (F'.cell pl K hak) fun h' hc' hs' => ?_)
      refine hQ' h' _ L ((pl, v) :: C') [(dat x, v)] (fun b o q e => hs'.extBut b o (fun r => q (.inr r)) e) ?_ ⟨v, lkh, fun n hn => ?_, rfl⟩ fun n hn => ?_
      · refine ⟨F'.kind, F'.glob, F'.blt, let ⟨_, t, e⟩ := F'.same; ⟨h', t, by rw [e]⟩, fun b o e => hs'.extBut b o ((F'.old b o e).2 pl K hak) (F'.keep b o e), F'.top, F'.ns.sameBut hs' (Ne.symm (F'.off pl K hak)), fun n c' e => ?_, F'.apart, F'.off, F'.old, F'.xl,
          fun b hb => F'.xn b (new_but hs' (let ⟨o, ho, _⟩ := hc'; ⟨o, ho⟩) hb), fun q hq => ?_⟩
        · by_cases hn : n = pl
          · subst hn
            rw [hak] at e; cases e
            simpa using hc'
          · rw [List.lookup_cons, beq_eq_false_iff_ne.mpr hn]
            exact (F'.cell n c' e).sameBut hs' fun q => hn (F'.apart n pl K (by rw [e, q]) hak)
        · rcases List.mem_cons.mp hq with rfl | hq
          · exact hv.ext fun b o xb e => ⟨xb, hs'.extBut b o xb.2.2.2 e⟩
          · exact (F'.led q hq).ext fun b o xb e => ⟨xb, hs'.extBut b o xb.2.2.2 e⟩
      · rw [List.lookup_cons, beq_eq_false_iff_ne.mpr hn]; exact hjc n hn
      · rw [List.lookup_cons, beq_eq_false_iff_ne.mpr hn]; exact hjc n hn
    · rw [e3] at hn
      have up : Grow s.heap h' := fun b o e => hk b o (fun q => q.elim (new_ne nsC e) (new_ne nsK e)) (fun q => new_ne (hwn b q) e rfl) (new_ne nsacc e) (gs b o e)
      have kk : Keeps s { s₂ with heap := h', toks := tk } := by
        obtain ⟨hh, tt, rfl, _⟩ := K₂
        exact ⟨h', tk, rfl, up⟩
      have hol : Holds X h' (.list ((xs.filter p).map f)) (.ref acc) := by
        refine ⟨acc, ys.toList, rfl, F.xn acc nsacc, ?_, hys.weak fun b xb => xb.1.1⟩
        obtain ⟨n, e⟩ := hpl
        exact ⟨_, e, rfl, n, by simp⟩
      have F' := (F.keeps kk).add hol
      have hCl : C ≠ env.locals := by obtain ⟨o, ho⟩ := ns_some F.ns; exact fun q => new_ne nsC ho q.symm
      show wpAny (model pw w) A (assign (.Name y py) env (.ref acc)) _ _ _
      refine wpAny_assign_Name ?_
      refine wpAny_storeName_local hy F'.ns (fun h'' hn' hs' => ?_) (by rw [F.kind]; rfl)
      have hnC : h''.Ns C m := hn.sameBut hs' hCl
      refine ⟨m, hnC, fun h3 hs3 => ?_⟩
      refine wpAny_pure (wpAny_pure ?_)
      refine h (.ref acc) _ ?_
      have F'' : Cx mg mb s₀ X env ((y, .ref acc) :: l) c ((.list ((xs.filter p).map f), .ref acc) :: D) { s₂ with heap := h'', toks := tk + 1 } := by
        refine ⟨F'.kind, F'.glob, F'.blt, let ⟨_, _, e⟩ := F₂.same; ⟨h'', tk + 1, by rw [e]⟩, fun b o e => hs'.extBut b o (F'.old b o e).1 (F'.keep b o e), F'.top, by rw [lk_cons] at hn'; exact hn',
          fun n c' e => (F'.cell n c' e).sameBut hs' (F'.off n c' e), F'.apart, F'.off, F'.old, F'.xl, fun b hb => F'.xn b (new_but hs' (ns_some hn') hb), fun p hp => (F'.led p hp).ext fun b o hb e => ⟨hb, hs'.extBut b o (F'.xl b hb).1 e⟩⟩
      refine F''.letGo (C := C) hnC hs3 (F.xn C nsC) (fun o e => new_ne nsC (F.keep _ _ e) rfl) hCl fun n c' e q => ?_
      exact (cold n c' e).1 q.symm
  rw [show ({ (⟨scope, C, env.globals, (pl, K) :: cl, env.qual, none, env.code, env.frame, env.builtins⟩ : Env) with scope := relabel scope env }) = cenv from hce]
  exact codeAny_compStart_list (loop _ rfl) (W.self 0 _ _ _ hst₁ (loop _ rfl))
end
end Mine

end
section
open PySem PySem.W PyProof.Rows
open PySem.SeqAt
namespace Mine

theorem HoldsL.append' {X : Addr → Prop} {h : Heap} {ds ds' : List Da} {vs vs' : List Value} (a : HoldsL X h ds vs) (b : HoldsL X h ds' vs') : HoldsL X h (ds ++ ds') (vs ++ vs') := a.append b

section
variable {w : World} {A : Around} {mg mb : Str → Option Value} {s₀ : Base} {X : Addr → Prop} {env : Env} {l c : List (Str × Value)} {D : List (Da × Value)}

theorem ev_pow106 {p1 p2 pos : Pos} {k1 k2 : Nat} : Ev w A mg mb s₀ X env l c D (.BinOp (.Constant (.int 10) k1 p1) .Pow (.Constant (.int 6) k2 p2) pos) (.int 1000000) :=
  ev_bin ev_int ev_int fun s E va vb hX h1 h2 => by
    obtain ⟨t, rfl⟩ := h1
    obtain ⟨u, rfl⟩ := h2
    refine pow_int_small (by decide) (by decide) (by decide) ?_
    exact ⟨keeps_tok s _, _, rfl⟩
theorem ev_addL {a b : Expr} {pos : Pos} {xs ys : List Da} (ha : Ev w A mg mb s₀ X env l c D a (.list xs)) (hb : Ev w A mg mb s₀ X env l c D b (.list ys)) (hsz : xs.length + ys.length ≤ sizeLine) : Ev w A mg mb s₀ X env l c D (.BinOp a .Add b pos) (.list (xs ++ ys)) :=
  ev_bin ha hb fun s E va vb hX h1 h2 => by
    obtain ⟨p, vs, rfl, xp, ho, hl⟩ := h1
    obtain ⟨q, ws, rfl, xq, ho2, hl2⟩ := h2
    have e1 := hl.length
    have e2 := hl2.length
    obtain ⟨⟨cls, dd, data, sl⟩, g1, hc, n, hd⟩ := ho
    obtain ⟨⟨cls2, dd2, data2, sl2⟩, g2, hc2, n2, hd2⟩ := ho2
    simp only at hc hd hc2 hd2
    subst hc hd hc2 hd2
    refine concat_meets ⟨_, g1, rfl⟩ ⟨_, g2, rfl⟩ noFill_list_add seq_list_add F.slot_list_add F.entry_list_add (F.args_list_add_2 _ _) (list_addW p q vs.toArray ws.toArray n n2 dd dd2 sl sl2 (by simp; omega)) ⟨g1, g2, ?_⟩
    refine ⟨⟨_, s.toks, rfl, grow_push _ _⟩, s.heap.objs.size, vs ++ ws, rfl, hX _ (new_size _), ⟨_, Heap.get?_push_size _ rfl, rfl, 0, by simp⟩, (hl.grow (grow_push _ _)).append (hl2.grow (grow_push _ _))⟩
theorem b_intI {i : Int} : BSpec w A (.type "int") [.int i] (.int i) := fun X s E vs hX h => by
  obtain ⟨v, r, rfl, ⟨t, rfl⟩, rfl⟩ := h
  exact call_int_1 (gives_int_new_int i t).meets (show (Made.val (.int i t)).post _ s from ⟨rfl, keeps_refl s, _, rfl⟩)
end
end Mine

end
section
open PySem PySem.W PyProof.Rows
open PySem.SeqAt
namespace Mine
section
variable {w : World} {A : Around} {mg mb : Str → Option Value} {s₀ : Base} {X : Addr → Prop} {env : Env} {l c : List (Str × Value)} {D : List (Da × Value)}

theorem ts_int {e : Expr} {i : Int} (h : Ev w A mg mb s₀ X env l c D e (.int i)) (he : isTrue e env (eval e env) = (do let v ← eval e env; standAt e.pos; holding [v] (truthy v)) := by rfl) : Ts w A mg mb s₀ X env l c D e (i != 0) := fun s E F => by
  refine wpAny_isTrue_value (wpAny_mono (h s E F) (fun v s₁ h₁ => ?_) fun _ _ e => e) he
  obtain ⟨hk, t, rfl⟩ := h₁
  exact PyProof.Rows.truthy_int ⟨hk, rfl⟩

theorem ts_neO {a b : Expr} {pos : Pos} {x y : Option (List Nat)} (ha : Ev w A mg mb s₀ X env l c D a (optD x)) (hb : Ev w A mg mb s₀ X env l c D b (optD y)) (hm : behindInMarks .NotEq b = false := by with_unfolding_all rfl) :
    Ts w A mg mb s₀ X env l c D (.Compare a [.NotEq] [b] pos) (!decide (x = y)) := ts_cmp ha hb (fun s E va vb _ hX h1 h2 => by
  cases x with
  | none =>
    obtain rfl : va = .none := h1
    cases y with
    | none => obtain rfl : vb = .none := h2; exact RcNeAt.none_none pw w E _ ⟨keeps_refl s, by simp⟩
    | some y => obtain ⟨u, rfl⟩ := h2; exact RcNeAt.none_str (S y) u pw w E _ ⟨keeps_refl s, by simp⟩
  | some x =>
    obtain ⟨t, rfl⟩ := h1
    cases y with
    | none => obtain rfl : vb = .none := h2; exact RcNeAt.str_none (S x) t pw w E _ ⟨keeps_refl s, by simp⟩
    | some y =>
      obtain ⟨u, rfl⟩ := h2
      refine RcNeAt.str_str (S x) t (S y) u pw w E _ ⟨keeps_refl s, ?_⟩
      rw [S_beq]
      congr 1
      rw [Bool.eq_iff_iff]; simp) hm
theorem ts_noneO {a : Expr} {k : Nat} {p pos : Pos} {x : Option (List Nat)} (ha : Ev w A mg mb s₀ X env l c D a (optD x)) : Ts w A mg mb s₀ X env l c D (.Compare a [.Is] [.Constant .none k p] pos) x.isNone :=
  ts_isNone ha fun h v hv => by
    cases x with
    | none => obtain rfl : v = .none := hv; rfl
    | some x => obtain ⟨t, rfl⟩ := hv; rfl

noncomputable def sumN (ns : List Nat) : Nat := ns.sum
theorem preSum_eq (ns : List Nat) : ∀ j, j ≤ ns.length → preSum (fun i => (ns.getD i 0 : Int)) j = ((ns.take j).sum : Nat)
  | 0, _ => rfl
  | j + 1, h => by
    have ih := preSum_eq ns j (by omega)
    show preSum _ j + _ = _
    rw [ih, List.take_add_one]
    have : ns[j]? = some ns[j] := List.getElem?_eq_getElem (by omega)
    rw [this, List.sum_append]
    simp [List.getD, this]
theorem sum_take_le (ns : List Nat) (j : Nat) : (ns.take j).sum ≤ ns.sum := by
  have := List.take_append_drop j ns
  have h : ns.sum = (ns.take j).sum + (ns.drop j).sum := by rw [← List.sum_append, this]
  omega
theorem mem_le_sum {n : Nat} : ∀ {ns : List Nat}, n ∈ ns → n ≤ ns.sum
  | a :: r, h => by
    rw [List.sum_cons]
    rcases List.mem_cons.mp h with rfl | h
    · omega
    · have := mem_le_sum h; omega
theorem b_sum {ns : List Nat} (hh : A.handled = none) (hs : ns.sum < 2 ^ 62) : BSpec w A (.builtin "sum") [.list (ns.map fun n : Nat => Da.int n)] (.int (ns.sum : Nat)) := fun X s E vs hX h => by
  obtain ⟨_, _, rfl, ⟨a, ws, rfl, xa, ho, hl⟩, rfl⟩ := h
  have hlen := hl.length
  rw [List.length_map] at hlen
  refine call_sum_walk (wpAny_pyIter_list ho.list ?_)
  have hnew : New s.heap s.heap.objs.size := new_size _
  obtain ⟨oa, hoa⟩ := ho.some
  have hne : a ≠ s.heap.objs.size := new_ne hnew hoa
  have W := Walks.list (prog := pw) (w := w) (A := A.in1) hh s.heap.objs.size a hne ws.toArray
  have hsz : (s.heap.push { cls := .type "list_iterator", data := .fields #[.ref a, .int 0 0] }).objs.size = s.heap.objs.size + 1 := Heap.size_push ..
  refine ⟨_, _, _, _, _, _, (fun i => (ns.getD i 0 : Int)), rfl, W, ⟨⟨_, Heap.get?_push_size _ rfl, rfl, rfl⟩, (ho.at (grow_push _ _ _)).list⟩, fun b hb => ?_, fun i v hv => ?_, fun j hj => ?_, fun h' tk t' hk => ?_⟩
  · have lt := Heap.lt_size hoa
    show b < (s.heap.push _).objs.size
    rw [hsz]
    rcases List.mem_cons.mp hb with rfl | hb
    · exact Nat.lt_succ_self _
    · rw [List.mem_singleton.mp hb]; exact Nat.lt_succ_of_lt lt
  · replace hv : ws.toArray[i]? = some v := hv
    rw [List.getElem?_toArray] at hv
    obtain ⟨d, hd, hv'⟩ := hl.get hv
    rw [List.getElem?_map] at hd
    cases hb : ns[i]? with
    | none => rw [hb] at hd; cases hd
    | some n =>
      rw [hb] at hd
      simp at hd
      subst hd
      obtain ⟨t, rfl⟩ := hv'
      exact ⟨t, by simp [List.getD, hb]⟩
  · rw [List.size_toArray, hlen] at hj
    have h1 : ns.getD j 0 ≤ ns.sum := by
      have : ns[j]? = some ns[j] := List.getElem?_eq_getElem hj
      simp only [List.getD, this, Option.getD_some]
      exact mem_le_sum (List.getElem_mem hj)
    have h2 := sum_take_le ns (j + 1)
    rw [preSum_eq ns (j + 1) hj]
    show InLong ((ns.getD j 0 : Nat) : Int) ∧ _
    unfold InLong
    constructor <;> constructor <;> omega
  · refine ⟨⟨h', tk, rfl, fun b o q => hk b o (by simpa using new_ne hnew q) (grow_push _ _ _ _ q)⟩, t', ?_⟩
    rw [List.size_toArray, hlen, preSum_eq ns _ (Nat.le_refl _), List.take_length]

/-- range(a, b) -/
noncomputable def rngL (a b : Nat) : List Nat := (List.range (b - a)).map (a + ·)
theorem rng_small (a b : Nat) (hb : b < 65536) (ha : a < 65536) : Builtin.Range.small (a : Int) (b : Int) 1 = true := by
  exact small_one (by omega) (by omega) (by omega) (by omega)

theorem iter_range {s : Shared} {E : Value → Shared → Prop} {a b : Nat} {r : Addr} {t u v : Tok} (hh : A.handled = none) (ha : a < 65536) (hb : b < 65536) (hr : IsRange s.heap r a b 1 t u v) (hX : ∀ b, New s.heap b → X b) :
    wpAny (model pw w) A (pyIter (.ref r)) (fun it s₂ => Keeps s s₂ ∧ ∃ I wr, it = .ref I ∧ (∀ b, wr b → New s.heap b) ∧ (∀ b, wr b → ∃ o, s₂.heap.get? b = some o) ∧ ∀ Y : Addr → Prop, (∀ b, Y b → X b ∧ ¬ wr b) → (∀ b o, X b → ¬ wr b → s₂.heap.get? b = some o → Y b) →
      ∃ St, Walk w A Y wr I ((rngL a b).map fun n : Nat => Da.int n) St ∧ St 0 s₂.heap) E s := by
  refine wpAny_pyIter_range hr (rng_small a b hb ha) ?_
  have hnew : New s.heap s.heap.objs.size := new_size _
  refine ⟨⟨_, s.toks, rfl, grow_push _ _⟩, s.heap.objs.size, fun b => b = s.heap.objs.size, rfl, fun b hb => by subst hb; exact hnew, fun b hb => by subst hb; exact ⟨_, Heap.get?_push_size _ rfl⟩, fun Y hY hY' => ?_⟩
  have hl : ∀ (X : Addr → Prop) (h : Heap) (ns : List Nat), HoldsL X h (ns.map fun n : Nat => Da.int n) (ns.map fun n : Nat => Value.int n 0) := by
    intro X h ns
    induction ns with
    | nil => rfl
    | cons n y ih => exact ⟨_, _, rfl, ⟨0, rfl⟩, ih⟩
  have hg : ∀ (i : Nat) (d : Da), ((rngL a b).map fun n : Nat => Da.int n)[i]? = some d → d = Da.int ((a : Int) + (i : Int) * 1) := fun (i : Nat) (d : Da) hd => by
    unfold rngL at hd
    rw [List.map_map, List.getElem?_map] at hd
    by_cases q : i < b - a
    · rw [List.getElem?_range q] at hd
      simp at hd
      rw [← hd]
      simp
    · rw [List.getElem?_eq_none (by simpa using q)] at hd; cases hd
  have W := Walk.of (X := Y) (n := "range_iterator") (vs := (rngL a b).map fun n : Nat => Value.int n 0) (ds := (rngL a b).map fun n : Nat => Da.int n) (Walks.range (prog := pw) (w := w) (A := A) hh s.heap.objs.size a 1 (b - a)) (by unfold rngL; simp) (fun b hb => (hY b hb).2) (fun b hb => .inl (List.mem_singleton.mp hb))
    (fun i h st => ⟨_, st, rfl⟩) (by decide) (fun i d v hd hv h _ => by
      obtain ⟨t, rfl⟩ := hv
      rw [hg i d hd]
      exact ⟨t, rfl⟩)
  refine ⟨_, W, ?_, hl _ _ _⟩
  have e2 : Builtin.Range.rangeSize (a : Int) (b : Int) 1 = ((b - a : Nat) : Int) := by
    rw [rangeSize_one]
    split <;> omega
  rw [e2]
  have e := Heap.get?_push_size s.heap (o := { cls := .type "range_iterator", data := .fields #[rawInt a, rawInt ((b - a : Nat) : Int), rawInt 1] }) rfl
  show IsRangeIter _ _ ((a : Int) + ((0 : Nat) : Int) * 1) (((b - a : Nat) : Int) - ((0 : Nat) : Int)) 1
  have e3 : (a : Int) + ((0 : Nat) : Int) * 1 = a := by simp
  have e4 : ((b - a : Nat) : Int) - ((0 : Nat) : Int) = ((b - a : Nat) : Int) := by simp
  rw [e3, e4]
  exact e
end
end Mine

end
section
open PySem PySem.W PyProof.Rows
open PySem.SeqAt
namespace Mine
section
variable {w : World} {A : Around} {mg mb : Str → Option Value} {s₀ : Base} {X : Addr → Prop} {env : Env} {l c : List (Str × Value)} {D : List (Da × Value)}

theorem It.back {s s₁ : Shared} {v : Value} {E : Value → Shared → Prop} {ds : List Da} (F : Cx mg mb s₀ X env l c D s) (k : Keeps s s₁)
    (h : wpAny (model pw w) A (pyIter v) (fun it s₂ => Keeps s₁ s₂ ∧ ∃ I wr, it = .ref I ∧ (∀ b, wr b → New s₁.heap b) ∧ (∀ b, wr b → ∃ o, s₂.heap.get? b = some o) ∧ ∀ Y : Addr → Prop, (∀ b, Y b → X b ∧ ¬ wr b) → (∀ b o, X b → ¬ wr b → s₂.heap.get? b = some o → Y b) →
      ∃ St, Walk w A Y wr I ds St ∧ St 0 s₂.heap) E s₁) :
    wpAny (model pw w) A (pyIter v) (fun it s₂ => Keeps s₁ s₂ ∧ ∃ I wr, it = .ref I ∧ (∀ b, wr b → New s.heap b) ∧ (∀ b, wr b → ∃ o, s₂.heap.get? b = some o) ∧ ∀ Y : Addr → Prop, (∀ b, Y b → X b ∧ ¬ wr b) → (∀ b o, X b → ¬ wr b → s₂.heap.get? b = some o → Y b) →
      ∃ St, Walk w A Y wr I ds St ∧ St 0 s₂.heap) E s₁ :=
  wpAny_mono h (fun it s₂ h₂ => by
    obtain ⟨k₂, I, wr, e, h1, h2, h3⟩ := h₂
    exact ⟨k₂, I, wr, e, fun b hb => New.back (kg k) (h1 b hb), h2, h3⟩) fun _ _ e => e

theorem it_range1 {e : Expr} {np pos : Pos} {b : Nat} (hh : A.handled = none) (kx : env.kindOf ("range" : Str) = some .globalImplicit) (hb : b < 65536) (h : Ev w A mg mb s₀ X env l c D e (.int b)) (hs : starEach [e] env = [(false, eval e env)] := by rfl) :
    It w A mg mb s₀ X env l c D (.Call (.Name "range" np) [e] [] pos) ((rngL 0 b).map fun n : Nat => Da.int n) := fun s E F => by
  show wpAny _ A (eval (.Name "range" np) env >>= fun fv => callWith pos fv [] (backTo pos (starEach [e] env)) (backToKw pos (keywordEach [] env))) _ _ s
  refine wpAny_bind (F.ldB kx (F.topNow.fr "range" (by decide +kernel)) (by decide +kernel) Boot.«range» ?_ (by decide +kernel))
  refine PySem.callWith_type (by rw [hs]; rfl) (evalArgs_of hs (wpAny_items_cons (ev_use h F fun v s₁ k₁ h₁ => wpAny_items_nil ?_) hs))
  obtain ⟨t, rfl⟩ := h₁
  refine call_range_1 ?_
  have k2 : Keeps s { s₁ with heap := s₁.heap.push { cls := .type "range", data := .fields #[.int 0 s₁.toks, .int b t, .int 1 (s₁.toks + 1)] }, toks := s₁.toks + 1 + 1 } := kt k₁ ⟨_, _, rfl, grow_push _ _⟩
  refine ⟨k2, It.back F k2 (iter_range (a := 0) hh (by omega) hb (IsRange.new ..) (F.keeps k2).xn)⟩
theorem it_range2 {e₁ e₂ : Expr} {np pos : Pos} {a b : Nat} (hh : A.handled = none) (kx : env.kindOf ("range" : Str) = some .globalImplicit) (ha : a < 65536) (hb : b < 65536) (h1 : Ev w A mg mb s₀ X env l c D e₁ (.int a)) (h2 : Ev w A mg mb s₀ X env l c D e₂ (.int b))
    (hs : starEach [e₁, e₂] env = [(false, eval e₁ env), (false, eval e₂ env)] := by rfl) (hs2 : starEach [e₂] env = [(false, eval e₂ env)] := by rfl) :
    It w A mg mb s₀ X env l c D (.Call (.Name "range" np) [e₁, e₂] [] pos) ((rngL a b).map fun n : Nat => Da.int n) := fun s E F => by
  show wpAny _ A (eval (.Name "range" np) env >>= fun fv => callWith pos fv [] (backTo pos (starEach [e₁, e₂] env)) (backToKw pos (keywordEach [] env))) _ _ s
  refine wpAny_bind (F.ldB kx (F.topNow.fr "range" (by decide +kernel)) (by decide +kernel) Boot.«range» ?_ (by decide +kernel))
  refine PySem.callWith_type (by rw [hs]; rfl) (evalArgs_of (by rw [hs, hs2]) (wpAny_items_cons (ev_use h1 F fun v s₁ k₁ g₁ => wpAny_items_cons (ev_use h2 (F.keeps k₁) fun u s₂ k₂ g₂ => wpAny_items_nil ?_) hs2) (by rw [hs, hs2])))
  obtain ⟨t, rfl⟩ := g₁
  obtain ⟨t', rfl⟩ := g₂
  refine call_range_2 ?_
  have k3 : Keeps s { s₂ with heap := s₂.heap.push { cls := .type "range", data := .fields #[.int a t, .int b t', .int 1 s₂.toks] }, toks := s₂.toks + 1 } := kt (kt k₁ k₂) ⟨_, _, rfl, grow_push _ _⟩
  refine ⟨k3, It.back F k3 (iter_range hh ha hb (IsRange.new ..) (F.keeps k3).xn)⟩

/-- the frame's object takes new slots -/
theorem Cx.slots {s : Shared} (F : Cx mg mb s₀ X env l c D s) {h' : Heap} {tk : Nat} (h1 : ∀ b o, s.heap.get? b = some o → b ≠ env.locals → h'.get? b = some o) (h2 : ∀ b o, s.heap.get? b = some o → ∃ sl, h'.get? b = some { o with slots := sl }) :
    Cx mg mb s₀ X env l c D { s with heap := h', toks := tk } := by
  refine ⟨F.kind, F.glob, F.blt, let ⟨_, _, e⟩ := F.same; ⟨h', tk, by rw [e]⟩, fun b o e => h1 b o (F.keep b o e) (F.old b o e).1, F.top, ?_, fun n c' e => ?_, F.apart, F.off, F.old, F.xl, fun b hb => F.xn b ?_, fun p hp => (F.led p hp).ext fun b o xb e => ⟨xb, h1 b o e (F.xl b xb).1⟩⟩
  · obtain ⟨o, es, ep, ho, hd, r⟩ := F.ns
    obtain ⟨sl, q⟩ := h2 _ o ho
    exact ⟨_, es, ep, q, hd, r⟩
  · obtain ⟨o, ho, r⟩ := F.cell n c' e
    exact ⟨o, h1 _ o ho (F.off n c' e), r⟩
  · cases e : s.heap.get? b with
    | none => exact e
    | some o =>
      obtain ⟨sl, q⟩ := h2 b o e
      rw [show h'.get? b = none from hb] at q; cases q

/-- x = _law_asked(e) -/
theorem ex_ask {x : Str} {e : Expr} {np cp px pos : Pos} {rest : List Stmt} {ps : List (List Nat)} {s : Shared} {Q : Flow → Shared → Prop} {E : Value → Shared → Prop} {hb : Heap} (F : Cx mg mb s₀ X env l c D s)
    (hd : A.depth + 2 < recursionLimit) (hh : A.handled = none) (hu : A.units + 40 < cLine) (hne : ps ≠ []) (hn : ps.length ≤ 64) (hp : ∀ p ∈ ps, p.length < 65536) (hfr : A.frames = some [env]) (hfe : env.frame = some env.locals)
    (Tb : TopF mg mb hb) (hbs : ∀ b o, hb.get? b = some o → s₀.B b o)
    (k1 : env.kindOf ("_law_asked" : Str) = some .globalImplicit) (hx : env.kindOf x = some .local) (he : Ev w A mg mb s₀ X env l c D e (.list (ps.map fun p => .str (S p))))
    (h : ∀ v s', Cx mg mb s₀ X env ((x, v) :: l) c ((optD (askL ps), v) :: D) s' → wpAny (model pw w) A (execs rest env) Q E s')
    (hs1 : starEach [e] env = [(false, eval e env)] := by rfl) (hs : swapsWith (.Call (.Name "_law_asked" np) [e] [] cp) (some (.Name x px)) pos.line env = pure false := by rfl) :
    wpAny (model pw w) A (execs (.Assign [.Name x px] (.Call (.Name "_law_asked" np) [e] [] cp) pos :: rest) env) Q E s := by
  refine wpAny_execs_cons (wpAny_Assign_Name ?_ hs)
  obtain ⟨a, hm, hfn⟩ := F.topNow.fn ("_law_asked", 26) (by decide +kernel)
  show wpAny _ A (eval (.Name "_law_asked" np) env >>= fun fv => callWith cp fv [] (backTo cp (starEach [e] env)) (backToKw cp (keywordEach [] env))) _ _ s
  refine wpAny_bind (F.ldG k1 hm ?_ (by decide +kernel))
  obtain ⟨o, pm, cd, doc, ho, hd', hcd⟩ := id hfn
  have he' : starEach (e :: []) env = (false, eval e env) :: starEach [] env := hs1
  refine Calls.callWith_function (o := o) (fd := Calls.docDef "_law_asked" (parAt 26) (bodAt 26) (scoAt 26) pm cd doc) (evalArgs_of he' (wpAny_mono ((evl_cons he evl_nil he') _ _ F) (fun vs s₁ h₁ => ?_) fun _ _ e => e))
  refine ⟨⟨kg h₁.1 _ _ ho, hd'⟩, ?_⟩
  have F₁ := F.keeps h₁.1
  have nfr : ∀ b, b ≠ env.locals → b ∉ frs [env] := fun b q hm => by
    rw [frs, List.filterMap_cons, hfe] at hm
    rcases List.mem_cons.mp hm with r | r
    · exact q r
    · simp at r
  have frl : s₁.heap.FunFrames h0 [env] := by
    refine ⟨by rw [F.kind]; decide, ?_, trivial⟩
    obtain ⟨o, es, ep, ho, hd', _⟩ := F₁.ns
    exact ⟨env.locals, o, hfe, rfl, ho, fun vs q => by rw [hd'] at q; cases q⟩
  refine asked_spec hd hh hu hne hn hp hfr Tb (fun b o q => ⟨F₁.keep b o (hbs b o q), nfr b (F₁.old b o (hbs b o q)).1⟩) (hfn.keeps (kg h₁.1)) F₁.xn h₁.2 frl fun v h' tk q1 q2 q3 => ?_
  have F₂ : Cx mg mb s₀ X env l c D { s₁ with heap := h', toks := tk } := F₁.slots (fun b o e q => q1 b o e (nfr b q)) q2
  exact (F₂.add q3).st hx fun s' F' => h v s' F'
end
end Mine

end
section
open PySem PySem.W PyProof.Rows
namespace Mine

noncomputable def numsL (ns : List Int) : List Nat := [4025, 405] ++ (ns.take 3).map fun i => (i % 1000000).toNat
noncomputable def frontL (nums : List Nat) : List Nat := if nums.sum % 2 = 0 then [] else [47]
noncomputable def pathsL (nums : List Nat) : List PP := nums.map fun n => pathL (frontL nums) n
noncomputable def sharedL (ab : List (List (List Nat))) (l0 : List (List Nat)) : List (List Nat) := l0.filter fun pl => ab.all fun l => l.any fun y => decide (y = pl)
noncomputable def skipB (p : PP) : Bool := (p.1.take 1 != [47]) && (p.2.take 1 == [47])
/-- what the law says of a row -/
structure RowOk (ps : List PP) (a b : Nat) : Prop where
  one : (askL ((cutL (some a) (some b) ps).map (·.1))).map prepL = rowCom (cutL (some a) (some b) ps)
  two : askL (cutL (some a) (some b) (ps.map fun p => prepL p.1)) = rowCom ((cutL (some a) (some b) ps).map fun p => (p.2, p.2))
  three : ∀ cm, askL (cutL (some a) (some b) (ps.map fun p => prepL p.1)) = some cm → ((cutL (some a) (some b) ps).filter skipB) = [] →
    cutL none (some 1) (sharedL (cutL (some a) (some b) (ps.map fun p => aboveL p.1)) ((ps.map fun p => aboveL p.1).getD a [])) = [cm]

theorem cutL_map {α β : Type} (f : α → β) (a b : Option Nat) (l : List α) : cutL a b (l.map f) = (cutL a b l).map f := by
  unfold cutL
  rw [List.length_map, List.map_drop, List.map_take]
theorem cutL_mem {α : Type} {a b : Option Nat} {l : List α} {x : α} (h : x ∈ cutL a b l) : x ∈ l := by
  unfold cutL at h
  exact List.mem_of_mem_take (List.mem_of_mem_drop h)
theorem cutL_len {α : Type} (a b : Option Nat) (l : List α) : (cutL a b l).length ≤ l.length := by
  unfold cutL
  rw [List.length_drop, List.length_take]
  omega
theorem cutL_ne {α : Type} {a b : Nat} {l : List α} (h : a < b) (hb : b ≤ l.length) : cutL (some a) (some b) l ≠ [] := by
  intro e
  have := congrArg List.length e
  unfold cutL at this
  simp only [List.length_drop, List.length_take, Option.getD_some, List.length_nil] at this
  omega
theorem closG {scope : Scope} {env : Env} {n1 n2 n3 n4 x : Str} {a : Addr} (h : scope.names = [(n1, .local), (n2, .local), (n3, .globalImplicit), (n4, .globalImplicit), (x, .free)]) (ha : env.cells.lookup x = some a) : closureFor scope env = pure [(x, a)] := by
  unfold closureFor
  rw [h]
  simp [cellOf, ha]
theorem clos3 {scope : Scope} {env : Env} {n1 n2 n3 x y z : Str} {a b c : Addr} (h : scope.names = [(n1, .local), (n2, .cell), (n3, .globalImplicit), (x, .free), (y, .free), (z, .free)]) (ha : env.cells.lookup x = some a) (hb : env.cells.lookup y = some b) (hc : env.cells.lookup z = some c) :
    closureFor scope env = pure [(z, c), (y, b), (x, a)] := by
  unfold closureFor
  rw [h]
  simp [cellOf, ha, hb, hc]
theorem clk3 {env : Env} {x y z n : Str} {a b c c' : Addr} (h : List.lookup n [(z, c), (y, b), (x, a)] = some c') (ha : env.cells.lookup x = some a) (hb : env.cells.lookup y = some b) (hc : env.cells.lookup z = some c) : env.cells.lookup n = some c' := by
  by_cases e : n = z
  · subst e
    simp at h
    rw [← h]; exact hc
  · rw [List.lookup_cons, beq_eq_false_iff_ne.mpr e] at h
    exact clk2 h ha hb
theorem lkcA {x y : Str} {v : Addr} {L : List (Str × Addr)} {r : Option Addr} (h : (x == y) = false) (e : L.lookup x = r) : ((y, v) :: L).lookup x = r := by rw [List.lookup_cons, h]; exact e
theorem lkhA {x : Str} {v : Addr} {L : List (Str × Addr)} : ((x, v) :: L).lookup x = some v := by simp
theorem cells29 (n : Nat) : (cellsFrom n (scoAt 29).names []).lookup ("numbers" : Str) = some n ∧ (cellsFrom n (scoAt 29).names []).lookup ("above" : Str) = some (n + 1) ∧ (cellsFrom n (scoAt 29).names []).lookup ("start" : Str) = some (n + 2) ∧ (cellsFrom n (scoAt 29).names []).lookup ("end" : Str) = some (n + 3) := by
  have h : cellsFrom n (scoAt 29).names [] = [(("end" : Str), n + 3), (("start" : Str), n + 2), (("above" : Str), n + 1), (("numbers" : Str), n)] := by rfl
  rw [h]
  exact ⟨lkcA (by decide +kernel) (lkcA (by decide +kernel) (lkcA (by decide +kernel) lkhA)), lkcA (by decide +kernel) (lkcA (by decide +kernel) lkhA), lkcA (by decide +kernel) lkhA, lkhA⟩
theorem comL_len (ps : List (List Nat)) (hne : ps ≠ []) {B : Nat} (hp : ∀ p ∈ ps, p.length ≤ B) : (comL ps).length ≤ 2 * B + 3 := by
  have hm := best_mem false (xs := ps.map partsL) (by simpa using hne)
  obtain ⟨p, hp1, hp2⟩ := List.mem_map.mp hm
  have h1 := parts_len p
  rw [hp2] at h1
  have h2 := hp p hp1
  obtain ⟨n, hn⟩ := lcp_pre (bestL false (ps.map partsL)) (bestL true (ps.map partsL))
  have h3 := join_len (lcpL (bestL false (ps.map partsL)) (bestL true (ps.map partsL)))
  have h4 := sum_take (bestL false (ps.map partsL)) n
  rw [← hn] at h4
  have h5 := lcp_len (bestL false (ps.map partsL)) (bestL true (ps.map partsL))
  unfold comL
  rw [List.length_append]
  have : (if ps.any absL then [47] else [] : List Nat).length ≤ 1 := by split <;> simp
  omega
theorem chain_len : ∀ (n : Nat) (p : List Nat), (chainL n p).length ≤ n
  | 0, _ => Nat.le_refl _
  | n + 1, p => by
    show (if dirL p == p then [] else dirL p :: chainL n (dirL p)).length ≤ _
    have := chain_len n (dirL p)
    split
    · simp
    · rw [List.length_cons]; omega
theorem above_len (x : List Nat) : (aboveL x).length ≤ x.length + 1 := by
  unfold aboveL
  rw [List.length_map, List.length_cons]
  have := chain_len x.length x
  omega
theorem path_len {front : List Nat} {n : Nat} (hn : n < 10 ^ 6) (hf : front.length ≤ 1) : (pathL front n).1.length ≤ 25 ∧ (pathL front n).2.length ≤ 25 := by
  have := foldW_len (n := n) (figL n) (front, front) fun g hg => figL_digit hg
  have h6 := figL_len hn
  unfold pathL
  dsimp only at this
  omega
theorem nums_lt {ns : List Int} : ∀ n ∈ numsL ns, n < 10 ^ 6 := by
  intro n hn
  unfold numsL at hn
  rcases List.mem_append.mp hn with h | h
  · simp at h; omega
  · obtain ⟨i, _, rfl⟩ := List.mem_map.mp h
    have := Int.emod_lt_of_pos i (show (0 : Int) < 1000000 by decide)
    have := Int.emod_nonneg i (show (1000000 : Int) ≠ 0 by decide)
    omega
theorem nums_len (ns : List Int) : (numsL ns).length ≤ 5 := by
  unfold numsL
  rw [List.length_append, List.length_map, List.length_take]
  simp; omega
theorem nums_sum {ns : List Int} : (numsL ns).sum < 2 ^ 62 := by
  have h1 := nums_len ns
  have h2 := @nums_lt ns
  generalize numsL ns = l at h1 h2
  have : l.sum ≤ l.length * 10 ^ 6 := by
    clear h1
    induction l with
    | nil => simp
    | cons a r ih =>
      have := ih fun n hn => h2 n (List.mem_cons_of_mem _ hn)
      have := h2 a List.mem_cons_self
      rw [List.sum_cons, List.length_cons, Nat.succ_mul]; omega
  omega

section
variable {w : World} {A : Around} {mg mb : Str → Option Value} {s₀ : Base} {X : Addr → Prop} {env : Env} {l c : List (Str × Value)} {D : List (Da × Value)}
theorem ev_cutST {o u : Expr} {p pos : Pos} {x : List Nat} {k : Nat} (ho : Ev w A mg mb s₀ X env l c D o (.str (S x))) (hu : Ev w A mg mb s₀ X env l c D u (.int k)) (hsz : x.length ≤ sizeLine) :
    Ev w A mg mb s₀ X env l c D (.Subscript o (.Slice none (some u) none p) pos) (.str (S (x.take k))) := fun s E F => by
  refine sub_sliceT (T := "str") PySem.F.slot_str_getitem.lookup (wpAny_mono (ho s E F) (fun v s₁ h₁ => wpAny_Slice (evalPart_none_step (evalPart_some_step (wpAny_mono (hu s₁ E (F.keeps h₁.1)) (fun vu s₂ h₂ => evalPart_none_step ?_) fun _ _ e => e)))) fun _ _ e => e)
  obtain ⟨hk, t, rfl⟩ := h₁
  obtain ⟨hk₂, u, rfl⟩ := h₂
  refine ⟨typeIs_str _ (S x) t, wpAny_getItem_str_slice (l := none) (u := some ((k : Int), u)) (st := none) ⟨_, Heap.get?_push_size _ rfl, rfl, rfl⟩ rfl ?_⟩
  refine post_val_or_str (y := S x) ⟨Nat.le_trans (Txt.slice_le (S x) none (some (k : Int))) (by simpa using hsz), fun t' n => ⟨kt (kt hk hk₂) ⟨_, n, rfl, grow_push _ _⟩, ?_⟩⟩
  exact ⟨t', by rw [← slice_upto]; rfl⟩
end

section
variable {w : World} {A : Around}

/-- what stands between the turns of law's loops -/
noncomputable def LawJ (ps : List PP) (L C : List (Str × Value)) (D : List (Da × Value)) : Prop :=
  ∃ vp vr va, L.lookup ("paths" : Str) = some vp ∧ L.lookup ("ready" : Str) = some vr ∧ C.lookup ("above" : Str) = some va ∧ C.lookup ("place" : Str) = none ∧ (Da.list (ps.map dP), vp) ∈ D ∧ (Da.list ((ps.map fun p => prepL p.1).map strD), vr) ∈ D ∧
    (Da.list ((ps.map fun p => aboveL p.1).map dL), va) ∈ D

theorem law_spec {ns : List Int} (hd : A.depth + 4 < recursionLimit) (hh : A.handled = none) (hu : A.units + 60 < cLine) (hfr0 : A.frames = some []) (hB : ∀ n, (b3L n).length ≤ 64) (hn : ns.length ≤ 63)
    (hok : ∀ a b, a < b → b ≤ (pathsL (numsL ns)).length → RowOk (pathsL (numsL ns)) a b) : Spec w A "law" 29 [.list (ns.map Da.int)] (.bool true) := by
  have hsz : sizeLine = 16777216 := sizeLine_eq
  refine enter (ps := ["script"]) (by omega) (fun pm cd doc vs hl => ?_) (by decide +kernel) rfl rfl rfl ?_
  · match vs, hl with
    | [v], _ => rfl
  · intro X mg mb s s' E _ env vs hs hc hh' hl hfe _ hloc F
    match vs, hl with
    | [v], _ =>
    have hce := cells29 (env.locals + 1)
    rw [← hc] at hce
    obtain ⟨cnu, cab, cst, cen⟩ := hce
    have kd : ∀ {x : Str} {kd : NameKind}, (scoAt 29).names.lookup x = some kd → env.kindOf x = some kd := fun h => kindOf_eq hs h
    have hfun : env.scope.kind = .function := F.kind
    have hbk : env.blockKind = .function := by unfold Env.blockKind; rw [hs]; rfl
    have knu := kd (x := "numbers") (kd := .cell) (by decide +kernel)
    have kab := kd (x := "above") (kd := .cell) (by decide +kernel)
    have kst := kd (x := "start") (kd := .cell) (by decide +kernel)
    have ken := kd (x := "end") (kd := .cell) (by decide +kernel)
    have hA : (A.deeper env).frames = some [env] := Around.frames_deeper hfr0
    have hu' : (A.deeper env).units + 50 < cLine := by rw [Around.deeper_units]; omega
    have hd' : (A.deeper env).depth + 3 < recursionLimit := by show A.depth + 1 + 3 < _; omega
    have Tb : TopF mg mb s.heap := F.top s.heap fun _ _ e => e
    have hnl := nums_len ns
    have hnlt := @nums_lt ns
    have hnsum := @nums_sum ns
    -- numbers
    refine ex_assignC F (d := .list ((numsL ns).map fun n : Nat => Da.int n)) (ev_cast (ev_addL (ev_list (ds := [.int 4025, .int 405]) (evl_cons ev_int (evl_cons ev_int evl_nil)) (by rw [hsz]; exact Nat.le_of_ble_eq_true rfl))
      (ev_comp (xs := ns.take 3) (dat := Da.int) (p := fun _ => true) (f := fun i => .int (i % 1000000)) (J := J1 "cell" Da.int) (it_list hh (ev_cast (ev_cutL (a := none) (b := some 3) (ev_local (kd (by decide +kernel)) rfl (.head _)) part_none (part_some (k := 3) ev_int) (by rw [List.length_map]; omega)) (by rw [cutL_map]; simp [cutL]))) (by rw [List.length_take]; omega)
        (closureFor_none (by decide +kernel)) (fun n c' e => by cases e) (by decide +kernel) rfl (by decide +kernel) (.inl fun _ _ => rfl) (asg1 (by decide +kernel)) (fun Y cenv e1 e2 i hi L P hj => tsts_nil) (fun Y cenv e1 e2 i hi _ L P hj => ?_)) ?_) ?_) knu cnu fun v₁ s₁ F => ?_
    · obtain ⟨u, l', rfl, rfl⟩ := hj
      exact ev_modI (ev_typ (kc e1 (by decide +kernel)) (fun T => T.fr "int" (by decide +kernel)) Boot.«int» (evl_cons (ev_local (kc e1 (by decide +kernel)) rfl (.head _)) evl_nil) b_intI) ev_pow106 (by decide)
    · rw [filt, List.length_map, List.length_take, hsz]
      simp; omega
    · rw [filt]
      unfold numsL
      rw [List.map_append, List.map_map]
      congr 2
      refine List.map_congr_left fun i _ => ?_
      show Da.int _ = Da.int (((i % 1000000).toNat : Nat) : Int)
      rw [Int.toNat_of_nonneg (Int.emod_nonneg i (by decide))]
    -- paths
    have hfl : (frontL (numsL ns)).length ≤ 1 := by unfold frontL; split <;> simp
    refine ex_comp (xs := numsL ns) (dat := fun n : Nat => .int n) (p := fun _ => true) (f := fun n => dP (pathL (frontL (numsL ns)) n)) (J := J1 "number" fun n : Nat => .int n) F (it_list hh (ev_cell knu cnu lkh (.head _))) (by omega)
      (closG rfl cnu) (fun n c' e => clk e cnu) (by decide +kernel) rfl (by decide +kernel) (.inl fun _ _ => rfl) (asg1 (by decide +kernel)) (fun Y cenv e1 e2 n hm L P hj => tsts_nil)
      (fun Y cenv e1 e2 n hm _ L P hj => ?_) (kd (by decide +kernel)) (swaps_on hbk (kd (by decide +kernel)) rfl (by decide +kernel)) fun v₂ s₂ F => ?_
    · obtain ⟨u, l', rfl, rfl⟩ := hj
      have knu' : cenv.kindOf ("numbers" : Str) = some .cell := kf e1 hfun knu (by decide +kernel)
      have cnu' : cenv.cells.lookup ("numbers" : Str) = some (env.locals + 1) := by rw [e2]; simp
      refine ev_fn (k := 24) (ds := [.str (S (frontL (numsL ns))), .int n]) (kc e1 (by decide +kernel)) (by decide +kernel) (evl_cons (ev_ifexp (ts_int (ev_modI (ev_blt (kc e1 (by decide +kernel)) (fun T => T.fr "sum" (by decide +kernel)) Boot.«sum» (evl_cons (ev_cell knu' cnu' lkh (.tail _ (.head _))) evl_nil) (b_sum hh hnsum)) ev_int (by decide)))
        (fun e => ev_cast (ev_cast ev_str (d' := .str (S [47])) (by kernel_rfl)) ?_) (fun e => ev_cast (ev_cast ev_str (d' := .str (S [])) (by kernel_rfl)) ?_)) (evl_cons (ev_local (kc e1 (by decide +kernel)) rfl (.head _)) evl_nil)) (path_spec (by omega) hh (hnlt n hm) hfl)
      · have : ¬ (numsL ns).sum % 2 = 0 := by simp at e; omega
        unfold frontL; rw [if_neg this]
      · have : (numsL ns).sum % 2 = 0 := by simp at e; omega
        unfold frontL; rw [if_pos this]
    have e0 : Da.list (((numsL ns).filter fun _ => true).map fun n => dP (pathL (frontL (numsL ns)) n)) = Da.list ((pathsL (numsL ns)).map dP) := by rw [filt]; unfold pathsL; rw [List.map_map]; rfl
    rw [e0] at F
    have hpl : ∀ p ∈ pathsL (numsL ns), p.1.length ≤ 25 ∧ p.2.length ≤ 25 := fun p hp => by
      obtain ⟨n, hn', rfl⟩ := List.mem_map.mp hp
      exact path_len (hnlt n hn') hfl
    have hpn : (pathsL (numsL ns)).length ≤ 5 := by unfold pathsL; rw [List.length_map]; exact hnl
    generalize hPS : pathsL (numsL ns) = ps at F hok hpl hpn
    have hprl : ∀ p ∈ ps, (prepL p.1).length ≤ 1600 := fun p hp => by
      have := prep_len (x := p.1) fun n _ => hB n
      have := (hpl p hp).1
      omega
    -- ready
    refine ex_comp (xs := ps) (dat := dP) (p := fun _ => true) (f := fun p => strD (prepL p.1)) (J := J1 "path" dP) F (it_list hh (ev_local (kd (by decide +kernel)) rfl (.head _))) (by omega)
      (closureFor_none (by decide +kernel)) (fun n c' e => by cases e) (by decide +kernel) rfl (by decide +kernel) (.inl fun _ _ => rfl) (asg1 (by decide +kernel)) (fun Y cenv e1 e2 p hm L P hj => tsts_nil)
      (fun Y cenv e1 e2 p hm _ L P hj => ?_) (kd (by decide +kernel)) (swaps_on hbk (kd (by decide +kernel)) rfl (by decide +kernel)) fun v₃ s₃ F => ?_
    · obtain ⟨u, l', rfl, rfl⟩ := hj
      have := (hpl p hm).1
      exact ev_fn (k := 25) (ds := [.str (S p.1)]) (kc e1 (by decide +kernel)) (by decide +kernel) (evl_cons (ev_itemT (k := 0) (ds := [.str (S p.1), .str (S p.2)]) (ev_local (d := dP p) (kc e1 (by decide +kernel)) rfl (.head _)) ev_int rfl (by decide)) evl_nil) (prep_spec (by omega) hh (by omega) fun n _ => hB n)
    have e1 : Da.list ((ps.filter fun _ => true).map fun p => strD (prepL p.1)) = Da.list ((ps.map fun p => prepL p.1).map strD) := by rw [filt, List.map_map]; rfl
    rw [e1] at F
    -- above
    refine ex_assignC F (d := .list ((ps.map fun p => aboveL p.1).map dL)) (ev_cast (ev_comp (xs := ps) (dat := dP) (p := fun _ => true) (f := fun p => dL (aboveL p.1)) (J := J1 "path" dP) (it_list hh (ev_local (d := .list (ps.map dP)) (kd (by decide +kernel)) rfl (.tail _ (.head _)))) (by omega)
      (closureFor_none (by decide +kernel)) (fun n c' e => by cases e) (by decide +kernel) rfl (by decide +kernel) (.inl fun _ _ => rfl) (asg1 (by decide +kernel)) (fun Y cenv e1 e2 p hm L P hj => tsts_nil)
      (fun Y cenv e1 e2 p hm _ L P hj => ?_)) (by rw [filt, List.map_map]; rfl)) kab cab (fun v₄ s₄ F => ?_) (swaps_off kab)
    · obtain ⟨u, l', rfl, rfl⟩ := hj
      have := (hpl p hm).1
      exact ev_fn (k := 27) (ds := [.str (S p.1)]) (kc e1 (by decide +kernel)) (by decide +kernel) (evl_cons (ev_itemT (k := 0) (ds := [.str (S p.1), .str (S p.2)]) (ev_local (d := dP p) (kc e1 (by decide +kernel)) rfl (.head _)) ev_int rfl (by decide)) evl_nil) (above_spec (by omega) hh (by omega) (by omega) fun n _ => hB n)
    -- the loops
    refine ex_for (xs := rngL 0 ps.length) (dat := fun n : Nat => .int n) (J := fun _ => LawJ ps) (JB := fun _ _ _ => False) F (it_range1 hh (kd (by decide +kernel)) (by omega) (ev_cast (ev_blt (kd (by decide +kernel)) (fun T => T.fr "len" (by decide +kernel)) Boot.«len» (evl_cons (ev_local (d := .list (ps.map dP)) (kd (by decide +kernel)) rfl (.tail _ (.tail _ (.head _)))) evl_nil) (b_lenL (by rw [List.length_map]; omega))) (by rw [List.length_map])))
      ⟨v₂, v₃, v₄, rfl, rfl, rfl, rfl, .tail _ (.tail _ (.head _)), .tail _ (.head _), .head _⟩ (.inl fun _ _ => rfl) (fun Y s₅ i a L C D' s v E' hx hJ hY hB1 F hv => ?_) fun L C D' s' hJ F => ?_
    · have ha : a < ps.length := by
        have := List.mem_of_getElem? hx
        unfold rngL at this
        obtain ⟨k, hk, rfl⟩ := List.mem_map.mp this
        have := List.mem_range.mp hk
        omega
      obtain ⟨vp, vr, va, lp, lr, la, lpl, mp, mr, ma⟩ := hJ
      refine wpAny_assign_Name ((F.add hv).stC kst cst fun s₆ F => ?_)
      refine ex_for (xs := rngL (a + 1) (ps.length + 1)) (dat := fun n : Nat => .int n) (J := fun _ L C D => LawJ ps L C D ∧ ∃ vs, C.lookup ("start" : Str) = some vs ∧ (Da.int (a : Nat), vs) ∈ D) (JB := fun _ _ _ => False) F
        (it_range2 hh (kd (by decide +kernel)) (by omega) (by omega) (ev_cast (ev_addI (ev_cell (d := .int (a : Nat)) kst cst lkh (.head _)) ev_int) (by congr 1))
          (ev_cast (ev_addI (ev_blt (kd (by decide +kernel)) (fun T => T.fr "len" (by decide +kernel)) Boot.«len» (evl_cons (ev_local (d := .list (ps.map dP)) (kd (by decide +kernel)) lp (.tail _ mp)) evl_nil) (b_lenL (by rw [List.length_map]; omega))) ev_int) (by rw [List.length_map]; congr 1)))
        ⟨⟨vp, vr, va, lp, lr, lkc (by decide +kernel) la, lkc (by decide +kernel) lpl, .tail _ mp, .tail _ mr, .tail _ ma⟩, v, lkh, .head _⟩ (.inl fun _ _ => rfl) (fun Y s₇ j b L C D' s v E' hx hJ hY hB2 F hv => ?_) fun L C D' s' hJ F => ?_
      · have hab : a < b ∧ b ≤ ps.length := by
          have := List.mem_of_getElem? hx
          unfold rngL at this
          obtain ⟨k, hk, rfl⟩ := List.mem_map.mp this
          have := List.mem_range.mp hk
          omega
        obtain ⟨⟨vp, vr, va, lp, lr, la, lpl, mp, mr, ma⟩, vs, ls, ms⟩ := hJ
        have ok := hok a b hab.1 hab.2
        refine wpAny_assign_Name ((F.add hv).stC ken cen fun s₈ F => ?_)
        -- row
        refine ex_assign F (d := .list ((cutL (some a) (some b) ps).map dP)) (ev_cast (ev_cutL (a := some a) (b := some b) (ev_local (d := .list (ps.map dP)) (kd (by decide +kernel)) lp (.tail _ mp)) (part_some (ev_cell (d := .int (a : Nat)) kst cst (lkc (by decide +kernel) ls) (.tail _ ms))) (part_some (ev_cell (d := .int (b : Nat)) ken cen lkh (.head _))) (by rw [List.length_map]; omega)) (by rw [cutL_map])) (kd (by decide +kernel)) fun v₉ s₉ F => ?_
        have hrm : ∀ p ∈ cutL (some a) (some b) ps, p ∈ ps := fun p hp => cutL_mem hp
        have hrl := cutL_len (some a) (some b) ps
        obtain ⟨p₀, pr, hrow⟩ : ∃ p r, cutL (some a) (some b) ps = p :: r := by
          cases hq : cutL (some a) (some b) ps with
          | nil => exact absurd hq (cutL_ne hab.1 hab.2)
          | cons p r => exact ⟨p, r, rfl⟩
        have hone := ok.one
        have htwo := ok.two
        have hthree := ok.three
        rw [hrow] at F hrm hrl hone htwo hthree
        rw [List.map_cons] at htwo
        -- found
        refine ex_ask (ps := (p₀ :: pr).map (·.1)) F (by omega) hh (by omega) (by simp) (by rw [List.length_map]; omega) (fun q hq => by
            obtain ⟨p, hp, rfl⟩ := List.mem_map.mp hq
            have := (hpl p (hrm p hp)).1
            omega) hA hfe Tb (fun b o e => hB2 b o (hB1 b o e)) (kd (by decide +kernel)) (kd (by decide +kernel))
          (ev_cast (ev_comp (xs := p₀ :: pr) (dat := dP) (p := fun _ => true) (f := fun p => .str (S p.1)) (J := J1 "path" dP) (it_list hh (ev_local (d := .list ((p₀ :: pr).map dP)) (kd (by decide +kernel)) lkh (.head _))) (by omega)
            (closureFor_none (by decide +kernel)) (fun n c' e => by cases e) (by decide +kernel) rfl (by decide +kernel) (.inl fun _ _ => rfl) (asg1 (by decide +kernel)) (fun Y cenv e1 e2 p hm L P hj => tsts_nil) (fun Y cenv e1 e2 p hm _ L P hj => by
              obtain ⟨u, l', rfl, rfl⟩ := hj
              exact ev_itemT (k := 0) (ds := [.str (S p.1), .str (S p.2)]) (ev_local (d := dP p) (kc e1 (by decide +kernel)) rfl (.head _)) ev_int rfl (by decide))) (by rw [filt, List.map_map]; rfl)) fun v₁₀ s₁₀ F => ?_
        have hfnd : ∀ f, askL ((p₀ :: pr).map (·.1)) = some f → f.length ≤ 53 := fun f hf => by
          unfold askL at hf
          split at hf
          · cases hf
          · cases hf
            exact comL_len (B := 25) _ (by simp) fun q hq => by
              obtain ⟨p, hp, rfl⟩ := List.mem_map.mp hq
              exact (hpl p (hrm p hp)).1
        generalize hF1 : askL ((p₀ :: pr).map (·.1)) = fnd at F hone hfnd
        refine ex_if (b := false) F (ts_cast (ts_neO (x := fnd.map prepL) (y := rowCom (p₀ :: pr)) (ev_ifexp (ts_noneO (ev_local (d := optD fnd) (kd (by decide +kernel)) lkh (.head _))) (fun e => ?_) (fun e => ?_)) (ev_fn (k := 28) (kd (by decide +kernel)) (by decide +kernel) (evl_cons (ev_local (d := .list ((p₀ :: pr).map dP)) (kd (by decide +kernel)) (lkc (by decide +kernel) lkh) (.tail _ (.head _))) evl_nil)
          (rowcom_spec (by omega) hh (by omega) (by omega) fun p hp => by have := hpl p (hrm p hp); omega))) (by rw [hone]; simp)) fun s₁₁ k₁₁ => wpAny_execs_nil ?_
        · cases fnd with
          | none => exact ev_none
          | some f => cases e
        · cases fnd with
          | none => cases e
          | some f =>
            have := hfnd f rfl
            exact ev_fn (k := 25) (ds := [.str (S f)]) (kd (by decide +kernel)) (by decide +kernel) (evl_cons (ev_local (d := optD (some f)) (kd (by decide +kernel)) lkh (.head _)) evl_nil) (prep_spec (by omega) hh (by omega) fun n _ => hB n)
        have F := F.keeps k₁₁
        -- common
        refine ex_ask (ps := cutL (some a) (some b) (ps.map fun p => prepL p.1)) F (by omega) hh (by omega) (cutL_ne hab.1 (by rw [List.length_map]; exact hab.2)) (by have := cutL_len (some a) (some b) (ps.map fun p => prepL p.1); rw [List.length_map] at this; omega) (fun q hq => by
            obtain ⟨p, hp, rfl⟩ := List.mem_map.mp (cutL_mem hq)
            have := hprl p hp
            omega) hA hfe Tb (fun b o e => hB2 b o (hB1 b o e)) (kd (by decide +kernel)) (kd (by decide +kernel))
          (ev_cast (ev_cutL (a := some a) (b := some b) (ev_local (d := .list ((ps.map fun p => prepL p.1).map strD)) (kd (by decide +kernel)) (lkc (by decide +kernel) (lkc (by decide +kernel) lr)) (.tail _ (.tail _ (.tail _ mr)))) (part_some (ev_cell (d := .int (a : Nat)) kst cst (lkc (by decide +kernel) ls) (.tail _ (.tail _ (.tail _ ms))))) (part_some (ev_cell (d := .int (b : Nat)) ken cen lkh (.tail _ (.tail _ (.head _))))) (by rw [List.length_map, List.length_map]; omega)) (by rw [cutL_map]; rfl)) fun v₁₂ s₁₂ F => ?_
        generalize hF2 : askL (cutL (some a) (some b) (ps.map fun p => prepL p.1)) = cm at F htwo hthree
        refine ex_if (b := false) F (ts_cast (ts_neO (x := cm) (y := rowCom ((p₀.2, p₀.2) :: pr.map fun p => (p.2, p.2))) (ev_local (d := optD cm) (kd (by decide +kernel)) lkh (.head _)) (ev_fn (k := 28) (kd (by decide +kernel)) (by decide +kernel) (evl_cons (ev_cast (d' := .list ((((p₀.2, p₀.2) : PP) :: pr.map fun p => ((p.2, p.2) : PP)).map dP)) (ev_comp (xs := p₀ :: pr) (dat := dP) (p := fun _ => true) (f := fun p => dP (p.2, p.2)) (J := J1 "path" dP) (it_list hh (ev_local (d := .list ((p₀ :: pr).map dP)) (kd (by decide +kernel)) (lkc (by decide +kernel) (lkc (by decide +kernel) lkh)) (.tail _ (.tail _ (.head _))))) (by omega)
            (closureFor_none (by decide +kernel)) (fun n c' e => by cases e) (by decide +kernel) rfl (by decide +kernel) (.inl fun _ _ => rfl) (asg1 (by decide +kernel)) (fun Y cenv e1 e2 p hm L P hj => tsts_nil) (fun Y cenv e1 e2 p hm _ L P hj => by
              obtain ⟨u, l', rfl, rfl⟩ := hj
              exact ev_tuple (ds := [.str (S p.2), .str (S p.2)]) (evl_cons (ev_itemT (k := 1) (ds := [.str (S p.1), .str (S p.2)]) (ev_local (d := dP p) (kc e1 (by decide +kernel)) rfl (.head _)) ev_int rfl (by decide)) (evl_cons (ev_itemT (k := 1) (ds := [.str (S p.1), .str (S p.2)]) (ev_local (d := dP p) (kc e1 (by decide +kernel)) rfl (.head _)) ev_int rfl (by decide)) evl_nil)) (by rw [hsz]; exact Nat.le_of_ble_eq_true rfl))) (by rw [filt, ← List.map_cons (f := fun p : PP => ((p.2, p.2) : PP)), List.map_map]; rfl)) evl_nil)
          (rowcom_spec (A := A.deeper env) (p₀ := (p₀.2, p₀.2)) (pr := pr.map fun p => (p.2, p.2)) (by omega) hh (by omega) (by rw [List.length_cons, List.length_map]; rw [List.length_cons] at hrl; omega) fun q hq => by
            have : q ∈ (p₀ :: pr).map fun p => ((p.2, p.2) : PP) := hq
            obtain ⟨p, hp, rfl⟩ := List.mem_map.mp this
            have := hpl p (hrm p hp)
            dsimp only; omega))) (by rw [htwo]; simp)) fun s₁₃ k₁₃ => wpAny_execs_nil ?_
        have F := F.keeps k₁₃
        have fin : ∀ (L2 : List (Str × Value)) (D2 : List (Da × Value)) (s2 : Shared), Cx mg mb s₇ Y env L2 (("end", v) :: C) D2 s2 → L2.lookup ("paths" : Str) = some vp → L2.lookup ("ready" : Str) = some vr → (∀ p ∈ D', p ∈ D2) →
            ∃ L C D', (LawJ ps L C D' ∧ ∃ vs, C.lookup ("start" : Str) = some vs ∧ (Da.int (a : Nat), vs) ∈ D') ∧ Cx mg mb s₇ Y env L C D' s2 := fun L2 D2 s2 F2 q1 q2 q3 =>
          ⟨_, _, _, ⟨⟨vp, vr, va, q1, q2, lkc (by decide +kernel) la, lkc (by decide +kernel) lpl, q3 _ mp, q3 _ mr, q3 _ ma⟩, vs, lkc (by decide +kernel) ls, q3 _ ms⟩, F2⟩
        -- skipped?
        refine ex_if F (ts_or (ts_noneO (ev_local (d := optD cm) (kd (by decide +kernel)) lkh (.head _))) fun _ => ts_lst (ev_comp (xs := p₀ :: pr) (dat := dP) (p := skipB) (f := dP) (J := J1 "path" dP) (it_list hh (ev_local (d := .list ((p₀ :: pr).map dP)) (kd (by decide +kernel)) (lkc (by decide +kernel) (lkc (by decide +kernel) lkh)) (.tail _ (.tail _ (.head _))))) (by omega)
            (closureFor_none (by decide +kernel)) (fun n c' e => by cases e) (by decide +kernel) rfl (by decide +kernel) (.inl fun _ _ => rfl) (asg1 (by decide +kernel)) (fun Y cenv e1 e2 p hm L P hj => by
              obtain ⟨u, l', rfl, rfl⟩ := hj
              have := hpl p (hrm p hm)
              exact tsts_one (ts_and (ts_neS (x := p.1.take 1) (y := [47]) (ev_cutST (k := 1) (ev_itemT (k := 0) (ds := [.str (S p.1), .str (S p.2)]) (ev_local (d := dP p) (kc e1 (by decide +kernel)) rfl (.head _)) ev_int rfl (by decide)) ev_int (by omega)) (ev_cast ev_str (by kernel_rfl)))
                fun _ => ts_eqS (x := p.2.take 1) (y := [47]) (ev_cutST (k := 1) (ev_itemT (k := 1) (ds := [.str (S p.1), .str (S p.2)]) (ev_local (d := dP p) (kc e1 (by decide +kernel)) rfl (.head _)) ev_int rfl (by decide)) ev_int (by omega)) (ev_cast ev_str (by kernel_rfl)))) (fun Y cenv e1 e2 p hm _ L P hj => by
              obtain ⟨u, l', rfl, rfl⟩ := hj
              exact ev_local (kc e1 (by decide +kernel)) rfl (.head _))) (by
                rw [List.length_map]
                have : ((p₀ :: pr).filter skipB).length ≤ (p₀ :: pr).length := List.length_filter_le _ _
                omega)) fun s₁₄ k₁₄ => ?_
        have F := F.keeps k₁₄
        cases hsk : (cm.isNone || !(((p₀ :: pr).filter skipB).map dP).isEmpty) with
        | true =>
          refine wpAny_execs_cons (wpAny_Continue ?_)
          exact fin _ _ _ F (lkc (by decide +kernel) (lkc (by decide +kernel) (lkc (by decide +kernel) lp))) (lkc (by decide +kernel) (lkc (by decide +kernel) (lkc (by decide +kernel) lr))) (fun p hp => .tail _ (.tail _ (.tail _ (.tail _ hp))))
        | false =>
          refine wpAny_execs_nil ?_
          obtain ⟨hc1, hc2⟩ := Bool.or_eq_false_iff.mp hsk
          obtain ⟨c, rfl⟩ : ∃ c, cm = some c := by cases cm with
            | none => cases hc1
            | some c => exact ⟨c, rfl⟩
          have hfil : (p₀ :: pr).filter skipB = [] := by
            cases hq : (p₀ :: pr).filter skipB with
            | nil => rfl
            | cons x r => rw [hq] at hc2; simp at hc2
          have h3 := hthree c rfl hfil
          have habm : ∀ x ∈ ps.map fun p => aboveL p.1, x.length ≤ 26 := fun x hx => by
            obtain ⟨p, hp, rfl⟩ := List.mem_map.mp hx
            have := above_len p.1
            have := (hpl p hp).1
            omega
          have hget : (ps.map fun p => aboveL p.1)[a]? = some ((ps.map fun p => aboveL p.1).getD a []) := by
            have : a < (ps.map fun p => aboveL p.1).length := by rw [List.length_map]; exact ha
            rw [List.getD, List.getElem?_eq_getElem this]; rfl
          have hgl : ((ps.map fun p => aboveL p.1).getD a []).length ≤ 26 := habm _ (List.mem_of_getElem? hget)
          have hcut := cutL_len (some a) (some b) (ps.map fun p => aboveL p.1)
          rw [List.length_map] at hcut
          have habl : (ps.map fun p => aboveL p.1).length = ps.length := List.length_map ..
          generalize (ps.map fun p => aboveL p.1).getD a [] = l0 at h3 hget hgl
          have ma' : (Da.list ((ps.map fun p => aboveL p.1).map dL), va) ∈ D' := ma
          generalize (ps.map fun p => aboveL p.1) = ab at h3 hget hcut habl ma'
          refine ex_compK (xs := l0) (dat := strD) (f := strD) (p := fun pl => (cutL (some a) (some b) ab).all fun l => l.any fun y => decide (y = pl)) F (it_list hh (ev_itemL (k := a) (ds := ab.map dL) (d := dL l0) (ev_cell kab cab (lkc (by decide +kernel) la) (.tail _ (.tail _ (.tail _ (.tail _ ma'))))) (ev_cell kst cst (lkc (by decide +kernel) ls) (.tail _ (.tail _ (.tail _ (.tail _ ms))))) (by rw [List.getElem?_map, hget]; rfl) (by omega))) (by omega)
            rfl (clos3 rfl cab cen cst) (fun n c' e => clk3 e cab cen cst) (lkcA (by decide +kernel) (lkcA (by decide +kernel) (lkcA (by decide +kernel) rfl))) (lkc (by decide +kernel) lpl) rfl (by decide +kernel) (by decide +kernel)
            (fun Y2 cenv K e1 e2 pl hpl' L2 C2 P2 hj => ?_) (fun Y2 cenv K e1 e2 pl hpl' _ L2 C2 P2 hj => ?_) (kd (by decide +kernel)) (swaps_on hbk (kd (by decide +kernel)) rfl (by decide +kernel)) fun v₁₅ s₁₅ F => ?_
          · obtain ⟨u, hu1, hu2, rfl⟩ := hj
            have hf1 : cenv.scope.kind = .function := by rw [e1]; rfl
            have kpl : cenv.kindOf ("place" : Str) = some .cell := kc e1 (by decide +kernel)
            have cpl : cenv.cells.lookup ("place" : Str) = some K := by rw [e2]; exact lkhA
            have kab' : cenv.kindOf ("above" : Str) = some .cell := kf e1 hfun kab (by decide +kernel)
            have kst' : cenv.kindOf ("start" : Str) = some .cell := kf e1 hfun kst (by decide +kernel)
            have ken' : cenv.kindOf ("end" : Str) = some .cell := kf e1 hfun ken (by decide +kernel)
            have cab' : cenv.cells.lookup ("above" : Str) = some (env.locals + 1 + 1) := by rw [e2]; exact lkcA (by decide +kernel) (lkcA (by decide +kernel) (lkcA (by decide +kernel) lkhA))
            have cst' : cenv.cells.lookup ("start" : Str) = some (env.locals + 1 + 2) := by rw [e2]; exact lkcA (by decide +kernel) lkhA
            have cen' : cenv.cells.lookup ("end" : Str) = some (env.locals + 1 + 3) := by rw [e2]; exact lkcA (by decide +kernel) (lkcA (by decide +kernel) lkhA)
            have la' : C2.lookup ("above" : Str) = some va := (hu2 _ (by decide +kernel)).trans (lkc (by decide +kernel) la)
            have ls' : C2.lookup ("start" : Str) = some vs := (hu2 _ (by decide +kernel)).trans (lkc (by decide +kernel) ls)
            have le' : C2.lookup ("end" : Str) = some v := (hu2 _ (by decide +kernel)).trans lkh
            refine tsts_one (ts_call (ev_cast (ev_blt (kc e1 (by decide +kernel)) (fun T => T.fr "all" (by decide +kernel)) Boot.«all» (evl_cons (ev_cast (d' := .list (((cutL (some a) (some b) ab).map fun l => l.any fun y => decide (y = pl)).map Da.bool)) (ev_comp (xs := cutL (some a) (some b) ab) (dat := dL) (p := fun _ => true) (f := fun l => .bool (l.any fun y => decide (y = pl))) (J := J1 "places" dL)
              (it_list hh (ev_cast (ev_cutL (a := some a) (b := some b) (ev_cell (d := .list (ab.map dL)) kab' cab' la' (.tail _ (.tail _ (.tail _ (.tail _ (.tail _ ma')))))) (part_some (ev_cell (d := .int (a : Nat)) kst' cst' ls' (.tail _ (.tail _ (.tail _ (.tail _ (.tail _ ms))))))) (part_some (ev_cell (d := .int (b : Nat)) ken' cen' le' (.tail _ (.tail _ (.tail _ (.tail _ (.head _)))))))
                (by rw [List.length_map]; omega)) (by rw [cutL_map]))) (by omega) (clos1 rfl cpl) (fun n c' e => clk e cpl) (by decide +kernel) rfl (by decide +kernel) (.inl fun _ _ => rfl) (asg1 (by decide +kernel)) (fun Y3 cenv2 f1 f2 q hq L3 P3 hj3 => tsts_nil) (fun Y3 cenv2 f1 f2 q hq _ L3 P3 hj3 => ?_)) (by rw [filt, List.map_map]; rfl)) evl_nil) (b_all hh)) (by rw [List.all_map]; rfl)))
            obtain ⟨u3, l3, rfl, rfl⟩ := hj3
            exact ev_inL (kStr 0) (x := pl) (ys := q) (by omega) (ev_cell (d := strD pl) (kf f1 hf1 kpl (by decide +kernel)) (by rw [f2]; exact lkhA) hu1 (.tail _ (.head _))) (ev_local (d := dL q) (kc f1 (by decide +kernel)) rfl (.head _))
          · obtain ⟨u, hu1, hu2, rfl⟩ := hj
            exact ev_cell (d := strD pl) (kc e1 (by decide +kernel)) (by rw [e2]; exact lkhA) hu1 (.head _)
          have esh : Da.list ((l0.filter fun pl => (cutL (some a) (some b) ab).all fun l => l.any fun y => decide (y = pl)).map strD) = Da.list ((sharedL (cutL (some a) (some b) ab) l0).map strD) := rfl
          rw [esh] at F
          have hsl : (sharedL (cutL (some a) (some b) ab) l0).length ≤ l0.length := List.length_filter_le _ _
          refine ex_if (b := false) F (ts_cast (ts_neL (kStr 0) (xs := cutL none (some 1) (sharedL (cutL (some a) (some b) ab) l0)) (ys := [c]) (by omega) (ev_cast (ev_cutL (a := none) (b := some 1) (ev_local (d := .list ((sharedL (cutL (some a) (some b) ab) l0).map strD)) (kd (by decide +kernel)) lkh (.head _)) part_none (part_some (k := 1) ev_int) (by rw [List.length_map]; omega)) (by rw [cutL_map]))
            (ev_list (ds := [strD c]) (evl_cons (ev_local (d := optD (some c)) (kd (by decide +kernel)) (lkc (by decide +kernel) lkh) (.tail _ (.head _))) evl_nil) (by rw [hsz]; exact Nat.le_of_ble_eq_true rfl))) (by rw [h3]; simp)) fun s₁₆ k₁₆ => wpAny_execs_nil (wpAny_execs_nil ?_)
          exact fin _ _ _ (F.keeps k₁₆) (lkc (by decide +kernel) (lkc (by decide +kernel) (lkc (by decide +kernel) (lkc (by decide +kernel) lp)))) (lkc (by decide +kernel) (lkc (by decide +kernel) (lkc (by decide +kernel) (lkc (by decide +kernel) lr)))) (fun p hp => .tail _ (.tail _ (.tail _ (.tail _ (.tail _ hp)))))
      · rcases hJ with ⟨hJ, _⟩ | h
        · exact wpAny_execs_nil ⟨L, C, D', hJ, F⟩
        · exact h.elim
    · exact ex_ret F ev_bool fun v₉ s₉ k₉ h₉ => ⟨(F.keeps k₉).done, h₉⟩
end
end Mine

end
section
open PySem PySem.W PyProof.Rows
namespace Mine

theorem lk_all {α β : Type} [BEq α] {p : β → Bool} : ∀ (l : List (α × β)) (c : α) (x : β), l.all (fun q => p q.2) = true → l.lookup c = some x → p x = true
  | [], _, _, _, h => by simp at h
  | (a, b) :: r, c, x, hall, h => by
    rw [List.all_cons, Bool.and_eq_true] at hall
    simp only [List.lookup] at h
    split at h
    · cases h; exact hall.1
    · exact lk_all r c x hall.2 h
theorem b3_all : b3T.reverse.all (fun q => Nat.ble q.2.cps.toList.length 64) = true := by kernel_rfl
theorem lower_one (n : Nat) : (Txt.lower (S [n])).cps.toList.length ≤ 64 := by
  have h := len_lower (S [n])
  rw [Array.length_toList]
  have h1 : (S [n]).length = 1 := rfl
  have h2 : (Txt.lower (S [n])).cps.size = (Txt.lower (S [n])).length := rfl
  omega
theorem b3L_len (n : Nat) : (b3L n).length ≤ 64 := by
  unfold b3L
  cases h : b3 (n : Int) with
  | some x => exact Nat.le_of_ble_eq_true (lk_all (p := fun x : Str => Nat.ble x.cps.toList.length 64) _ _ _ b3_all h)
  | none => exact lower_one n

/-! prepL over texts -/
theorem prep_app (x y : List Nat) : prepL (x ++ y) = prepL x ++ prepL y := by
  unfold prepL
  rw [List.filter_append, List.map_append, List.flatten_append]
theorem prep_nil : prepL [] = [] := rfl
theorem prep_cons (c : Nat) (x : List Nat) : prepL (c :: x) = prepL [c] ++ prepL x := prep_app [c] x
theorem prep_sl : prepL [47] = [47] := by decide +kernel

/-- the signs of a written path -/
noncomputable def okC (c : Nat) : Prop := (prepL [c] = [47] ∧ c = 47) ∨ (47 ∉ prepL [c] ∧ c ≠ 47)
theorem split_prep : ∀ w : List Nat, (∀ c ∈ w, okC c) → splitL (prepL w) = (splitL w).map prepL
  | [], _ => rfl
  | c :: r, h => by
    have ih := split_prep r fun x hx => h x (List.mem_cons_of_mem _ hx)
    rw [prep_cons]
    rcases h c List.mem_cons_self with ⟨h1, rfl⟩ | ⟨h1, h2⟩
    · rw [h1]
      show splitL (47 :: prepL r) = _
      rw [splitL, if_pos rfl, ih, splitL, if_pos rfl]; rfl
    · rw [splitL_free_app _ _ h1, ih, splitL, if_neg h2]
      have hne := splitL_ne r
      cases hs : splitL r with
      | nil => exact absurd hs hne
      | cons q qs =>
        show _ = prepL (c :: q) :: qs.map prepL
        rw [prep_cons c q]; rfl
theorem prep_join : ∀ ps : List (List Nat), prepL (joinL ps) = joinL (ps.map prepL)
  | [] => rfl
  | [p] => rfl
  | p :: q :: r => by
    show prepL (p ++ 47 :: joinL (q :: r)) = prepL p ++ 47 :: joinL ((q :: r).map prepL)
    rw [prep_app, prep_cons, prep_sl, prep_join (q :: r)]; rfl

/-! the signs -/
noncomputable def okB (c : Nat) : Bool := if c = 47 then decide (prepL [c] = [47]) else !(prepL [c]).contains 47
theorem okC_of {c : Nat} (h : okB c = true) : okC c := by
  unfold okB at h
  split at h
  · rename_i e
    exact .inl ⟨of_decide_eq_true h, e⟩
  · rename_i e
    refine .inr ⟨fun hm => ?_, e⟩
    rw [Bool.not_eq_true', ← Bool.not_eq_true] at h
    exact h (List.contains_iff_mem.mpr hm)
theorem gone_ok (turn : Nat) : prepL [goneN turn] = [] ∧ okB (goneN turn) = true := by
  have h : ∀ k : Nat, k < 27 → prepL [goneN k] = [] ∧ okB (goneN k) = true := by decide +kernel
  have e : goneN turn = goneN (turn % 27) := by unfold goneN; rw [Nat.mod_mod]
  rw [e]; exact h _ (Nat.mod_lt _ (by decide))
theorem a_ok (k : Nat) : k < 5 → prepL [aT.getD k 0] = [97] ∧ okB (aT.getD k 0) = true := by
  have h : ∀ k : Nat, k < 5 → prepL [aT.getD k 0] = [97] ∧ okB (aT.getD k 0) = true := by decide +kernel
  exact h k
theorem b_ok (k : Nat) : k < 4 → prepL [bT.getD k 0] = [98] ∧ okB (bT.getD k 0) = true := by
  have h : ∀ k : Nat, k < 4 → prepL [bT.getD k 0] = [98] ∧ okB (bT.getD k 0) = true := by decide +kernel
  exact h k
theorem s_ok (k : Nat) : k < 16 → prepL [specC k] = specP k ∧ okB (specC k) = true := by
  have h : ∀ k : Nat, k < 16 → prepL [specC k] = specP k ∧ okB (specC k) = true := by decide +kernel
  exact h k
theorem t_ok (k : Nat) : k < 10 → prepL (signT.getD k []) = signT.getD k [] ∧ (signT.getD k []).all okB = true := by
  have h : ∀ k : Nat, k < 10 → prepL (signT.getD k []) = signT.getD k [] ∧ (signT.getD k []).all okB = true := by decide +kernel
  exact h k
theorem sign_ok {turn f : Nat} (h1 : 48 ≤ f) (h2 : f ≤ 57) : prepL (signOf turn f).1 = (signOf turn f).2 ∧ ∀ c ∈ (signOf turn f).1, okC c := by
  unfold signOf
  have one : ∀ {c : Nat} {m : List Nat}, prepL [c] = m ∧ okB c = true → prepL [c] = m ∧ ∀ x ∈ [c], okC x := fun h => ⟨h.1, fun x hx => by
    rw [List.mem_singleton.mp hx]; exact okC_of h.2⟩
  split
  · rename_i h
    have hf : f = 50 ∨ f = 57 := by simpa using h
    have e : signT.getD (f - 48) [] = [] := by rcases hf with rfl | rfl <;> rfl
    rw [e]; exact one (gone_ok turn)
  · split
    · rename_i h
      have hf : f = 52 := by simpa using h
      subst hf
      exact one (a_ok _ (Nat.mod_lt _ (by decide)))
    · split
      · rename_i h
        have hf : f = 53 := by simpa using h
        subst hf
        exact one (b_ok _ (Nat.mod_lt _ (by decide)))
      · split
        · have e1 : specC turn = specC (turn % 16) := by unfold specC; rw [Nat.mod_mod]
          have e2 : specP turn = specP (turn % 16) := by unfold specP; rw [Nat.mod_mod]
          rw [e1, e2]
          exact one (s_ok _ (Nat.mod_lt _ (by decide)))
        · have := t_ok (f - 48) (by omega)
          exact ⟨this.1, fun c hc => okC_of (List.all_eq_true.mp this.2 c hc)⟩
noncomputable def Good (p : PP) : Prop := prepL p.1 = p.2 ∧ ∀ c ∈ p.1, okC c
theorem good_fold {n : Nat} : ∀ (fs : List Nat) (st : PP), Good st → (∀ f ∈ fs, 48 ≤ f ∧ f ≤ 57) → Good (fs.foldl (stepW n) st)
  | [], st, g, _ => g
  | f :: fs, st, g, h => by
    have hs := sign_ok (turn := n + st.1.length) (h f List.mem_cons_self).1 (h f List.mem_cons_self).2
    refine good_fold fs (stepW n st f) ⟨?_, ?_⟩ fun x hx => h x (List.mem_cons_of_mem _ hx)
    · show prepL (_ ++ _) = _ ++ _
      rw [prep_app, g.1, hs.1]
    · intro c hc
      rcases List.mem_append.mp hc with hc | hc
      · exact g.2 c hc
      · exact hs.2 c hc
theorem good_paths (nums : List Nat) : ∀ p ∈ pathsL nums, Good p := by
  intro p hp
  obtain ⟨n, _, rfl⟩ := List.mem_map.mp hp
  have hsl : okC 47 := .inl ⟨prep_sl, rfl⟩
  refine good_fold _ _ ?_ fun f hf => figL_digit hf
  unfold frontL
  split
  · exact ⟨rfl, fun c hc => by cases hc⟩
  · exact ⟨prep_sl, fun c hc => by rw [List.mem_singleton.mp hc]; exact hsl⟩
end Mine

end
section
open PySem PySem.W PyProof.Rows
namespace Mine

theorem ltT_conn {x y : List Nat} (h1 : ltT x y = false) (h2 : ltT y x = false) : x = y := by
  unfold ltT at h1 h2
  have h1 := of_decide_eq_false h1
  have h2 := of_decide_eq_false h2
  exact List.le_antisymm (List.not_lt.mp h2) (List.not_lt.mp h1)
theorem between : ∀ {q a b x : List (List Nat)}, q <+: a → q <+: b → ltLL x a = false → ltLL b x = false → q <+: x
  | [], _, _, x, _, _, _, _ => List.nil_prefix
  | c :: q, [], _, _, h, _, _, _ => by simp at h
  | c :: q, _ :: _, [], _, _, h, _, _ => by simp at h
  | c :: q, a :: as, b :: bs, [], _, _, h, _ => by simp [ltLL] at h
  | c :: q, a :: as, b :: bs, d :: x, ha, hb, h1, h2 => by
    obtain ⟨e1, ga⟩ := List.cons_prefix_cons.mp ha
    obtain ⟨e2, gb⟩ := List.cons_prefix_cons.mp hb
    subst e1; subst e2
    unfold ltLL at h1 h2
    have hd : c = d := by
      by_cases e : c = d
      · exact e
      · rw [if_neg (by simpa using e)] at h2
        rw [if_neg (by simpa using fun e' : d = c => e e'.symm)] at h1
        exact ltT_conn h2 h1
    subst hd
    rw [if_pos (by simp)] at h1 h2
    exact List.cons_prefix_cons.mpr ⟨rfl, between ga gb h1 h2⟩
theorem lcp_left : ∀ (x y : List (List Nat)), lcpL x y <+: x
  | [], _ => by unfold lcpL; exact List.nil_prefix
  | a :: x, [] => by unfold lcpL; exact List.nil_prefix
  | a :: x, b :: y => by
    unfold lcpL
    split
    · exact List.cons_prefix_cons.mpr ⟨rfl, lcp_left x y⟩
    · exact List.nil_prefix
theorem lcp_right : ∀ (x y : List (List Nat)), lcpL x y <+: y
  | [], _ => by unfold lcpL; exact List.nil_prefix
  | a :: x, [] => by unfold lcpL; exact List.nil_prefix
  | a :: x, b :: y => by
    unfold lcpL
    split
    · rename_i h
      exact List.cons_prefix_cons.mpr ⟨by simpa using h, lcp_right x y⟩
    · exact List.nil_prefix
theorem lcp_most : ∀ {r x y : List (List Nat)}, r <+: x → r <+: y → r <+: lcpL x y
  | [], _, _, _, _ => List.nil_prefix
  | c :: r, [], _, h, _ => by simp at h
  | c :: r, _ :: _, [], _, h => by simp at h
  | c :: r, a :: x, b :: y, h1, h2 => by
    obtain ⟨e1, g1⟩ := List.cons_prefix_cons.mp h1
    obtain ⟨e2, g2⟩ := List.cons_prefix_cons.mp h2
    subst e1; subst e2
    unfold lcpL
    rw [if_pos (by simp)]
    exact List.cons_prefix_cons.mpr ⟨rfl, lcp_most g1 g2⟩
/-- what all share -/
noncomputable def comP (X : List (List (List Nat))) : List (List Nat) := lcpL (bestL false X) (bestL true X)
theorem comP_pre {X : List (List (List Nat))} {x : List (List Nat)} (h : x ∈ X) : comP X <+: x :=
  between (lcp_left _ _) (lcp_right _ _) (best_best false h) (best_best true h)
theorem comP_most {X : List (List (List Nat))} {r : List (List Nat)} (hne : X ≠ []) (h : ∀ x ∈ X, r <+: x) : r <+: comP X :=
  lcp_most (h _ (best_mem false hne)) (h _ (best_mem true hne))

theorem tst_iff {ls : List (List PP)} {l0 : List PP} {k : Nat} : tst ls l0 k = true ↔ ∀ nm ∈ ls, k < nm.length ∧ nm.take (k + 1) = l0.take (k + 1) := by
  unfold tst nmT
  rw [List.all_eq_true]
  constructor
  · intro h nm hm; simpa using h nm hm
  · intro h nm hm; simpa using h nm hm
theorem cnt_spec {ls : List (List PP)} {l0 : List PP} : ∀ (n k : Nat), (∀ nm ∈ ls, nm.take k = l0.take k) → (∀ nm ∈ ls, nm.take (cntF ls l0 n k) = l0.take (cntF ls l0 n k)) ∧ (cntF ls l0 n k = k + n ∨ tst ls l0 (cntF ls l0 n k) = false)
  | 0, k, h => ⟨h, .inl rfl⟩
  | n + 1, k, h => by
    unfold cntF
    split
    · rename_i ht
      have := cnt_spec n (k + 1) fun nm hm => (tst_iff.mp ht nm hm).2
      refine ⟨this.1, this.2.imp (fun e => by rw [e]; omega) id⟩
    · rename_i ht
      exact ⟨h, .inr (by simpa using ht)⟩
theorem cnt_pre {ls : List (List PP)} {l0 : List PP} : ∀ nm ∈ ls, l0.take (cntF ls l0 l0.length 0) <+: nm := fun nm hm => by
  have := (cnt_spec (ls := ls) (l0 := l0) l0.length 0 fun _ _ => by simp).1 nm hm
  rw [← this]; exact List.take_prefix ..
theorem cnt_most {ls : List (List PP)} {l0 r : List PP} (h0 : r <+: l0) (h : ∀ nm ∈ ls, r <+: nm) : r <+: l0.take (cntF ls l0 l0.length 0) := by
  have hs := (cnt_spec (ls := ls) (l0 := l0) l0.length 0 fun _ _ => by simp).2
  generalize hm : cntF ls l0 l0.length 0 = m at hs
  have hr : r = l0.take r.length := List.prefix_iff_eq_take.mp h0
  have hl : r.length ≤ l0.length := h0.length_le
  by_cases hj : r.length ≤ m
  · rw [hr]; exact List.take_prefix_take_left hj
  · exfalso
    rcases hs with e | e
    · omega
    · rw [← Bool.not_eq_true] at e
      refine e (tst_iff.mpr fun nm hn => ?_)
      have h1 := h nm hn
      have h2 : r = nm.take r.length := List.prefix_iff_eq_take.mp h1
      have h3 := h1.length_le
      refine ⟨by omega, ?_⟩
      have e1 : r.take (m + 1) = nm.take (m + 1) := by rw [h2, List.take_take]; congr 1; omega
      have e2 : r.take (m + 1) = l0.take (m + 1) := by rw [hr, List.take_take]; congr 1; omega
      rw [← e1, e2]
theorem cnt_is {g : List Nat → List Nat} {x0 : List (List Nat)} {xr : List (List (List Nat))} :
    ((x0.map fun c => (c, g c)).take (cntF ((x0 :: xr).map fun x => x.map fun c => (c, g c)) (x0.map fun c => (c, g c)) (x0.map fun c => (c, g c)).length 0)) = (comP (x0 :: xr)).map fun c => (c, g c) := by
  have h1 := cnt_pre (ls := (x0 :: xr).map fun x => x.map fun c => (c, g c)) (l0 := x0.map fun c => (c, g c))
  have h2 := fun r => cnt_most (ls := (x0 :: xr).map fun x => x.map fun c => (c, g c)) (l0 := x0.map fun c => (c, g c)) (r := r)
  generalize cntF ((x0 :: xr).map fun x => x.map fun c => (c, g c)) (x0.map fun c => (c, g c)) (x0.map fun c => (c, g c)).length 0 = m at h1 h2
  have a := h2 ((comP (x0 :: xr)).map fun c => (c, g c)) ((comP_pre List.mem_cons_self).map _) fun nm hn => by
    obtain ⟨x, hx, rfl⟩ := List.mem_map.mp hn
    exact (comP_pre hx).map _
  have b : x0.take m <+: comP (x0 :: xr) := comP_most (by simp) fun x hx => by
    have := (h1 _ (List.mem_map_of_mem hx)).map (·.1)
    rw [← List.map_take, List.map_map, List.map_map] at this
    simpa [Function.comp_def] using this
  have c := b.map fun c => (c, g c)
  rw [List.map_take] at c
  exact c.eq_of_length_le a.length_le
theorem zip_is {g : List Nat → List Nat} {w t : List Nat} (h : splitL t = (splitL w).map g) : zipL (w, t) = (partsL w).map fun c => (c, g c) := by
  unfold zipL partsL
  show ((splitL w).zip (splitL t)).filter pairOk = _
  rw [h]
  generalize splitL w = l
  induction l with
  | nil => rfl
  | cons c l ih =>
    rw [List.map_cons, List.zip_cons_cons, List.filter_cons, List.filter_cons, ih]
    have : pairOk (c, g c) = partOk c := by
      unfold pairOk partOk
      cases c with
      | nil => rfl
      | cons d r =>
        show (!(decide ([] = d :: r) || (decide ([46] = d :: r) || false))) = (((d :: r).length != 0) && (d :: r != [46]))
        by_cases e : [46] = d :: r
        · rw [← e]; rfl
        · rw [decide_eq_false e, decide_eq_false (fun h : [] = d :: r => by cases h), bne_iff_ne.mpr fun h => e h.symm]; rfl
    rw [this]
    split <;> rfl
end Mine

end
section
open PySem PySem.W PyProof.Rows
namespace Mine

theorem root_abs (p : PP) : rootB p = absL p.1 := by
  unfold rootB absL
  cases p.1 with
  | nil => rfl
  | cons c r =>
    rw [Bool.eq_iff_iff]
    simp
theorem mix_is (xs : List PP) : mixR xs = mixed (xs.map (·.1)) := by
  unfold mixR mixed
  rw [Bool.and_comm, List.any_map, List.any_map, List.any_map, List.any_map]
  congr 1
  · congr 1; funext p
    show decide (rootB p = false) = !absL p.1
    rw [root_abs]; cases absL p.1 <;> rfl
  · congr 1; funext p
    show decide (rootB p = true) = absL p.1
    rw [root_abs]; cases absL p.1 <;> rfl
theorem abs_first {w : List Nat} {ws : List (List Nat)} (h : mixed (w :: ws) = false) : (w :: ws).any absL = absL w := by
  cases e : absL w with
  | true => rw [List.any_cons, e]; rfl
  | false =>
    unfold mixed at h
    rw [List.any_cons, e] at h
    simpa using h
theorem comL_is (ps : List (List Nat)) : comL ps = (if ps.any absL then [47] else []) ++ joinL (comP (ps.map partsL)) := rfl
theorem row_is {g : List Nat → List Nat} {p : PP} {r : List PP} (h : ∀ x ∈ p :: r, splitL x.2 = (splitL x.1).map g) :
    rowCom (p :: r) = if mixed ((p :: r).map (·.1)) then none else some ((if ((p :: r).map (·.1)).any absL then [47] else []) ++ joinL ((comP (((p :: r).map (·.1)).map partsL)).map g)) := by
  rw [rowCom_cons, mix_is]
  cases hm : mixed ((p :: r).map (·.1)) with
  | true => rfl
  | false =>
    have e1 : ((p :: r).map (·.1)).any absL = rootB p := by rw [root_abs]; exact abs_first hm
    rw [e1]
    have e2 : (p :: r).map zipL = (((p :: r).map (·.1)).map partsL).map fun x => x.map fun c => (c, g c) := by
      rw [List.map_map, List.map_map]
      exact List.map_congr_left fun x hx => zip_is (h x hx)
    have e3 : zipL p = (partsL p.1).map fun c => (c, g c) := zip_is (h p List.mem_cons_self)
    rw [e2, e3]
    show (if false = true then none else some ((if rootB p = true then [47] else []) ++ joinL ((((partsL p.1).map fun c => (c, g c)).take (cntF ((partsL p.1 :: (r.map (·.1)).map partsL).map fun x => x.map fun c => (c, g c)) _ _ 0)).map (·.2)))) = _
    rw [cnt_is, List.map_map]
    rfl

theorem cut_ne {α : Type} {a b : Nat} {l : List α} (h1 : a < b) (h2 : b ≤ l.length) : cutL (some a) (some b) l ≠ [] := by
  intro e
  have := congrArg List.length e
  unfold cutL at this
  simp at this
  omega
theorem ok_one {ps : List PP} (hg : ∀ p ∈ ps, Good p) (hne : ps ≠ []) : (askL (ps.map (·.1))).map prepL = rowCom ps := by
  cases ps with
  | nil => exact absurd rfl hne
  | cons p r =>
    rw [row_is (g := prepL) fun x hx => by
      rw [← (hg x hx).1]; exact split_prep _ (hg x hx).2]
    unfold askL
    split
    · rfl
    · rw [comL_is, Option.map_some, prep_app, prep_join]
      congr 2
      split
      · exact prep_sl
      · rfl
theorem ok_two {ps : List PP} (hg : ∀ p ∈ ps, Good p) (hne : ps ≠ []) : askL (ps.map (·.2)) = rowCom (ps.map fun p => (p.2, p.2)) := by
  cases ps with
  | nil => exact absurd rfl hne
  | cons p r =>
    rw [List.map_cons (f := fun p : PP => (p.2, p.2)), row_is (g := id) fun x hx => by
      obtain ⟨y, hy, rfl⟩ := List.mem_map.mp (List.map_cons (f := fun p : PP => (p.2, p.2)) ▸ hx)
      exact (List.map_id _).symm]
    have e : (((p.2, p.2) :: r.map fun p : PP => (p.2, p.2)).map (·.1)) = (p :: r).map (·.2) := by
      rw [List.map_cons, List.map_cons, List.map_map]; rfl
    rw [e]
    unfold askL
    rw [comL_is, List.map_id]
end Mine

end
section
open PySem PySem.W PyProof.Rows
namespace Mine

theorem split_app : ∀ (x y : List Nat), splitL (x ++ 47 :: y) = splitL x ++ splitL y
  | [], y => by
    show splitL (47 :: y) = [[]] ++ splitL y
    conv => lhs; rw [splitL, if_pos rfl]
    rfl
  | c :: x, y => by
    have ih := split_app x y
    show splitL (c :: (x ++ 47 :: y)) = _
    rw [splitL, splitL, ih]
    split
    · rfl
    · have hne := splitL_ne x
      cases hs : splitL x with
      | nil => exact absurd hs hne
      | cons p ps => rfl
noncomputable def pc (d : List Nat) : List (List Nat) := partsL (prepL d)
theorem pc_nil : pc [] = [] := by decide +kernel
theorem pc_app (x y : List Nat) : pc (x ++ 47 :: y) = pc x ++ pc y := by
  unfold pc partsL
  rw [prep_app, prep_cons, prep_sl]
  show (splitL (prepL x ++ 47 :: prepL y)).filter partOk = _
  rw [split_app, List.filter_append]
theorem pc_slash (x : List Nat) : pc (x ++ [47]) = pc x := by rw [pc_app, pc_nil, List.append_nil]
theorem pc_all : ∀ (l x : List Nat), l.all (· == 47) = true → pc (x ++ l) = pc x
  | [], x, _ => by rw [List.append_nil]
  | c :: l, x, h => by
    rw [List.all_cons, Bool.and_eq_true] at h
    have : c = 47 := by simpa using h.1
    subst this
    rw [pc_app, ← List.nil_append l, pc_all l [] h.2, pc_nil, List.append_nil]
theorem rstrip_app (l : List Nat) : ∃ t, t.all (· == 47) = true ∧ l = rstripL l ++ t := by
  refine ⟨(l.reverse.takeWhile (· == 47)).reverse, ?_, ?_⟩
  · rw [List.all_reverse]
    exact List.all_takeWhile ..
  · unfold rstripL
    rw [← List.reverse_append, List.takeWhile_append_dropWhile, List.reverse_reverse]
theorem upto_app (l : List Nat) : ∃ t, 47 ∉ t ∧ l = upto l ++ t ∧ (upto l = [] ∨ ∃ u, upto l = u ++ [47]) := by
  refine ⟨(l.reverse.takeWhile (· != 47)).reverse, ?_, ?_, ?_⟩
  · intro h
    have h := List.mem_reverse.mp h
    have := List.all_eq_true.mp (List.all_takeWhile (p := (· != 47)) (l := l.reverse)) _ h
    simp at this
  · unfold upto
    rw [← List.reverse_append, List.takeWhile_append_dropWhile, List.reverse_reverse]
  · unfold upto
    cases h : l.reverse.dropWhile (· != 47) with
    | nil => exact .inl rfl
    | cons c r =>
      right
      have hc : c = 47 := by
        have := List.head?_dropWhile_not (p := (· != 47)) (l := l.reverse)
        rw [h] at this
        simpa using this
      subst hc
      exact ⟨r.reverse, by rw [List.reverse_cons]⟩
theorem pc_dir (w : List Nat) : pc (dirL w) = pc (upto w) := by
  unfold dirL
  split
  · rfl
  · obtain ⟨t, ht, e⟩ := rstrip_app (upto w)
    conv => rhs; rw [e]
    rw [pc_all t _ ht]
theorem free_prep : ∀ {t : List Nat}, (∀ c ∈ t, okC c) → 47 ∉ t → 47 ∉ prepL t
  | [], _, _ => by simp [prep_nil]
  | c :: t, h, hn => by
    rw [prep_cons]
    intro hm
    rcases List.mem_append.mp hm with hm | hm
    · rcases h c List.mem_cons_self with ⟨_, e⟩ | ⟨e, _⟩
      · exact hn (e ▸ List.mem_cons_self)
      · exact e hm
    · exact free_prep (fun x hx => h x (List.mem_cons_of_mem _ hx)) (fun hx => hn (List.mem_cons_of_mem _ hx)) hm
theorem pc_free {t : List Nat} (h : ∀ c ∈ t, okC c) (hn : 47 ∉ t) : (pc t).length ≤ 1 := by
  have e : splitL (prepL t) = [prepL t] := by
    have := splitL_free_app (prepL t) [] (free_prep h hn)
    simpa [splitL] using this
  unfold pc partsL
  rw [e]
  exact Nat.le_trans (List.length_filter_le ..) (Nat.le_refl _)
theorem dir_step {w : List Nat} (h : ∀ c ∈ w, okC c) : pc (dirL w) <+: pc w ∧ (pc w).length ≤ (pc (dirL w)).length + 1 := by
  obtain ⟨t, ht, e, hu⟩ := upto_app w
  have ho : ∀ c ∈ t, okC c := fun c hc => h c (by rw [e]; exact List.mem_append_right _ hc)
  have hl := pc_free ho ht
  rw [pc_dir]
  rcases hu with hu | ⟨u, hu⟩
  · rw [hu, List.nil_append] at e
    rw [hu, pc_nil, e]
    exact ⟨List.nil_prefix, by simpa using hl⟩
  · have : pc w = pc (upto w) ++ pc t := by
      conv => lhs; rw [e, hu, List.append_assoc]
      rw [hu, pc_slash]
      exact pc_app u t
    rw [this]
    exact ⟨List.prefix_append .., by rw [List.length_append]; omega⟩
theorem dir_stop {w : List Nat} (h : dirL w = w) : pc w = [] := by
  by_cases ha : (upto w).all (· == 47) = true
  · have e : dirL w = upto w := by unfold dirL; rw [if_pos ha]
    rw [← h, e, ← List.nil_append (upto w), pc_all _ [] ha, pc_nil]
  · exfalso
    have e : dirL w = rstripL (upto w) := by unfold dirL; rw [if_neg ha]
    have h1 := upto_le w
    obtain ⟨t, ht, e2⟩ := rstrip_app (upto w)
    obtain ⟨t', ht', e3, hu⟩ := upto_app w
    have hl : (upto w).length = (rstripL (upto w)).length + t.length := by conv => lhs; rw [e2, List.length_append]
    have hw : (rstripL (upto w)).length = w.length := by rw [← e, h]
    have : t = [] := List.eq_nil_of_length_eq_zero (by omega)
    rcases hu with hu | ⟨u, hu⟩
    · rw [hu] at ha; exact ha rfl
    · have e4 : rstripL (u ++ [47]) = u ++ [47] := by rw [← hu]; rw [this, List.append_nil] at e2; exact e2.symm
      have e5 : rstripL (u ++ [47]) = rstripL u := by unfold rstripL; rw [List.reverse_append]; rfl
      obtain ⟨k, e6⟩ := rstrip_pre u
      have := congrArg List.length e4
      rw [e5, e6, List.length_take, List.length_append] at this
      simp at this
      omega
end Mine

end
section
open PySem PySem.W PyProof.Rows
namespace Mine

noncomputable def chn (n : Nat) (w : List Nat) : List (List Nat) := w :: chainL n w
theorem chn_stop {n : Nat} {w : List Nat} (h : dirL w = w) : chn (n + 1) w = [w] := by
  unfold chn chainL; rw [if_pos (by simpa using h)]
theorem chn_step {n : Nat} {w : List Nat} (h : dirL w ≠ w) : chn (n + 1) w = w :: chn n (dirL w) := by
  unfold chn; rw [chainL, if_neg (by simpa using h)]
theorem ok_dir {w : List Nat} (h : ∀ c ∈ w, okC c) : ∀ c ∈ dirL w, okC c := fun c hc => by
  obtain ⟨k, e⟩ := dir_pre w
  rw [e] at hc
  exact h c (List.mem_of_mem_take hc)
/-- every beginning has its place -/
theorem chn_all : ∀ (n : Nat) (w : List Nat) (q : List (List Nat)), w.length ≤ n → (∀ c ∈ w, okC c) → q <+: pc w → ∃ d ∈ chn n w, pc d = q
  | 0, w, q, hl, hk, hq => by
    obtain rfl : w = [] := List.eq_nil_of_length_eq_zero (by omega)
    rw [pc_nil] at hq
    exact ⟨[], List.mem_cons_self, by rw [pc_nil]; exact (List.prefix_nil.mp hq).symm⟩
  | n + 1, w, q, hl, hk, hq => by
    by_cases h : dirL w = w
    · rw [chn_stop h]
      have e := dir_stop h
      rw [e] at hq
      exact ⟨w, List.mem_cons_self, by rw [e]; exact (List.prefix_nil.mp hq).symm⟩
    · rw [chn_step h]
      obtain ⟨h1, h2⟩ := dir_step hk
      have h3 := dir_lt h
      by_cases e : q.length ≤ (pc (dirL w)).length
      · obtain ⟨d, hd, e⟩ := chn_all n (dirL w) q (by omega) (ok_dir hk) (List.prefix_of_prefix_length_le hq h1 e)
        exact ⟨d, List.mem_cons_of_mem _ hd, e⟩
      · exact ⟨w, List.mem_cons_self, (hq.eq_of_length_le (by omega)).symm⟩
theorem chn_pre : ∀ (n : Nat) (w : List Nat), (∀ c ∈ w, okC c) → ∀ d ∈ chn n w, pc d <+: pc w
  | 0, w, hk, d, hd => by
    obtain rfl : d = w := by simpa [chn, chainL] using hd
    exact List.prefix_refl _
  | n + 1, w, hk, d, hd => by
    by_cases h : dirL w = w
    · rw [chn_stop h] at hd
      rw [List.mem_singleton.mp hd]; exact List.prefix_refl _
    · rw [chn_step h] at hd
      rcases List.mem_cons.mp hd with rfl | hd
      · exact List.prefix_refl _
      · exact (chn_pre n _ (ok_dir hk) d hd).trans (dir_step hk).1
theorem chn_pair : ∀ (n : Nat) (w : List Nat), (∀ c ∈ w, okC c) → (chn n w).Pairwise fun x y => pc y <+: pc x
  | 0, w, hk => by unfold chn chainL; exact List.pairwise_singleton ..
  | n + 1, w, hk => by
    by_cases h : dirL w = w
    · rw [chn_stop h]; exact List.pairwise_singleton ..
    · rw [chn_step h]
      exact List.pairwise_cons.mpr ⟨fun d hd => (chn_pre n _ (ok_dir hk) d hd).trans (dir_step hk).1, chn_pair n _ (ok_dir hk)⟩
/-- the root of every place -/
theorem abs_cons {w : List Nat} : absL w = true ↔ ∃ r, w = 47 :: r := by
  unfold absL
  cases w with
  | nil => simp
  | cons c r => simp
theorem abs_dir {w : List Nat} (h : absL w = true) : absL (dirL w) = true := by
  obtain ⟨r, rfl⟩ := abs_cons.mp h
  have hu : ∃ u, upto (47 :: r) = 47 :: u := by
    obtain ⟨t, ht, e, hu⟩ := upto_app (47 :: r)
    cases hq : upto (47 :: r) with
    | nil =>
      rw [hq, List.nil_append] at e
      exact absurd (by rw [← e]; exact List.mem_cons_self) ht
    | cons c u =>
      rw [hq] at e
      have := (List.cons.inj e).1
      exact ⟨u, by rw [← this]⟩
  obtain ⟨u, hu⟩ := hu
  unfold dirL
  rw [hu]
  split
  · rfl
  · rename_i ha
    obtain ⟨t, ht, e⟩ := rstrip_app (47 :: u)
    cases hq : rstripL (47 :: u) with
    | nil => rw [hq, List.nil_append] at e; rw [← e] at ht; exact absurd ht ha
    | cons c x =>
      rw [hq] at e
      exact abs_cons.mpr ⟨x, by rw [(List.cons.inj e).1]⟩
theorem abs_prep {w : List Nat} (h : absL w = true) : absL (prepL w) = true := by
  obtain ⟨r, rfl⟩ := abs_cons.mp h
  rw [prep_cons, prep_sl]; rfl
theorem abs_take {x : List Nat} {y : List Nat} (h : absL (x ++ y) = false) : absL x = false := by
  cases x with
  | nil => rfl
  | cons c r => exact h
theorem abs_chn : ∀ (n : Nat) (w : List Nat), absL w = absL (prepL w) → ∀ d ∈ chn n w, absL (prepL d) = absL (prepL w)
  | 0, w, hw, d, hd => by
    obtain rfl : d = w := by simpa [chn, chainL] using hd
    rfl
  | n + 1, w, hw, d, hd => by
    by_cases h : dirL w = w
    · rw [chn_stop h] at hd
      rw [List.mem_singleton.mp hd]
    · rw [chn_step h] at hd
      rcases List.mem_cons.mp hd with rfl | hd
      · rfl
      · have key : absL (dirL w) = absL w ∧ absL (prepL (dirL w)) = absL w := by
          cases e : absL w with
          | true => exact ⟨abs_dir e, abs_prep (abs_dir e)⟩
          | false =>
            obtain ⟨k, e1⟩ := dir_pre w
            have e2 : w = dirL w ++ w.drop k := by rw [e1, List.take_append_drop]
            refine ⟨abs_take (y := w.drop k) (by rw [← e2, e]), abs_take (y := prepL (w.drop k)) ?_⟩
            rw [← prep_app, ← e2, ← hw, e]
        rw [abs_chn n (dirL w) (by rw [key.1, key.2]) d hd, key.2, hw]
theorem join_inj {ps qs : List (List Nat)} (hp : ∀ p ∈ ps, 47 ∉ p ∧ p ≠ []) (hq : ∀ p ∈ qs, 47 ∉ p ∧ p ≠ []) (h : joinL ps = joinL qs) : ps = qs := by
  have none : ∀ {l : List (List Nat)}, (∀ p ∈ l, 47 ∉ p ∧ p ≠ []) → joinL l = [] → l = [] := fun {l} hl e => by
    cases l with
    | nil => rfl
    | cons p r =>
      have := splitL_joinL (p :: r) (by simp) fun x hx => (hl x hx).1
      rw [e] at this
      have e2 : [] = p := (List.cons.inj this).1
      exact absurd e2.symm (hl p List.mem_cons_self).2
  cases ps with
  | nil => exact (none hq h.symm).symm
  | cons p r =>
    cases qs with
    | nil => exact none hp h
    | cons q s =>
      rw [← splitL_joinL (p :: r) (by simp) fun x hx => (hp x hx).1, ← splitL_joinL (q :: s) (by simp) fun x hx => (hq x hx).1, h]
theorem pc_parts (d : List Nat) : ∀ p ∈ pc d, 47 ∉ p ∧ p ≠ [] := by
  intro p hp
  unfold pc partsL at hp
  obtain ⟨h1, h2⟩ := List.mem_filter.mp hp
  refine ⟨splitL_free _ p h1, fun e => ?_⟩
  subst e; cases h2
theorem lcp_self (x : List (List Nat)) : lcpL x x = x := lcpL_all (by simp)
theorem one_is (d : List Nat) : oneL d = (if absL (prepL d) then [47] else []) ++ joinL (pc d) := by
  unfold oneL
  rw [comL_is]
  show (if ([prepL d].any absL) then [47] else []) ++ joinL (lcpL (partsL (prepL d)) (partsL (prepL d))) = _
  rw [lcp_self]
  simp [pc]
end Mine

end
section
open PySem PySem.W PyProof.Rows
namespace Mine

theorem mixed_all {ps : List (List Nat)} (h : mixed ps = false) : ∀ p ∈ ps, absL p = ps.any absL := by
  intro p hp
  cases e : absL p with
  | true => exact (List.any_eq_true.mpr ⟨p, hp, e⟩).symm
  | false =>
    unfold mixed at h
    have : ps.any (fun p => !absL p) = true := List.any_eq_true.mpr ⟨p, hp, by rw [e]; rfl⟩
    rw [this, Bool.true_and] at h
    exact h.symm
theorem skip_abs {p : PP} (h : skipB p = false) (h2 : absL p.2 = true) : absL p.1 = true := by
  unfold skipB at h
  obtain ⟨r, e⟩ := abs_cons.mp h2
  rw [e] at h
  have : (p.1.take 1 == [47]) = true := by
    cases hb : p.1.take 1 == [47] with
    | true => rfl
    | false =>
      have : (p.1.take 1 != [47]) = true := by unfold bne; rw [hb]; rfl
      rw [this] at h
      cases h
  rw [← root_abs]; exact this
theorem ok_three {rs : List PP} {p0 : PP} (hg : ∀ p ∈ rs, Good p) (h0 : p0 ∈ rs) {cm : List Nat} (ha : askL (rs.map (·.2)) = some cm) (hs : rs.filter skipB = []) :
    cutL none (some 1) (sharedL (rs.map fun p => aboveL p.1) (aboveL p0.1)) = [cm] := by
  unfold askL at ha
  split at ha
  · cases ha
  · rename_i hm
    have hm : mixed (rs.map (·.2)) = false := by simpa using hm
    have hcm := (Option.some.inj ha).symm
    rw [comL_is] at hcm
    have hX : (rs.map (·.2)).map partsL = rs.map fun p => pc p.1 := by
      rw [List.map_map]
      exact List.map_congr_left fun p hp => by show partsL p.2 = partsL (prepL p.1); rw [(hg p hp).1]
    rw [hX] at hcm
    have hR := mixed_all hm
    generalize hRe : (rs.map (·.2)).any absL = R at hcm hR
    generalize hC : comP (rs.map fun p => pc p.1) = C at hcm
    have hab : ∀ p ∈ rs, absL p.1 = absL (prepL p.1) := fun p hp => by
      cases e : absL p.1 with
      | true => exact (abs_prep e).symm
      | false =>
        have h1 : skipB p = false := by
          cases h : skipB p with
          | false => rfl
          | true =>
            have : p ∈ rs.filter skipB := List.mem_filter.mpr ⟨hp, h⟩
            rw [hs] at this; cases this
        cases e2 : absL (prepL p.1) with
        | false => rfl
        | true => rw [(hg p hp).1] at e2; rw [skip_abs h1 e2] at e; exact e.symm
    have hone : ∀ p ∈ rs, ∀ d ∈ chn p.1.length p.1, oneL d = (if R then [47] else []) ++ joinL (pc d) := fun p hp d hd => by
      rw [one_is, abs_chn _ _ (hab p hp) d hd, (hg p hp).1, hR p.2 (List.mem_map_of_mem hp)]
    have hin : ∀ p ∈ rs, ∀ d ∈ chn p0.1.length p0.1, oneL d ∈ aboveL p.1 ↔ pc d <+: pc p.1 := fun p hp d hd => by
      constructor
      · intro h
        obtain ⟨d', hd', e⟩ := List.mem_map.mp h
        rw [hone p hp d' hd', hone p0 h0 d hd] at e
        have := join_inj (pc_parts d') (pc_parts d) (List.append_cancel_left e)
        rw [← this]
        exact chn_pre _ _ (hg p hp).2 d' hd'
      · intro h
        obtain ⟨d', hd', e⟩ := chn_all p.1.length p.1 _ (Nat.le_refl _) (hg p hp).2 h
        exact List.mem_map.mpr ⟨d', hd', by rw [hone p hp d' hd', hone p0 h0 d hd, e]⟩
    have hpre : ∀ p ∈ rs, C <+: pc p.1 := fun p hp => by rw [← hC]; exact comP_pre (List.mem_map_of_mem (f := fun p : PP => pc p.1) hp)
    have hmost : ∀ r, (∀ p ∈ rs, r <+: pc p.1) → r <+: C := fun r h => by
      rw [← hC]
      refine comP_most (fun e => ?_) fun x hx => ?_
      · have := List.mem_map_of_mem (f := fun p : PP => pc p.1) h0
        rw [e] at this; cases this
      · obtain ⟨p, hp, rfl⟩ := List.mem_map.mp hx
        exact h p hp
    have hsh : sharedL (rs.map fun p => aboveL p.1) (aboveL p0.1) = ((chn p0.1.length p0.1).filter fun d => (rs.map fun p => aboveL p.1).all fun l => l.any fun y => decide (y = oneL d)).map oneL := by
      unfold sharedL
      show ((chn p0.1.length p0.1).map oneL).filter _ = _
      rw [List.filter_map]; rfl
    rw [hsh]
    have hP : ∀ d ∈ chn p0.1.length p0.1, ((rs.map fun p => aboveL p.1).all fun l => l.any fun y => decide (y = oneL d)) = true ↔ ∀ p ∈ rs, pc d <+: pc p.1 := fun d hd => by
      rw [List.all_eq_true]
      constructor
      · intro h p hp
        obtain ⟨y, hy, e⟩ := List.any_eq_true.mp (h _ (List.mem_map_of_mem (f := fun p : PP => aboveL p.1) hp))
        exact (hin p hp d hd).mp (of_decide_eq_true e ▸ hy)
      · intro h l hl
        obtain ⟨p, hp, rfl⟩ := List.mem_map.mp hl
        exact List.any_eq_true.mpr ⟨_, (hin p hp d hd).mpr (h p hp), decide_eq_true rfl⟩
    obtain ⟨ds, hds, eds⟩ := chn_all p0.1.length p0.1 C (Nat.le_refl _) (hg p0 h0).2 (hpre p0 h0)
    have hF : ds ∈ (chn p0.1.length p0.1).filter fun d => (rs.map fun p => aboveL p.1).all fun l => l.any fun y => decide (y = oneL d) :=
      List.mem_filter.mpr ⟨hds, (hP ds hds).mpr fun p hp => by rw [eds]; exact hpre p hp⟩
    have hpw := (chn_pair p0.1.length p0.1 (hg p0 h0).2).filter fun d => (rs.map fun p => aboveL p.1).all fun l => l.any fun y => decide (y = oneL d)
    have hmem : ∀ d ∈ (chn p0.1.length p0.1).filter fun d => (rs.map fun p => aboveL p.1).all fun l => l.any fun y => decide (y = oneL d), d ∈ chn p0.1.length p0.1 ∧ ∀ p ∈ rs, pc d <+: pc p.1 := fun d hd => by
      obtain ⟨h1, h2⟩ := List.mem_filter.mp hd
      exact ⟨h1, (hP d h1).mp h2⟩
    generalize (chn p0.1.length p0.1).filter (fun d => (rs.map fun p => aboveL p.1).all fun l => l.any fun y => decide (y = oneL d)) = Fl at hF hpw hmem ⊢
    cases Fl with
    | nil => cases hF
    | cons e r =>
      obtain ⟨he, hall⟩ := hmem e List.mem_cons_self
      have h1 := hmost (pc e) hall
      have h2 : C <+: pc e := by
        rcases List.mem_cons.mp hF with h | h
        · rw [← h, eds]; exact List.prefix_refl _
        · have := (List.pairwise_cons.mp hpw).1 ds h
          rw [eds] at this; exact this
      have h3 : pc e = C := h1.eq_of_length_le h2.length_le
      show [oneL e] = [cm]
      rw [hone p0 h0 e he, h3, hcm]
theorem row_ok {ns : List Int} {a b : Nat} (h1 : a < b) (h2 : b ≤ (pathsL (numsL ns)).length) : RowOk (pathsL (numsL ns)) a b := by
  have hg := good_paths (numsL ns)
  generalize pathsL (numsL ns) = ps at hg h2
  have hne := cut_ne h1 h2
  have hgc : ∀ p ∈ cutL (some a) (some b) ps, Good p := fun p hp => hg p (cutL_mem hp)
  have hpm : ps.map (fun p => prepL p.1) = ps.map (·.2) := List.map_congr_left fun p hp => (hg p hp).1
  refine ⟨ok_one hgc hne, ?_, ?_⟩
  · rw [hpm, cutL_map]; exact ok_two hgc hne
  · intro cm hc hs
    rw [hpm, cutL_map] at hc
    have hl : a < ps.length := by omega
    have e : (ps.map fun p => aboveL p.1).getD a [] = aboveL (ps[a]'hl).1 := by
      simp [List.getD, hl]
    have hmem : ps[a]'hl ∈ cutL (some a) (some b) ps := by
      unfold cutL
      show ps[a]'hl ∈ (ps.take b).drop a
      refine List.mem_iff_getElem.mpr ⟨0, by simp; omega, ?_⟩
      simp
    rw [e, cutL_map]
    exact ok_three hgc hmem hc hs
theorem law_all {w : World} {A : Around} {ns : List Int} (hd : A.depth + 4 < recursionLimit) (hh : A.handled = none) (hu : A.units + 60 < cLine) (hfr0 : A.frames = some []) (hn : ns.length ≤ 63) : Spec w A "law" 29 [.list (ns.map Da.int)] (.bool true) :=
  law_spec hd hh hu hfr0 b3L_len hn fun a b h1 h2 => row_ok h1 h2
end Mine

end
section
open PySem PySem.W PyProof.Rows
set_option maxHeartbeats 0
namespace Mine

-- the law is well said: the looks one by one, the heavy ones apart
theorem reads_vars : readsOut pw pw.main.body "vars" = false := by kernel_rfl
theorem reads_dir : readsOut pw pw.main.body "dir" = false := by kernel_rfl
theorem reads_locals : readsOut pw pw.main.body "locals" = false := by kernel_rfl
theorem bare_none : (["vars", "dir", "locals"] : List Str).filter (readsOut pw pw.main.body) = [] := by
  refine List.filter_eq_nil_iff.mpr fun a ha => ne_true_of_eq_false ?_
  rcases List.mem_cons.mp ha with rfl | ha
  · exact reads_vars
  rcases List.mem_cons.mp ha with rfl | ha
  · exact reads_dir
  rcases List.mem_cons.mp ha with rfl | ha
  · exact reads_locals
  · cases ha
theorem roads_none : noRoadLSs { strict := !(importedModules pw.main.body).all cThrough.contains, foot := none, bare := [] } pw.main.body = true := by
  first | rw [PySem.W.Fast.te8326940854005059898] | skip
  kernel_rfl
theorem names_resolve : namesResolve pw = true := by
  first | rw [PySem.W.Fast.te8377067652309620493] | skip
  kernel_rfl
theorem names_attr : namesMeet pw pw.main.body (fun _ n => attrL n) = true := by
  first | rw [PySem.W.Fast.te17119622794617984870, PySem.W.Fast.te17868728402115742887] | skip
  kernel_rfl
theorem looks_open : looksOpen pw = true := by
  unfold looksOpen
  rw [bare_none, roads_none, names_resolve, names_attr]
  kernel_rfl
theorem said_law : PySem.Challenge.rw_pd0064_01.wellSaid = true := by
  unfold OpenLaw.wellSaid
  repeat' with_reducible refine look_both ?_ ?_
  unfold OpenRow.wellSaid OpenRow.partSaid
  repeat' with_reducible refine look_both ?_ ?_
  exact looks_open
  all_goals as_aux_lemma => kernel_rfl
end Mine

end
section
open PySem PySem.W PyProof.Rows
set_option maxHeartbeats 0
namespace Mine

-- the objects and trees behind the first 17 statements: printed by HSgen.lean out of HS0.lean's states
noncomputable section
noncomputable def clsAt (k : Nat) : List Stmt := match stAt k with
  | some (.ClassDef _ _ _ b _ _ _ _ _ _ _) => b
  | _ => []
noncomputable def parOf : Option Stmt → Arguments
  | some (.FunctionDef _ a _ _ _ _ _ _ _ _) => a
  | _ => ⟨[], [], none, [], [], none, []⟩
noncomputable def bodOf : Option Stmt → List Stmt
  | some (.FunctionDef _ _ b _ _ _ _ _ _ _) => b
  | _ => []
noncomputable def scoOf : Option Stmt → Scope
  | some (.FunctionDef _ _ _ _ _ _ s _ _ _) => s
  | _ => { kind := .function, names := [], isGenerator := false, isCoroutine := false, more := [] }
noncomputable def parIn (k j : Nat) : Arguments := parOf (clsAt k)[j]?
noncomputable def bodIn (k j : Nat) : List Stmt := bodOf (clsAt k)[j]?
noncomputable def scoIn (k j : Nat) : Scope := scoOf (clsAt k)[j]?
noncomputable def top.sts_4 : List Stmt := pw.main.body.take 6
noncomputable def top.sts_41 : List Stmt := (pw.main.body.drop 6).take 5
noncomputable def top.sts_92 : List Stmt := (pw.main.body.drop 11).take 6
noncomputable def top.o_1 : Params → Obj := fun P => { cls := Value.type "tuple", data := Data.seq #[] }
noncomputable def top.o_2 : Params → Obj := fun P => { cls := Value.none, data := Data.fields #[] }
noncomputable def top.o_3 : Params → Obj := fun P =>
  { cls := Value.type "code",
    data :=
      Data.fields
        #[Value.str (Str.ofString "<module>") 182, Value.str (Str.ofString "<module>") 183,
          Value.str (Str.ofString "/claim/cut.py") 184, Value.int 1 0, Value.int 0 0, Value.int 0 0, Value.int 0 0,
          Value.int 0 0, Value.ref 11, Value.bool false, Value.int 181 0, Value.ref 12, Value.none, Value.none,
          Value.none, Value.none, Value.int 185 0, Value.int 1 0, Value.str (Str.ofString "/claim/cut.py") 186] }
noncomputable def top.o_4 : Params → Obj := fun P =>
  { cls := Value.type "frame",
    slots :=
      #[some (Value.ref 13), some (Value.ref 3), some (Value.ref 3), none,
        some (Value.str (Str.ofString "__main__") 164), none, some (Value.ref 0)] }
noncomputable def top.o_5 : Params → Obj := fun P =>
  { cls := Value.type "dict",
    data :=
      Data.dict
        #[{ hash := PyData.keyHash P (Str.ofString "__name__"), key := Value.str (Str.ofString "__name__") 165,
            val := Value.str (Str.ofString "collections.abc") 231 },
          { hash := PyData.keyHash P (Str.ofString "__doc__"), key := Value.str (Str.ofString "__doc__") 166,
            val := Value.none },
          { hash := PyData.keyHash P (Str.ofString "__package__"), key := Value.str (Str.ofString "__package__") 167,
            val := Value.none },
          { hash := PyData.keyHash P (Str.ofString "__loader__"), key := Value.str (Str.ofString "__loader__") 168,
            val := Value.builtin "__main__.__loader__#opaque" },
          { hash := PyData.keyHash P (Str.ofString "__spec__"), key := Value.str (Str.ofString "__spec__") 169,
            val := Value.none },
          { hash := PyData.keyHash P (Str.ofString "__annotations__"),
            key := Value.str (Str.ofString "__annotations__") 170, val := Value.ref 6 },
          { hash := PyData.keyHash P (Str.ofString "__builtins__"), key := Value.str (Str.ofString "__builtins__") 171,
            val := Value.ref 4 },
          { hash := PyData.keyHash P (Str.ofString "__file__"), key := Value.str (Str.ofString "__file__") 173,
            val := Value.str (Str.ofString "/claim/cut.py") 172 },
          { hash := PyData.keyHash P (Str.ofString "__cached__"), key := Value.str (Str.ofString "__cached__") 174,
            val := Value.none },
          { hash := PyData.keyHash P (Str.ofString "_wall"), key := Value.str (Str.ofString "_wall") 193,
            val := Value.ref 21 },
          { hash := PyData.keyHash P (Str.ofString "_plain_name"), key := Value.str (Str.ofString "_plain_name") 204,
            val := Value.ref 28 },
          { hash := PyData.keyHash P (Str.ofString "ABCMeta"), key := Value.str (Str.ofString "ABCMeta") 230,
            val := Value.ref 45 }]
        12 }
noncomputable def top.o_6 : Params → Obj := fun P =>
  { cls := Value.none,
    data :=
      Data.fields
        #[Value.int 1 0, Value.int 0 0, Value.ref 20, Value.int 5 0, Value.int 0 0, Value.ref 27, Value.int 11 0,
          Value.int 0 0, Value.ref 34] }
noncomputable def top.o_7 : Params → Obj := fun P => { cls := Value.type "tuple", data := Data.seq #[] }
noncomputable def top.o_8 : Params → Obj := fun P => { cls := Value.none, data := Data.fields #[] }
noncomputable def top.o_9 : Params → Obj := fun P => { cls := Value.type "tuple", data := Data.seq #[Value.str (Str.ofString "k") 190] }
noncomputable def top.o_10 : Params → Obj := fun P => { cls := Value.type "tuple", data := Data.seq #[] }
noncomputable def top.o_11 : Params → Obj := fun P =>
  { cls := Value.none,
    data :=
      Data.func
        { name := Str.ofString "_wall", qualname := Str.ofString "_wall", params := parAt 0,
          body := FuncBody.stmts (bodAt 0), scope := scoAt 0, globals := 0, closure := [],
          defaults := Value.none, kwdefaults := Value.none } }
noncomputable def top.o_12 : Params → Obj := fun P =>
  { cls := Value.type "code",
    data :=
      Data.fields
        #[Value.str (Str.ofString "_wall") 187, Value.str (Str.ofString "_wall") 188,
          Value.str (Str.ofString "/claim/cut.py") 189, Value.int 1 0, Value.int 1 0, Value.int 0 0, Value.int 0 0,
          Value.int 3 0, Value.ref 15, Value.bool true, Value.int 181 0, Value.ref 16, Value.none, Value.ref 17,
          Value.ref 18, Value.ref 19, Value.int 191 0, Value.int 1 0, Value.str (Str.ofString "/claim/cut.py") 192] }
noncomputable def top.o_13 : Params → Obj := fun P =>
  { cls := Value.type "function",
    data :=
      Data.func
        { name := Str.ofString "_wall", qualname := Str.ofString "_wall", params := parAt 0,
          body := FuncBody.stmts (bodAt 0), scope := scoAt 0, globals := 3, closure := [],
          defaults := Value.none, kwdefaults := Value.none, pyModule := Value.str (Str.ofString "__main__") 164,
          code := Value.ref 20 } }
noncomputable def top.o_14 : Params → Obj := fun P => { cls := Value.type "tuple", data := Data.seq #[] }
noncomputable def top.o_15 : Params → Obj := fun P => { cls := Value.none, data := Data.fields #[] }
noncomputable def top.o_16 : Params → Obj := fun P =>
  { cls := Value.type "tuple",
    data :=
      Data.seq
        #[Value.str (Str.ofString "x") 199, Value.str (Str.ofString "what") 200, Value.str (Str.ofString "kind") 201] }
noncomputable def top.o_17 : Params → Obj := fun P => { cls := Value.type "tuple", data := Data.seq #[] }
noncomputable def top.o_18 : Params → Obj := fun P =>
  { cls := Value.none,
    data :=
      Data.func
        { name := Str.ofString "_plain_name", qualname := Str.ofString "_plain_name", params := parAt 2,
          body := FuncBody.stmts (bodAt 2), scope := scoAt 2, globals := 0, closure := [],
          defaults := Value.none, kwdefaults := Value.none } }
noncomputable def top.o_19 : Params → Obj := fun P =>
  { cls := Value.type "code",
    data :=
      Data.fields
        #[Value.str (Str.ofString "_plain_name") 196, Value.str (Str.ofString "_plain_name") 197,
          Value.str (Str.ofString "/claim/cut.py") 198, Value.int 5 0, Value.int 2 0, Value.int 0 0, Value.int 0 0,
          Value.int 3 0, Value.ref 22, Value.bool true, Value.int 181 0, Value.ref 23, Value.none, Value.ref 24,
          Value.ref 25, Value.ref 26, Value.int 202 0, Value.int 5 0, Value.str (Str.ofString "/claim/cut.py") 203] }
noncomputable def top.o_20 : Params → Obj := fun P =>
  { cls := Value.type "function",
    data :=
      Data.func
        { name := Str.ofString "_plain_name", qualname := Str.ofString "_plain_name", params := parAt 2,
          body := FuncBody.stmts (bodAt 2), scope := scoAt 2, globals := 3, closure := [],
          defaults := Value.none, kwdefaults := Value.none, pyModule := Value.str (Str.ofString "os") 194,
          code := Value.ref 27 } }
noncomputable def top.o_21 : Params → Obj := fun P => { cls := Value.type "tuple", data := Data.seq #[Value.type "type"] }
noncomputable def top.o_22 : Params → Obj := fun P =>
  { cls := Value.type "builtin_function_or_method",
    data := Data.fields #[Value.builtin "type.__prepare__", Value.type "type"] }
noncomputable def top.o_23 : Params → Obj := fun P =>
  { cls := Value.type "dict",
    data :=
      Data.dict
        #[{ hash := PyData.keyHash P (Str.ofString "__module__"), key := Value.str (Str.ofString "__module__") 214,
            val := Value.str (Str.ofString "abc") 205 },
          { hash := PyData.keyHash P (Str.ofString "__qualname__"), key := Value.str (Str.ofString "__qualname__") 216,
            val := Value.str (Str.ofString "ABCMeta") 215 },
          { hash := PyData.keyHash P (Str.ofString "__firstlineno__"),
            key := Value.str (Str.ofString "__firstlineno__") 218, val := Value.int 11 217 },
          { hash := PyData.keyHash P (Str.ofString "register"), key := Value.str (Str.ofString "register") 226,
            val := Value.ref 42 },
          { hash := PyData.keyHash P (Str.ofString "__static_attributes__"),
            key := Value.str (Str.ofString "__static_attributes__") 227, val := Value.ref 43 }]
        5 }
noncomputable def top.o_24 : Params → Obj := fun P => { cls := Value.type "tuple", data := Data.seq #[] }
noncomputable def top.o_25 : Params → Obj := fun P => { cls := Value.none, data := Data.fields #[Value.int 13 0, Value.int 4 0, Value.ref 41] }
noncomputable def top.o_26 : Params → Obj := fun P =>
  { cls := Value.type "code",
    data :=
      Data.fields
        #[Value.str (Str.ofString "ABCMeta") 209, Value.str (Str.ofString "ABCMeta") 210,
          Value.str (Str.ofString "/claim/cut.py") 211, Value.int 11 0, Value.int 0 0, Value.int 0 0, Value.int 0 0,
          Value.int 0 0, Value.ref 32, Value.bool false, Value.int 181 0, Value.ref 33, Value.none, Value.none,
          Value.none, Value.none, Value.int 212 0, Value.int 11 0, Value.str (Str.ofString "/claim/cut.py") 213] }
noncomputable def top.o_27 : Params → Obj := fun P =>
  { cls := Value.type "frame",
    slots :=
      #[some (Value.ref 34), some (Value.ref 3), some (Value.ref 31), none, some (Value.str (Str.ofString "abc") 205),
        none, some (Value.ref 0)] }
noncomputable def top.o_28 : Params → Obj := fun P => { cls := Value.type "tuple", data := Data.seq #[] }
noncomputable def top.o_29 : Params → Obj := fun P => { cls := Value.none, data := Data.fields #[] }
noncomputable def top.o_30 : Params → Obj := fun P =>
  { cls := Value.type "tuple",
    data := Data.seq #[Value.str (Str.ofString "cls") 222, Value.str (Str.ofString "subclass") 223] }
noncomputable def top.o_31 : Params → Obj := fun P => { cls := Value.type "tuple", data := Data.seq #[] }
noncomputable def top.o_32 : Params → Obj := fun P =>
  { cls := Value.none,
    data :=
      Data.func
        { name := Str.ofString "register", qualname := Str.ofString "ABCMeta.register", params := parIn 4 0,
          body := FuncBody.stmts (bodIn 4 0), scope := scoIn 4 0, globals := 0, closure := [],
          defaults := Value.none, kwdefaults := Value.none } }
noncomputable def top.o_33 : Params → Obj := fun P =>
  { cls := Value.type "code",
    data :=
      Data.fields
        #[Value.str (Str.ofString "register") 219, Value.str (Str.ofString "ABCMeta.register") 220,
          Value.str (Str.ofString "/claim/cut.py") 221, Value.int 13 0, Value.int 2 0, Value.int 0 0, Value.int 0 0,
          Value.int 3 0, Value.ref 36, Value.bool true, Value.int 181 0, Value.ref 37, Value.none, Value.ref 38,
          Value.ref 39, Value.ref 40, Value.int 224 0, Value.int 13 0, Value.str (Str.ofString "/claim/cut.py") 225] }
noncomputable def top.o_34 : Params → Obj := fun P =>
  { cls := Value.type "function",
    data :=
      Data.func
        { name := Str.ofString "register", qualname := Str.ofString "ABCMeta.register", params := parIn 4 0,
          body := FuncBody.stmts (bodIn 4 0), scope := scoIn 4 0, globals := 3, closure := [],
          defaults := Value.none, kwdefaults := Value.none, pyModule := Value.str (Str.ofString "abc") 205,
          code := Value.ref 41 } }
noncomputable def top.o_35 : Params → Obj := fun P => { cls := Value.type "tuple", data := Data.seq #[] }
noncomputable def top.o_36 : Params → Obj := fun P =>
  { cls := Value.type "dict",
    data :=
      Data.dict
        #[{ hash := PyData.keyHash P (Str.ofString "__module__"), key := Value.str (Str.ofString "__module__") 214,
            val := Value.str (Str.ofString "abc") 205 },
          { hash := PyData.keyHash P (Str.ofString "__firstlineno__"),
            key := Value.str (Str.ofString "__firstlineno__") 218, val := Value.int 11 217 },
          { hash := PyData.keyHash P (Str.ofString "register"), key := Value.str (Str.ofString "register") 226,
            val := Value.ref 42 },
          { hash := PyData.keyHash P (Str.ofString "__static_attributes__"),
            key := Value.str (Str.ofString "__static_attributes__") 227, val := Value.ref 43 },
          { hash := PyData.keyHash P (Str.ofString "__doc__"), key := Value.str (Str.ofString "__doc__") 228,
            val := Value.none }]
        2 }
noncomputable def top.o_37 : Params → Obj := fun P =>
  { cls := Value.type "type",
    data :=
      Data.cls
        { name := Str.ofString "ABCMeta", bases := [Value.type "type"],
          mro := [Value.ref 45, Value.type "type", Value.type "object"], ns := 44, qualname := Str.ofString "ABCMeta" },
    slots :=
      #[some (Value.ref 29), none, some (Value.str (Str.ofString "ABCMeta") 207),
        some (Value.str (Str.ofString "ABCMeta") 215), some (Value.builtin "type.__new__"), some (Value.bool true)] }
noncomputable def top.o_38 : Params → Obj := fun P => { cls := Value.type "super", data := Data.fields #[Value.ref 45, Value.ref 45, Value.ref 45] }
noncomputable def top.o_39 : Params → Obj := fun P =>
  { cls := Value.type "builtin_function_or_method",
    data := Data.fields #[Value.builtin "object.__init_subclass__", Value.ref 45] }
noncomputable def top.o_41 : Params → Obj := fun P =>
  { cls := Value.type "dict",
    data :=
      Data.dict
        #[{ hash := PyData.keyHash P (Str.ofString "__name__"), key := Value.str (Str.ofString "__name__") 165,
            val := Value.str (Str.ofString "cpy313.genericpath") 293 },
          { hash := PyData.keyHash P (Str.ofString "__doc__"), key := Value.str (Str.ofString "__doc__") 166,
            val := Value.none },
          { hash := PyData.keyHash P (Str.ofString "__package__"), key := Value.str (Str.ofString "__package__") 167,
            val := Value.none },
          { hash := PyData.keyHash P (Str.ofString "__loader__"), key := Value.str (Str.ofString "__loader__") 168,
            val := Value.builtin "__main__.__loader__#opaque" },
          { hash := PyData.keyHash P (Str.ofString "__spec__"), key := Value.str (Str.ofString "__spec__") 169,
            val := Value.none },
          { hash := PyData.keyHash P (Str.ofString "__annotations__"),
            key := Value.str (Str.ofString "__annotations__") 170, val := Value.ref 6 },
          { hash := PyData.keyHash P (Str.ofString "__builtins__"), key := Value.str (Str.ofString "__builtins__") 171,
            val := Value.ref 4 },
          { hash := PyData.keyHash P (Str.ofString "__file__"), key := Value.str (Str.ofString "__file__") 173,
            val := Value.str (Str.ofString "/claim/cut.py") 172 },
          { hash := PyData.keyHash P (Str.ofString "__cached__"), key := Value.str (Str.ofString "__cached__") 174,
            val := Value.none },
          { hash := PyData.keyHash P (Str.ofString "_wall"), key := Value.str (Str.ofString "_wall") 193,
            val := Value.ref 21 },
          { hash := PyData.keyHash P (Str.ofString "_plain_name"), key := Value.str (Str.ofString "_plain_name") 204,
            val := Value.ref 28 },
          { hash := PyData.keyHash P (Str.ofString "ABCMeta"), key := Value.str (Str.ofString "ABCMeta") 230,
            val := Value.ref 45 },
          { hash := PyData.keyHash P (Str.ofString "_ABCLike"), key := Value.str (Str.ofString "_ABCLike") 273,
            val := Value.ref 78 },
          { hash := PyData.keyHash P (Str.ofString "_abc_plain_meta"),
            key := Value.str (Str.ofString "_abc_plain_meta") 280, val := Value.ref 87 },
          { hash := PyData.keyHash P (Str.ofString "fspath"), key := Value.str (Str.ofString "fspath") 292,
            val := Value.ref 94 }]
        15 }
noncomputable def top.o_42 : Params → Obj := fun P =>
  { cls := Value.none,
    data :=
      Data.fields
        #[Value.int 1 0, Value.int 0 0, Value.ref 20, Value.int 5 0, Value.int 0 0, Value.ref 27, Value.int 11 0,
          Value.int 0 0, Value.ref 34, Value.int 16 0, Value.int 0 0, Value.ref 53, Value.int 31 0, Value.int 0 0,
          Value.ref 86, Value.int 35 0, Value.int 0 0, Value.ref 93] }
noncomputable def top.o_43 : Params → Obj := fun P =>
  { cls := Value.type "type",
    data :=
      Data.cls
        { name := Str.ofString "ABCMeta", bases := [Value.type "type"],
          mro := [Value.ref 45, Value.type "type", Value.type "object"], ns := 44, qualname := Str.ofString "ABCMeta",
          subclasses := [Value.ref 78] },
    slots :=
      #[some (Value.ref 29), none, some (Value.str (Str.ofString "ABCMeta") 207),
        some (Value.str (Str.ofString "ABCMeta") 215), some (Value.builtin "type.__new__"), some (Value.bool true)] }
noncomputable def top.o_44 : Params → Obj := fun P => { cls := Value.type "tuple", data := Data.seq #[Value.ref 45] }
noncomputable def top.o_45 : Params → Obj := fun P =>
  { cls := Value.type "builtin_function_or_method",
    data := Data.fields #[Value.builtin "type.__prepare__", Value.type "type"] }
noncomputable def top.o_46 : Params → Obj := fun P =>
  { cls := Value.type "dict",
    data :=
      Data.dict
        #[{ hash := PyData.keyHash P (Str.ofString "__module__"), key := Value.str (Str.ofString "__module__") 240,
            val := Value.str (Str.ofString "collections.abc") 231 },
          { hash := PyData.keyHash P (Str.ofString "__qualname__"), key := Value.str (Str.ofString "__qualname__") 242,
            val := Value.str (Str.ofString "_ABCLike") 241 },
          { hash := PyData.keyHash P (Str.ofString "__firstlineno__"),
            key := Value.str (Str.ofString "__firstlineno__") 244, val := Value.int 16 243 },
          { hash := PyData.keyHash P (Str.ofString "__instancecheck__"),
            key := Value.str (Str.ofString "__instancecheck__") 253, val := Value.ref 61 },
          { hash := PyData.keyHash P (Str.ofString "__subclasscheck__"),
            key := Value.str (Str.ofString "__subclasscheck__") 261, val := Value.ref 68 },
          { hash := PyData.keyHash P (Str.ofString "register"), key := Value.str (Str.ofString "register") 269,
            val := Value.ref 75 },
          { hash := PyData.keyHash P (Str.ofString "__static_attributes__"),
            key := Value.str (Str.ofString "__static_attributes__") 270, val := Value.ref 76 }]
        7 }
noncomputable def top.o_47 : Params → Obj := fun P => { cls := Value.type "tuple", data := Data.seq #[] }
noncomputable def top.o_48 : Params → Obj := fun P =>
  { cls := Value.none,
    data :=
      Data.fields
        #[Value.int 18 0, Value.int 4 0, Value.ref 60, Value.int 24 0, Value.int 4 0, Value.ref 67, Value.int 29 0,
          Value.int 4 0, Value.ref 74] }
noncomputable def top.o_49 : Params → Obj := fun P =>
  { cls := Value.type "code",
    data :=
      Data.fields
        #[Value.str (Str.ofString "_ABCLike") 235, Value.str (Str.ofString "_ABCLike") 236,
          Value.str (Str.ofString "/claim/cut.py") 237, Value.int 16 0, Value.int 0 0, Value.int 0 0, Value.int 0 0,
          Value.int 0 0, Value.ref 51, Value.bool false, Value.int 181 0, Value.ref 52, Value.none, Value.none,
          Value.none, Value.none, Value.int 238 0, Value.int 16 0, Value.str (Str.ofString "/claim/cut.py") 239] }
noncomputable def top.o_50 : Params → Obj := fun P =>
  { cls := Value.type "frame",
    slots :=
      #[some (Value.ref 53), some (Value.ref 3), some (Value.ref 50), none,
        some (Value.str (Str.ofString "collections.abc") 231), none, some (Value.ref 0)] }
noncomputable def top.o_51 : Params → Obj := fun P => { cls := Value.type "tuple", data := Data.seq #[] }
noncomputable def top.o_52 : Params → Obj := fun P => { cls := Value.none, data := Data.fields #[] }
noncomputable def top.o_53 : Params → Obj := fun P =>
  { cls := Value.type "tuple",
    data :=
      Data.seq
        #[Value.str (Str.ofString "cls") 248, Value.str (Str.ofString "instance") 249,
          Value.str (Str.ofString "C") 250] }
noncomputable def top.o_54 : Params → Obj := fun P => { cls := Value.type "tuple", data := Data.seq #[] }
noncomputable def top.o_55 : Params → Obj := fun P =>
  { cls := Value.none,
    data :=
      Data.func
        { name := Str.ofString "__instancecheck__", qualname := Str.ofString "_ABCLike.__instancecheck__",
          params := parIn 6 0, body := FuncBody.stmts (bodIn 6 0), scope := scoIn 6 0, globals := 0,
          closure := [], defaults := Value.none, kwdefaults := Value.none } }
noncomputable def top.o_56 : Params → Obj := fun P =>
  { cls := Value.type "code",
    data :=
      Data.fields
        #[Value.str (Str.ofString "__instancecheck__") 245, Value.str (Str.ofString "_ABCLike.__instancecheck__") 246,
          Value.str (Str.ofString "/claim/cut.py") 247, Value.int 18 0, Value.int 2 0, Value.int 0 0, Value.int 0 0,
          Value.int 3 0, Value.ref 55, Value.bool true, Value.int 181 0, Value.ref 56, Value.none, Value.ref 57,
          Value.ref 58, Value.ref 59, Value.int 251 0, Value.int 18 0, Value.str (Str.ofString "/claim/cut.py") 252] }
noncomputable def top.o_57 : Params → Obj := fun P =>
  { cls := Value.type "function",
    data :=
      Data.func
        { name := Str.ofString "__instancecheck__", qualname := Str.ofString "_ABCLike.__instancecheck__",
          params := parIn 6 0, body := FuncBody.stmts (bodIn 6 0), scope := scoIn 6 0, globals := 3,
          closure := [], defaults := Value.none, kwdefaults := Value.none,
          pyModule := Value.str (Str.ofString "collections.abc") 231, code := Value.ref 60 } }
noncomputable def top.o_58 : Params → Obj := fun P => { cls := Value.type "tuple", data := Data.seq #[] }
noncomputable def top.o_59 : Params → Obj := fun P => { cls := Value.none, data := Data.fields #[] }
noncomputable def top.o_60 : Params → Obj := fun P =>
  { cls := Value.type "tuple",
    data := Data.seq #[Value.str (Str.ofString "cls") 257, Value.str (Str.ofString "C") 258] }
noncomputable def top.o_61 : Params → Obj := fun P => { cls := Value.type "tuple", data := Data.seq #[] }
noncomputable def top.o_62 : Params → Obj := fun P =>
  { cls := Value.none,
    data :=
      Data.func
        { name := Str.ofString "__subclasscheck__", qualname := Str.ofString "_ABCLike.__subclasscheck__",
          params := parIn 6 1, body := FuncBody.stmts (bodIn 6 1), scope := scoIn 6 1, globals := 0,
          closure := [], defaults := Value.none, kwdefaults := Value.none } }
noncomputable def top.o_63 : Params → Obj := fun P =>
  { cls := Value.type "code",
    data :=
      Data.fields
        #[Value.str (Str.ofString "__subclasscheck__") 254, Value.str (Str.ofString "_ABCLike.__subclasscheck__") 255,
          Value.str (Str.ofString "/claim/cut.py") 256, Value.int 24 0, Value.int 2 0, Value.int 0 0, Value.int 0 0,
          Value.int 3 0, Value.ref 62, Value.bool true, Value.int 181 0, Value.ref 63, Value.none, Value.ref 64,
          Value.ref 65, Value.ref 66, Value.int 259 0, Value.int 24 0, Value.str (Str.ofString "/claim/cut.py") 260] }
noncomputable def top.o_64 : Params → Obj := fun P =>
  { cls := Value.type "function",
    data :=
      Data.func
        { name := Str.ofString "__subclasscheck__", qualname := Str.ofString "_ABCLike.__subclasscheck__",
          params := parIn 6 1, body := FuncBody.stmts (bodIn 6 1), scope := scoIn 6 1, globals := 3,
          closure := [], defaults := Value.none, kwdefaults := Value.none,
          pyModule := Value.str (Str.ofString "collections.abc") 231, code := Value.ref 67 } }
noncomputable def top.o_65 : Params → Obj := fun P => { cls := Value.type "tuple", data := Data.seq #[] }
noncomputable def top.o_66 : Params → Obj := fun P => { cls := Value.none, data := Data.fields #[] }
noncomputable def top.o_67 : Params → Obj := fun P =>
  { cls := Value.type "tuple",
    data := Data.seq #[Value.str (Str.ofString "cls") 265, Value.str (Str.ofString "subclass") 266] }
noncomputable def top.o_68 : Params → Obj := fun P => { cls := Value.type "tuple", data := Data.seq #[] }
noncomputable def top.o_69 : Params → Obj := fun P =>
  { cls := Value.none,
    data :=
      Data.func
        { name := Str.ofString "register", qualname := Str.ofString "_ABCLike.register", params := parIn 6 2,
          body := FuncBody.stmts (bodIn 6 2), scope := scoIn 4 0, globals := 0, closure := [],
          defaults := Value.none, kwdefaults := Value.none } }
noncomputable def top.o_70 : Params → Obj := fun P =>
  { cls := Value.type "code",
    data :=
      Data.fields
        #[Value.str (Str.ofString "register") 262, Value.str (Str.ofString "_ABCLike.register") 263,
          Value.str (Str.ofString "/claim/cut.py") 264, Value.int 29 0, Value.int 2 0, Value.int 0 0, Value.int 0 0,
          Value.int 3 0, Value.ref 69, Value.bool true, Value.int 181 0, Value.ref 70, Value.none, Value.ref 71,
          Value.ref 72, Value.ref 73, Value.int 267 0, Value.int 29 0, Value.str (Str.ofString "/claim/cut.py") 268] }
noncomputable def top.o_71 : Params → Obj := fun P =>
  { cls := Value.type "function",
    data :=
      Data.func
        { name := Str.ofString "register", qualname := Str.ofString "_ABCLike.register", params := parIn 6 2,
          body := FuncBody.stmts (bodIn 6 2), scope := scoIn 4 0, globals := 3, closure := [],
          defaults := Value.none, kwdefaults := Value.none, pyModule := Value.str (Str.ofString "collections.abc") 231,
          code := Value.ref 74 } }
noncomputable def top.o_72 : Params → Obj := fun P => { cls := Value.type "tuple", data := Data.seq #[] }
noncomputable def top.o_73 : Params → Obj := fun P =>
  { cls := Value.type "dict",
    data :=
      Data.dict
        #[{ hash := PyData.keyHash P (Str.ofString "__module__"), key := Value.str (Str.ofString "__module__") 240,
            val := Value.str (Str.ofString "collections.abc") 231 },
          { hash := PyData.keyHash P (Str.ofString "__firstlineno__"),
            key := Value.str (Str.ofString "__firstlineno__") 244, val := Value.int 16 243 },
          { hash := PyData.keyHash P (Str.ofString "__instancecheck__"),
            key := Value.str (Str.ofString "__instancecheck__") 253, val := Value.ref 61 },
          { hash := PyData.keyHash P (Str.ofString "__subclasscheck__"),
            key := Value.str (Str.ofString "__subclasscheck__") 261, val := Value.ref 68 },
          { hash := PyData.keyHash P (Str.ofString "register"), key := Value.str (Str.ofString "register") 269,
            val := Value.ref 75 },
          { hash := PyData.keyHash P (Str.ofString "__static_attributes__"),
            key := Value.str (Str.ofString "__static_attributes__") 270, val := Value.ref 76 },
          { hash := PyData.keyHash P (Str.ofString "__doc__"), key := Value.str (Str.ofString "__doc__") 271,
            val := Value.none }]
        2 }
noncomputable def top.o_74 : Params → Obj := fun P =>
  { cls := Value.type "type",
    data :=
      Data.cls
        { name := Str.ofString "_ABCLike", bases := [Value.ref 45],
          mro := [Value.ref 78, Value.ref 45, Value.type "type", Value.type "object"], ns := 77,
          qualname := Str.ofString "_ABCLike" },
    slots :=
      #[some (Value.ref 48), none, some (Value.str (Str.ofString "_ABCLike") 233),
        some (Value.str (Str.ofString "_ABCLike") 241), some (Value.builtin "type.__new__"), some (Value.bool true)] }
noncomputable def top.o_75 : Params → Obj := fun P => { cls := Value.type "super", data := Data.fields #[Value.ref 78, Value.ref 78, Value.ref 78] }
noncomputable def top.o_76 : Params → Obj := fun P =>
  { cls := Value.type "builtin_function_or_method",
    data := Data.fields #[Value.builtin "object.__init_subclass__", Value.ref 78] }
noncomputable def top.o_77 : Params → Obj := fun P => { cls := Value.type "tuple", data := Data.seq #[] }
noncomputable def top.o_78 : Params → Obj := fun P => { cls := Value.none, data := Data.fields #[] }
noncomputable def top.o_79 : Params → Obj := fun P => { cls := Value.type "tuple", data := Data.seq #[Value.str (Str.ofString "C") 277] }
noncomputable def top.o_80 : Params → Obj := fun P => { cls := Value.type "tuple", data := Data.seq #[] }
noncomputable def top.o_81 : Params → Obj := fun P =>
  { cls := Value.none,
    data :=
      Data.func
        { name := Str.ofString "_abc_plain_meta", qualname := Str.ofString "_abc_plain_meta", params := parAt 7,
          body := FuncBody.stmts (bodAt 7), scope := scoAt 7, globals := 0, closure := [],
          defaults := Value.none, kwdefaults := Value.none } }
noncomputable def top.o_82 : Params → Obj := fun P =>
  { cls := Value.type "code",
    data :=
      Data.fields
        #[Value.str (Str.ofString "_abc_plain_meta") 274, Value.str (Str.ofString "_abc_plain_meta") 275,
          Value.str (Str.ofString "/claim/cut.py") 276, Value.int 31 0, Value.int 1 0, Value.int 0 0, Value.int 0 0,
          Value.int 3 0, Value.ref 81, Value.bool true, Value.int 181 0, Value.ref 82, Value.none, Value.ref 83,
          Value.ref 84, Value.ref 85, Value.int 278 0, Value.int 31 0, Value.str (Str.ofString "/claim/cut.py") 279] }
noncomputable def top.o_83 : Params → Obj := fun P =>
  { cls := Value.type "function",
    data :=
      Data.func
        { name := Str.ofString "_abc_plain_meta", qualname := Str.ofString "_abc_plain_meta", params := parAt 7,
          body := FuncBody.stmts (bodAt 7), scope := scoAt 7, globals := 3, closure := [],
          defaults := Value.none, kwdefaults := Value.none, pyModule := Value.str (Str.ofString "collections.abc") 231,
          code := Value.ref 86 } }
noncomputable def top.o_84 : Params → Obj := fun P => { cls := Value.type "tuple", data := Data.seq #[] }
noncomputable def top.o_85 : Params → Obj := fun P => { cls := Value.none, data := Data.fields #[] }
noncomputable def top.o_86 : Params → Obj := fun P =>
  { cls := Value.type "tuple",
    data :=
      Data.seq
        #[Value.str (Str.ofString "path") 286, Value.str (Str.ofString "kind") 287, Value.str (Str.ofString "hook") 288,
          Value.str (Str.ofString "given") 289] }
noncomputable def top.o_87 : Params → Obj := fun P => { cls := Value.type "tuple", data := Data.seq #[] }
noncomputable def top.o_88 : Params → Obj := fun P =>
  { cls := Value.none,
    data :=
      Data.func
        { name := Str.ofString "fspath", qualname := Str.ofString "fspath", params := parAt 9,
          body := FuncBody.stmts (bodAt 9), scope := scoAt 9, globals := 0, closure := [],
          defaults := Value.none, kwdefaults := Value.none } }
noncomputable def top.o_89 : Params → Obj := fun P =>
  { cls := Value.type "code",
    data :=
      Data.fields
        #[Value.str (Str.ofString "fspath") 283, Value.str (Str.ofString "fspath") 284,
          Value.str (Str.ofString "/claim/cut.py") 285, Value.int 35 0, Value.int 1 0, Value.int 0 0, Value.int 0 0,
          Value.int 3 0, Value.ref 88, Value.bool true, Value.int 181 0, Value.ref 89, Value.none, Value.ref 90,
          Value.ref 91, Value.ref 92, Value.int 290 0, Value.int 35 0, Value.str (Str.ofString "/claim/cut.py") 291] }
noncomputable def top.o_90 : Params → Obj := fun P =>
  { cls := Value.type "function",
    data :=
      Data.func
        { name := Str.ofString "fspath", qualname := Str.ofString "fspath", params := parAt 9,
          body := FuncBody.stmts (bodAt 9), scope := scoAt 9, globals := 3, closure := [],
          defaults := Value.none, kwdefaults := Value.none, pyModule := Value.str (Str.ofString "os") 281,
          code := Value.ref 93 } }
noncomputable def top.o_92 : Params → Obj := fun P =>
  { cls := Value.type "dict",
    data :=
      Data.dict
        #[{ hash := PyData.keyHash P (Str.ofString "__name__"), key := Value.str (Str.ofString "__name__") 165,
            val := Value.str (Str.ofString "cpy313.stringprep") 331 },
          { hash := PyData.keyHash P (Str.ofString "__doc__"), key := Value.str (Str.ofString "__doc__") 166,
            val := Value.none },
          { hash := PyData.keyHash P (Str.ofString "__package__"), key := Value.str (Str.ofString "__package__") 167,
            val := Value.none },
          { hash := PyData.keyHash P (Str.ofString "__loader__"), key := Value.str (Str.ofString "__loader__") 168,
            val := Value.builtin "__main__.__loader__#opaque" },
          { hash := PyData.keyHash P (Str.ofString "__spec__"), key := Value.str (Str.ofString "__spec__") 169,
            val := Value.none },
          { hash := PyData.keyHash P (Str.ofString "__annotations__"),
            key := Value.str (Str.ofString "__annotations__") 170, val := Value.ref 6 },
          { hash := PyData.keyHash P (Str.ofString "__builtins__"), key := Value.str (Str.ofString "__builtins__") 171,
            val := Value.ref 4 },
          { hash := PyData.keyHash P (Str.ofString "__file__"), key := Value.str (Str.ofString "__file__") 173,
            val := Value.str (Str.ofString "/claim/cut.py") 172 },
          { hash := PyData.keyHash P (Str.ofString "__cached__"), key := Value.str (Str.ofString "__cached__") 174,
            val := Value.none },
          { hash := PyData.keyHash P (Str.ofString "_wall"), key := Value.str (Str.ofString "_wall") 193,
            val := Value.ref 21 },
          { hash := PyData.keyHash P (Str.ofString "_plain_name"), key := Value.str (Str.ofString "_plain_name") 204,
            val := Value.ref 28 },
          { hash := PyData.keyHash P (Str.ofString "ABCMeta"), key := Value.str (Str.ofString "ABCMeta") 230,
            val := Value.ref 45 },
          { hash := PyData.keyHash P (Str.ofString "_ABCLike"), key := Value.str (Str.ofString "_ABCLike") 273,
            val := Value.ref 78 },
          { hash := PyData.keyHash P (Str.ofString "_abc_plain_meta"),
            key := Value.str (Str.ofString "_abc_plain_meta") 280, val := Value.ref 87 },
          { hash := PyData.keyHash P (Str.ofString "fspath"), key := Value.str (Str.ofString "fspath") 292,
            val := Value.ref 94 },
          { hash := PyData.keyHash P (Str.ofString "_check_arg_types"),
            key := Value.str (Str.ofString "_check_arg_types") 305, val := Value.ref 101 },
          { hash := PyData.keyHash P (Str.ofString "_get_sep"), key := Value.str (Str.ofString "_get_sep") 314,
            val := Value.ref 108 },
          { hash := PyData.keyHash P (Str.ofString "dirname"), key := Value.str (Str.ofString "dirname") 324,
            val := Value.ref 115 },
          { hash := PyData.keyHash P (Str.ofString "commonpath"), key := Value.str (Str.ofString "commonpath") 330,
            val := Value.ref 120 }]
        19 }
noncomputable def top.o_93 : Params → Obj := fun P =>
  { cls := Value.none,
    data :=
      Data.fields
        #[Value.int 1 0, Value.int 0 0, Value.ref 20, Value.int 5 0, Value.int 0 0, Value.ref 27, Value.int 11 0,
          Value.int 0 0, Value.ref 34, Value.int 16 0, Value.int 0 0, Value.ref 53, Value.int 31 0, Value.int 0 0,
          Value.ref 86, Value.int 35 0, Value.int 0 0, Value.ref 93, Value.int 52 0, Value.int 0 0, Value.ref 100,
          Value.int 64 0, Value.int 0 0, Value.ref 107, Value.int 69 0, Value.int 0 0, Value.ref 114, Value.int 77 0,
          Value.int 0 0, Value.ref 119] }
noncomputable def top.o_94 : Params → Obj := fun P => { cls := Value.type "tuple", data := Data.seq #[] }
noncomputable def top.o_95 : Params → Obj := fun P => { cls := Value.none, data := Data.fields #[] }
noncomputable def top.o_96 : Params → Obj := fun P =>
  { cls := Value.type "tuple",
    data :=
      Data.seq
        #[Value.str (Str.ofString "funcname") 298, Value.str (Str.ofString "args") 299,
          Value.str (Str.ofString "hasstr") 300, Value.str (Str.ofString "hasbytes") 301,
          Value.str (Str.ofString "s") 302] }
noncomputable def top.o_97 : Params → Obj := fun P => { cls := Value.type "tuple", data := Data.seq #[] }
noncomputable def top.o_98 : Params → Obj := fun P =>
  { cls := Value.none,
    data :=
      Data.func
        { name := Str.ofString "_check_arg_types", qualname := Str.ofString "_check_arg_types", params := parAt 11,
          body := FuncBody.stmts (bodAt 11), scope := scoAt 11, globals := 0, closure := [],
          defaults := Value.none, kwdefaults := Value.none } }
noncomputable def top.o_99 : Params → Obj := fun P =>
  { cls := Value.type "code",
    data :=
      Data.fields
        #[Value.str (Str.ofString "_check_arg_types") 295, Value.str (Str.ofString "_check_arg_types") 296,
          Value.str (Str.ofString "/claim/cut.py") 297, Value.int 52 0, Value.int 1 0, Value.int 0 0, Value.int 0 0,
          Value.int 7 0, Value.ref 95, Value.bool true, Value.int 181 0, Value.ref 96, Value.none, Value.ref 97,
          Value.ref 98, Value.ref 99, Value.int 303 0, Value.int 52 0, Value.str (Str.ofString "/claim/cut.py") 304] }
noncomputable def top.o_100 : Params → Obj := fun P =>
  { cls := Value.type "function",
    data :=
      Data.func
        { name := Str.ofString "_check_arg_types", qualname := Str.ofString "_check_arg_types", params := parAt 11,
          body := FuncBody.stmts (bodAt 11), scope := scoAt 11, globals := 3, closure := [],
          defaults := Value.none, kwdefaults := Value.none,
          pyModule := Value.str (Str.ofString "cpy313.genericpath") 293, code := Value.ref 100 } }
noncomputable def top.o_101 : Params → Obj := fun P => { cls := Value.type "tuple", data := Data.seq #[] }
noncomputable def top.o_102 : Params → Obj := fun P => { cls := Value.none, data := Data.fields #[] }
noncomputable def top.o_103 : Params → Obj := fun P => { cls := Value.type "tuple", data := Data.seq #[Value.str (Str.ofString "path") 311] }
noncomputable def top.o_104 : Params → Obj := fun P => { cls := Value.type "tuple", data := Data.seq #[] }
noncomputable def top.o_105 : Params → Obj := fun P =>
  { cls := Value.none,
    data :=
      Data.func
        { name := Str.ofString "_get_sep", qualname := Str.ofString "_get_sep", params := parAt 13,
          body := FuncBody.stmts (bodAt 13), scope := scoAt 13, globals := 0, closure := [],
          defaults := Value.none, kwdefaults := Value.none } }
noncomputable def top.o_106 : Params → Obj := fun P =>
  { cls := Value.type "code",
    data :=
      Data.fields
        #[Value.str (Str.ofString "_get_sep") 308, Value.str (Str.ofString "_get_sep") 309,
          Value.str (Str.ofString "/claim/cut.py") 310, Value.int 64 0, Value.int 1 0, Value.int 0 0, Value.int 0 0,
          Value.int 3 0, Value.ref 102, Value.bool true, Value.int 181 0, Value.ref 103, Value.none, Value.ref 104,
          Value.ref 105, Value.ref 106, Value.int 312 0, Value.int 64 0, Value.str (Str.ofString "/claim/cut.py") 313] }
noncomputable def top.o_107 : Params → Obj := fun P =>
  { cls := Value.type "function",
    data :=
      Data.func
        { name := Str.ofString "_get_sep", qualname := Str.ofString "_get_sep", params := parAt 13,
          body := FuncBody.stmts (bodAt 13), scope := scoAt 13, globals := 3, closure := [],
          defaults := Value.none, kwdefaults := Value.none, pyModule := Value.str (Str.ofString "cpy313.posixpath") 306,
          code := Value.ref 107 } }
noncomputable def top.o_108 : Params → Obj := fun P => { cls := Value.type "tuple", data := Data.seq #[] }
noncomputable def top.o_109 : Params → Obj := fun P => { cls := Value.none, data := Data.fields #[] }
noncomputable def top.o_110 : Params → Obj := fun P =>
  { cls := Value.type "tuple",
    data :=
      Data.seq
        #[Value.str (Str.ofString "p") 318, Value.str (Str.ofString "sep") 319, Value.str (Str.ofString "i") 320,
          Value.str (Str.ofString "head") 321] }
noncomputable def top.o_111 : Params → Obj := fun P => { cls := Value.type "tuple", data := Data.seq #[] }
noncomputable def top.o_112 : Params → Obj := fun P =>
  { cls := Value.none,
    data :=
      Data.func
        { name := Str.ofString "dirname", qualname := Str.ofString "dirname", params := parAt 14,
          body := FuncBody.stmts (bodAt 14), scope := scoAt 14, globals := 0, closure := [],
          defaults := Value.none, kwdefaults := Value.none } }
noncomputable def top.o_113 : Params → Obj := fun P =>
  { cls := Value.type "code",
    data :=
      Data.fields
        #[Value.str (Str.ofString "dirname") 315, Value.str (Str.ofString "dirname") 316,
          Value.str (Str.ofString "/claim/cut.py") 317, Value.int 69 0, Value.int 1 0, Value.int 0 0, Value.int 0 0,
          Value.int 3 0, Value.ref 109, Value.bool true, Value.int 181 0, Value.ref 110, Value.none, Value.ref 111,
          Value.ref 112, Value.ref 113, Value.int 322 0, Value.int 69 0, Value.str (Str.ofString "/claim/cut.py") 323] }
noncomputable def top.o_114 : Params → Obj := fun P =>
  { cls := Value.type "function",
    data :=
      Data.func
        { name := Str.ofString "dirname", qualname := Str.ofString "dirname", params := parAt 14,
          body := FuncBody.stmts (bodAt 14), scope := scoAt 14, globals := 3, closure := [],
          defaults := Value.none, kwdefaults := Value.none, pyModule := Value.str (Str.ofString "cpy313.posixpath") 306,
          code := Value.ref 114 } }
noncomputable def top.o_115 : Params → Obj := fun P => { cls := Value.type "tuple", data := Data.seq #[] }
noncomputable def top.o_116 : Params → Obj := fun P => { cls := Value.none, data := Data.fields #[] }
noncomputable def top.o_117 : Params → Obj := fun P =>
  { cls := Value.none,
    data :=
      Data.func
        { name := Str.ofString "commonpath", qualname := Str.ofString "commonpath", params := parAt 15,
          body := FuncBody.stmts (bodAt 15), scope := scoAt 15, globals := 0, closure := [],
          defaults := Value.none, kwdefaults := Value.none } }
noncomputable def top.o_118 : Params → Obj := fun P =>
  { cls := Value.type "code",
    data :=
      Data.fields
        #[Value.str (Str.ofString "commonpath") 325, Value.str (Str.ofString "commonpath") 326,
          Value.str (Str.ofString "/claim/cut.py") 327, Value.int 77 0, Value.int 1 0, Value.int 0 0, Value.int 0 0,
          Value.int 3 0, Value.ref 116, Value.bool true, Value.int 181 0, Value.ref 117, Value.none, Value.none,
          Value.none, Value.ref 118, Value.int 328 0, Value.int 77 0, Value.str (Str.ofString "/claim/cut.py") 329] }
noncomputable def top.o_119 : Params → Obj := fun P =>
  { cls := Value.type "function",
    data :=
      Data.func
        { name := Str.ofString "commonpath", qualname := Str.ofString "commonpath", params := parAt 15,
          body := FuncBody.stmts (bodAt 15), scope := scoAt 15, globals := 3, closure := [],
          defaults := Value.none, kwdefaults := Value.none, pyModule := Value.str (Str.ofString "cpy313.posixpath") 306,
          code := Value.ref 119 } }
noncomputable def top.tree_4 : Params → BT := fun P =>
  BT.node (boot_o_0 P)
    (BT.node (boot_o_1 P)
      (BT.node (boot_o_3 P) (BT.node (boot_o_7 P) BT.nil BT.nil) (BT.node (top.o_1 P) BT.nil BT.nil))
      (BT.node (boot_o_5 P) (BT.node (boot_o_9 P) BT.nil BT.nil) (BT.node (top.o_3 P) BT.nil BT.nil)))
    (BT.node (boot_o_2 P)
      (BT.node (boot_o_4 P) (BT.node (boot_o_8 P) BT.nil BT.nil) (BT.node (top.o_2 P) BT.nil BT.nil))
      (BT.node (boot_o_6 P) (BT.node (boot_o_10 P) BT.nil BT.nil) (BT.node (top.o_4 P) BT.nil BT.nil)))
noncomputable def top.tree_39 : Params → BT := fun P =>
  BT.node (boot_o_0 P)
    (BT.node (boot_o_1 P)
      (BT.node (top.o_5 P)
        (BT.node (boot_o_7 P)
          (BT.node (top.o_7 P) (BT.node (top.o_23 P) BT.nil BT.nil) (BT.node (top.o_39 P) BT.nil BT.nil))
          (BT.node (top.o_15 P) (BT.node (top.o_31 P) BT.nil BT.nil) BT.nil))
        (BT.node (top.o_1 P) (BT.node (top.o_11 P) (BT.node (top.o_27 P) BT.nil BT.nil) BT.nil)
          (BT.node (top.o_19 P) (BT.node (top.o_35 P) BT.nil BT.nil) BT.nil)))
      (BT.node (boot_o_5 P)
        (BT.node (boot_o_9 P) (BT.node (top.o_9 P) (BT.node (top.o_25 P) BT.nil BT.nil) BT.nil)
          (BT.node (top.o_17 P) (BT.node (top.o_33 P) BT.nil BT.nil) BT.nil))
        (BT.node (top.o_3 P) (BT.node (top.o_13 P) (BT.node (top.o_29 P) BT.nil BT.nil) BT.nil)
          (BT.node (top.o_21 P) (BT.node (top.o_37 P) BT.nil BT.nil) BT.nil))))
    (BT.node (boot_o_2 P)
      (BT.node (boot_o_4 P)
        (BT.node (boot_o_8 P) (BT.node (top.o_8 P) (BT.node (top.o_24 P) BT.nil BT.nil) BT.nil)
          (BT.node (top.o_16 P) (BT.node (top.o_32 P) BT.nil BT.nil) BT.nil))
        (BT.node (top.o_6 P) (BT.node (top.o_12 P) (BT.node (top.o_28 P) BT.nil BT.nil) BT.nil)
          (BT.node (top.o_20 P) (BT.node (top.o_36 P) BT.nil BT.nil) BT.nil)))
      (BT.node (boot_o_6 P)
        (BT.node (boot_o_10 P) (BT.node (top.o_10 P) (BT.node (top.o_26 P) BT.nil BT.nil) BT.nil)
          (BT.node (top.o_18 P) (BT.node (top.o_34 P) BT.nil BT.nil) BT.nil))
        (BT.node (top.o_4 P) (BT.node (top.o_14 P) (BT.node (top.o_30 P) BT.nil BT.nil) BT.nil)
          (BT.node (top.o_22 P) (BT.node (top.o_38 P) BT.nil BT.nil) BT.nil))))
noncomputable def top.tree_90 : Params → BT := fun P =>
  BT.node (boot_o_0 P)
    (BT.node (boot_o_1 P)
      (BT.node (top.o_41 P)
        (BT.node (boot_o_7 P)
          (BT.node (top.o_7 P) (BT.node (top.o_23 P) (BT.node (top.o_59 P) BT.nil BT.nil) BT.nil)
            (BT.node (top.o_39 P) (BT.node (top.o_75 P) BT.nil BT.nil) BT.nil))
          (BT.node (top.o_15 P) (BT.node (top.o_31 P) (BT.node (top.o_67 P) BT.nil BT.nil) BT.nil)
            (BT.node (top.o_51 P) (BT.node (top.o_83 P) BT.nil BT.nil) BT.nil)))
        (BT.node (top.o_1 P)
          (BT.node (top.o_11 P) (BT.node (top.o_27 P) (BT.node (top.o_63 P) BT.nil BT.nil) BT.nil)
            (BT.node (top.o_47 P) (BT.node (top.o_79 P) BT.nil BT.nil) BT.nil))
          (BT.node (top.o_19 P) (BT.node (top.o_35 P) (BT.node (top.o_71 P) BT.nil BT.nil) BT.nil)
            (BT.node (top.o_55 P) (BT.node (top.o_87 P) BT.nil BT.nil) BT.nil))))
      (BT.node (boot_o_5 P)
        (BT.node (boot_o_9 P)
          (BT.node (top.o_9 P) (BT.node (top.o_25 P) (BT.node (top.o_61 P) BT.nil BT.nil) BT.nil)
            (BT.node (top.o_45 P) (BT.node (top.o_77 P) BT.nil BT.nil) BT.nil))
          (BT.node (top.o_17 P) (BT.node (top.o_33 P) (BT.node (top.o_69 P) BT.nil BT.nil) BT.nil)
            (BT.node (top.o_53 P) (BT.node (top.o_85 P) BT.nil BT.nil) BT.nil)))
        (BT.node (top.o_3 P)
          (BT.node (top.o_13 P) (BT.node (top.o_29 P) (BT.node (top.o_65 P) BT.nil BT.nil) BT.nil)
            (BT.node (top.o_49 P) (BT.node (top.o_81 P) BT.nil BT.nil) BT.nil))
          (BT.node (top.o_21 P) (BT.node (top.o_43 P) (BT.node (top.o_73 P) BT.nil BT.nil) BT.nil)
            (BT.node (top.o_57 P) (BT.node (top.o_89 P) BT.nil BT.nil) BT.nil)))))
    (BT.node (boot_o_2 P)
      (BT.node (boot_o_4 P)
        (BT.node (boot_o_8 P)
          (BT.node (top.o_8 P) (BT.node (top.o_24 P) (BT.node (top.o_60 P) BT.nil BT.nil) BT.nil)
            (BT.node (top.o_44 P) (BT.node (top.o_76 P) BT.nil BT.nil) BT.nil))
          (BT.node (top.o_16 P) (BT.node (top.o_32 P) (BT.node (top.o_68 P) BT.nil BT.nil) BT.nil)
            (BT.node (top.o_52 P) (BT.node (top.o_84 P) BT.nil BT.nil) BT.nil)))
        (BT.node (top.o_42 P)
          (BT.node (top.o_12 P) (BT.node (top.o_28 P) (BT.node (top.o_64 P) BT.nil BT.nil) BT.nil)
            (BT.node (top.o_48 P) (BT.node (top.o_80 P) BT.nil BT.nil) BT.nil))
          (BT.node (top.o_20 P) (BT.node (top.o_36 P) (BT.node (top.o_72 P) BT.nil BT.nil) BT.nil)
            (BT.node (top.o_56 P) (BT.node (top.o_88 P) BT.nil BT.nil) BT.nil))))
      (BT.node (boot_o_6 P)
        (BT.node (boot_o_10 P)
          (BT.node (top.o_10 P) (BT.node (top.o_26 P) (BT.node (top.o_62 P) BT.nil BT.nil) BT.nil)
            (BT.node (top.o_46 P) (BT.node (top.o_78 P) BT.nil BT.nil) BT.nil))
          (BT.node (top.o_18 P) (BT.node (top.o_34 P) (BT.node (top.o_70 P) BT.nil BT.nil) BT.nil)
            (BT.node (top.o_54 P) (BT.node (top.o_86 P) BT.nil BT.nil) BT.nil)))
        (BT.node (top.o_4 P)
          (BT.node (top.o_14 P) (BT.node (top.o_30 P) (BT.node (top.o_66 P) BT.nil BT.nil) BT.nil)
            (BT.node (top.o_50 P) (BT.node (top.o_82 P) BT.nil BT.nil) BT.nil))
          (BT.node (top.o_22 P) (BT.node (top.o_38 P) (BT.node (top.o_74 P) BT.nil BT.nil) BT.nil)
            (BT.node (top.o_58 P) (BT.node (top.o_90 P) BT.nil BT.nil) BT.nil)))))
noncomputable def top.tree_119 : Params → BT := fun P =>
  BT.node (boot_o_0 P)
    (BT.node (boot_o_1 P)
      (BT.node (top.o_92 P)
        (BT.node (boot_o_7 P)
          (BT.node (top.o_7 P)
            (BT.node (top.o_23 P) (BT.node (top.o_59 P) BT.nil BT.nil)
              (BT.node (top.o_94 P) BT.nil BT.nil))
            (BT.node (top.o_39 P) (BT.node (top.o_75 P) BT.nil BT.nil)
              (BT.node (top.o_110 P) BT.nil BT.nil)))
          (BT.node (top.o_15 P)
            (BT.node (top.o_31 P) (BT.node (top.o_67 P) BT.nil BT.nil)
              (BT.node (top.o_102 P) BT.nil BT.nil))
            (BT.node (top.o_51 P) (BT.node (top.o_83 P) BT.nil BT.nil)
              (BT.node (top.o_118 P) BT.nil BT.nil))))
        (BT.node (top.o_1 P)
          (BT.node (top.o_11 P)
            (BT.node (top.o_27 P) (BT.node (top.o_63 P) BT.nil BT.nil)
              (BT.node (top.o_98 P) BT.nil BT.nil))
            (BT.node (top.o_47 P) (BT.node (top.o_79 P) BT.nil BT.nil)
              (BT.node (top.o_114 P) BT.nil BT.nil)))
          (BT.node (top.o_19 P)
            (BT.node (top.o_35 P) (BT.node (top.o_71 P) BT.nil BT.nil)
              (BT.node (top.o_106 P) BT.nil BT.nil))
            (BT.node (top.o_55 P) (BT.node (top.o_87 P) BT.nil BT.nil) BT.nil))))
      (BT.node (boot_o_5 P)
        (BT.node (boot_o_9 P)
          (BT.node (top.o_9 P)
            (BT.node (top.o_25 P) (BT.node (top.o_61 P) BT.nil BT.nil)
              (BT.node (top.o_96 P) BT.nil BT.nil))
            (BT.node (top.o_45 P) (BT.node (top.o_77 P) BT.nil BT.nil)
              (BT.node (top.o_112 P) BT.nil BT.nil)))
          (BT.node (top.o_17 P)
            (BT.node (top.o_33 P) (BT.node (top.o_69 P) BT.nil BT.nil)
              (BT.node (top.o_104 P) BT.nil BT.nil))
            (BT.node (top.o_53 P) (BT.node (top.o_85 P) BT.nil BT.nil) BT.nil)))
        (BT.node (top.o_3 P)
          (BT.node (top.o_13 P)
            (BT.node (top.o_29 P) (BT.node (top.o_65 P) BT.nil BT.nil)
              (BT.node (top.o_100 P) BT.nil BT.nil))
            (BT.node (top.o_49 P) (BT.node (top.o_81 P) BT.nil BT.nil)
              (BT.node (top.o_116 P) BT.nil BT.nil)))
          (BT.node (top.o_21 P)
            (BT.node (top.o_43 P) (BT.node (top.o_73 P) BT.nil BT.nil)
              (BT.node (top.o_108 P) BT.nil BT.nil))
            (BT.node (top.o_57 P) (BT.node (top.o_89 P) BT.nil BT.nil) BT.nil)))))
    (BT.node (boot_o_2 P)
      (BT.node (boot_o_4 P)
        (BT.node (boot_o_8 P)
          (BT.node (top.o_8 P)
            (BT.node (top.o_24 P) (BT.node (top.o_60 P) BT.nil BT.nil)
              (BT.node (top.o_95 P) BT.nil BT.nil))
            (BT.node (top.o_44 P) (BT.node (top.o_76 P) BT.nil BT.nil)
              (BT.node (top.o_111 P) BT.nil BT.nil)))
          (BT.node (top.o_16 P)
            (BT.node (top.o_32 P) (BT.node (top.o_68 P) BT.nil BT.nil)
              (BT.node (top.o_103 P) BT.nil BT.nil))
            (BT.node (top.o_52 P) (BT.node (top.o_84 P) BT.nil BT.nil)
              (BT.node (top.o_119 P) BT.nil BT.nil))))
        (BT.node (top.o_93 P)
          (BT.node (top.o_12 P)
            (BT.node (top.o_28 P) (BT.node (top.o_64 P) BT.nil BT.nil)
              (BT.node (top.o_99 P) BT.nil BT.nil))
            (BT.node (top.o_48 P) (BT.node (top.o_80 P) BT.nil BT.nil)
              (BT.node (top.o_115 P) BT.nil BT.nil)))
          (BT.node (top.o_20 P)
            (BT.node (top.o_36 P) (BT.node (top.o_72 P) BT.nil BT.nil)
              (BT.node (top.o_107 P) BT.nil BT.nil))
            (BT.node (top.o_56 P) (BT.node (top.o_88 P) BT.nil BT.nil) BT.nil))))
      (BT.node (boot_o_6 P)
        (BT.node (boot_o_10 P)
          (BT.node (top.o_10 P)
            (BT.node (top.o_26 P) (BT.node (top.o_62 P) BT.nil BT.nil)
              (BT.node (top.o_97 P) BT.nil BT.nil))
            (BT.node (top.o_46 P) (BT.node (top.o_78 P) BT.nil BT.nil)
              (BT.node (top.o_113 P) BT.nil BT.nil)))
          (BT.node (top.o_18 P)
            (BT.node (top.o_34 P) (BT.node (top.o_70 P) BT.nil BT.nil)
              (BT.node (top.o_105 P) BT.nil BT.nil))
            (BT.node (top.o_54 P) (BT.node (top.o_86 P) BT.nil BT.nil) BT.nil)))
        (BT.node (top.o_4 P)
          (BT.node (top.o_14 P)
            (BT.node (top.o_30 P) (BT.node (top.o_66 P) BT.nil BT.nil)
              (BT.node (top.o_101 P) BT.nil BT.nil))
            (BT.node (top.o_50 P) (BT.node (top.o_82 P) BT.nil BT.nil)
              (BT.node (top.o_117 P) BT.nil BT.nil)))
          (BT.node (top.o_22 P)
            (BT.node (top.o_38 P) (BT.node (top.o_74 P) BT.nil BT.nil)
              (BT.node (top.o_109 P) BT.nil BT.nil))
            (BT.node (top.o_58 P) (BT.node (top.o_90 P) BT.nil BT.nil) BT.nil)))))
noncomputable def top.env_1 : Env := { scope := Challenge.pw_pd0064_01.main.scope, locals := mainNs, globals := mainNs, cells := [], code := Value.ref 13, frame := some 14 }
end
end Mine

end
section
open PySem PySem.W PyProof.Rows
namespace Mine

/-- the machine goes from here to there -/
noncomputable def Go (tb : String → Option Builtin) (p : Program) (w : World) (s : Shared) (t : Thread) (s' : Shared) (t' : Thread) : Prop :=
  ∃ m, schedN (denote tb) p w m (.single s t) = .running (.single s' t')

section
variable {tb : String → Option Builtin} {p : Program} {w : World} {n₀ : Nat} {ann : Option Value}

theorem schedN_add : ∀ (m n : Nat) (s : Config) (s' : Config), schedN (denote tb) p w m s = .running s' → schedN (denote tb) p w (m + n) s = schedN (denote tb) p w n s'
  | 0, n, s, s', h => by
    have : s = s' := by simpa [schedN] using h
    rw [this, Nat.zero_add]
  | m + 1, n, s, s', h => by
    rw [show m + 1 + n = (m + n) + 1 by omega]
    simp only [schedN] at h ⊢
    cases e : sstep (denote tb) p w s with
    | go s₁ => rw [e] at h; exact schedN_add m n s₁ s' h
    | halt o s₁ => rw [e] at h; cases h
theorem Go.refl (s : Shared) (t : Thread) : Go tb p w s t s t := ⟨0, rfl⟩
theorem Go.trans {s s' s'' : Shared} {t t' t'' : Thread} (x : Go tb p w s t s' t') (y : Go tb p w s' t' s'' t'') : Go tb p w s t s'' t'' := by
  obtain ⟨m, hm⟩ := x
  obtain ⟨n, hn⟩ := y
  exact ⟨m + n, by rw [schedN_add m n _ _ hm]; exact hn⟩
theorem Go.step {s s' : Shared} {t t' : Thread} (hc : t.calm = true) (hr : s.asleep) (h : step (denote tb) p w s t = .go s' t') : Go tb p w s t s' t' := by
  have e : sstep (denote tb) p w (.single s t) = .go (.single s' t') := by
    rcases sstep_single (denote tb) p w s t hc hr with e | e
    · rw [e, h]; rfl
    · rw [h] at e; cases e
  exact ⟨1, by simp only [schedN, e]⟩
theorem calm_of {t : Thread} (h : stepOk n₀ ann t = true) : t.calm = true := (Bool.and_eq_true_iff.mp h).1
theorem asleep_step {s s' : Shared} {t t' : Thread} (hr : s.asleep) (h : step (denote tb) p w s t = .go s' t') : s'.asleep := Shared.asleep_of_life (step_life (denote tb) p w s s' t t' h) hr

theorem pre_goes : ∀ (n : Nat) {s s' : Shared} {t t' : Thread}, s.asleep → topGo tb p w n₀ ann n s t = some (s', t') → Go tb p w s t s' t' ∧ s'.asleep
  | 0, s, s', t, t', hr, h => by
    obtain ⟨rfl, rfl⟩ : s = s' ∧ t = t' := by simpa [topGo] using h
    exact ⟨Go.refl _ _, hr⟩
  | n + 1, s, s', t, t', hr, h => by
    unfold topGo at h
    cases ht : through t with
    | true => rw [ht] at h; cases h
    | false =>
      rw [ht] at h
      cases hk : stepOk n₀ ann t with
      | false => rw [hk] at h; cases h
      | true =>
        rw [hk] at h
        cases hs : step (denote tb) p w s t with
        | halt o s₂ => rw [hs] at h; cases h
        | go s₂ t₂ =>
          rw [hs] at h
          obtain ⟨g, r⟩ := pre_goes n (asleep_step hr hs) h
          exact ⟨(Go.step (calm_of hk) hr hs).trans g, r⟩

variable {α : Type} {B : List Frame} {K' : α → Sem Fin} {H' : Value → Sem Fin} {gd : Bool → Bool} {lv : List Value → List Value} {res : α → Flow}

theorem seg_goes (hB : splitAtGen B = none) : ∀ (n : Nat) (s : Shared) (t t' : Thread) (f : Flow) (s' : Shared) (c' : Code) (p' : Pos), s.asleep → Rel2 (fun a => .pure (.done (res a))) K' deadEnd H' gd lv B t t' →
    segRun tb p w n₀ ann B.length n s t = some (f, s', c', p') → ∃ a, res a = f ∧ Go tb p w s t' s' ⟨K' a, c', p', B⟩ ∧ s'.asleep
  | 0, _, _, _, _, _, _, _, _, _, h => by simp [segRun] at h
  | n + 1, s, ⟨cur, code, pos, st⟩, ⟨cur', code', pos', st'⟩, f, s', c', p', hr, R, h => by
    obtain ⟨e1, e2, R⟩ := R
    dsimp only at e1 e2 R
    subst e1 e2
    unfold segRun at h
    cases he : endAt B.length ⟨cur, code, pos, st⟩ with
    | some g =>
      rw [he] at h
      obtain ⟨rfl, rfl, rfl, rfl⟩ : g = f ∧ s = s' ∧ code = c' ∧ pos = p' := by simpa using h
      rcases R with ⟨rfl, rfl, x, rfl, rfl⟩ | ⟨rfl, F⟩
      · cases x with
        | pure a =>
          simp only [endAt, Sem.wrap, beq_self_eq_true, Option.some.injEq] at he
          exact ⟨a, he, Go.refl _ _, hr⟩
        | _ => simp [endAt, Sem.wrap] at he
      · have l := F.longer.1
        have : ((st.length == B.length) = false) := beq_eq_false_iff_ne.mpr (Nat.ne_of_gt l)
        simp only [endAt, this] at he
        cases he
    | none =>
      rw [he] at h
      cases hk : stepOk n₀ ann ⟨cur, code, pos, st⟩ with
      | false => rw [hk] at h; cases h
      | true =>
        rw [hk] at h
        cases hs : PySem.step (denote tb) p w s ⟨cur, code, pos, st⟩ with
        | halt o s₂ => rw [hs] at h; cases h
        | go s₂ t₂ =>
          rw [hs] at h
          have key : stepOk n₀ ann ⟨cur', code, pos, st'⟩ = true ∧ ∃ t₂', PySem.step (denote tb) p w s ⟨cur', code, pos, st'⟩ = .go s₂ t₂' ∧ Rel2 (fun a => .pure (.done (res a))) K' deadEnd H' gd lv B t₂ t₂' := by
            rcases R with ⟨rfl, rfl, x, rfl, rfl⟩ | ⟨rfl, F⟩
            · have hp : ∀ a, x ≠ .pure a := by
                rintro a rfl
                simp [endAt, Sem.wrap] at he
              have hr : ∀ e, x ≠ .raise e := by
                rintro e rfl
                obtain ⟨heap, gens, drawn, toks, os⟩ := s
                simp only [Sem.wrap, PySem.step] at hs
                cases hs
              exact ⟨(okOuter (K' := K') (H' := H') hp hr hk).1, step_outer hB hp hs⟩
            · exact ⟨(okInner hB F hk).1, step_inner hB F hs⟩
          obtain ⟨k1, t₂', k3, R'⟩ := key
          obtain ⟨a, ha, hg, hz⟩ := seg_goes hB n s₂ t₂ t₂' f s' c' p' (asleep_step hr k3) R' h
          exact ⟨a, ha, (Go.step (calm_of k1) hr k3).trans hg, hz⟩

variable {env : Env} {q : Pos}
theorem app_goes {n : Nat} {s s' : Shared} {l rest : List Stmt} {c : Code} {pos p' : Pos} (hr : s.asleep) (h : segRun tb p w n₀ ann 1 n s (piecesOf l env c pos [topFrame q]) = some (.next, s', c, p')) :
    Go tb p w s (restOf (l ++ rest) env c pos [topFrame q]) s' (restOf rest env c p' [topFrame q]) ∧ s'.asleep := by
  obtain ⟨a, ha, hg⟩ := seg_goes (res := id) (K' := fun f => match f with | .next => (execs rest env).wrap doneF (leaveH env) id id | f => doneF f) (H' := leaveH env) (B := [topFrame q]) rfl n s (piecesOf l env c pos [topFrame q])
    ⟨(execs l env).wrap (fun f => match f with | .next => (execs rest env).wrap doneF (leaveH env) id id | f => doneF f) (leaveH env) id id, c, pos, [topFrame q]⟩ _ _ _ _ hr ⟨rfl, rfl, .inl ⟨rfl, rfl, _, rfl, rfl⟩⟩ h
  obtain rfl : a = .next := ha
  unfold restOf
  rw [execs_app_wrap]
  exact hg
theorem block_goes {n : Nat} {s s' : Shared} {b : List Stmt} {c : Code} {pos p' : Pos} (hr : s.asleep) (h : segRun tb p w n₀ ann 1 n s (blockOf b env c pos [topFrame q]) = some (.next, s', c, p')) :
    Go tb p w s ⟨denote tb (.body b env), c, pos, [topFrame q]⟩ s' (restOf b env c p' [topFrame q]) ∧ s'.asleep := by
  obtain ⟨a, ha, hg⟩ := seg_goes (res := fun _ : Unit => Flow.next) (K' := fun _ => (execs b env).wrap doneF (leaveH env) id id) (H' := Sem.raise) (B := [topFrame q]) rfl n s (blockOf b env c pos [topFrame q])
    ⟨(blockStart b env).wrap (fun _ => (execs b env).wrap doneF (leaveH env) id id) .raise id id, c, pos, [topFrame q]⟩ _ _ _ _ hr ⟨rfl, rfl, .inl ⟨rfl, rfl, _, rfl, rfl⟩⟩ h
  rw [body_wrap]
  exact hg
end
end Mine

end
section
open PySem PySem.W PyProof.Rows
set_option maxHeartbeats 0
namespace Mine

-- the library's quick twins of segRunT and treeTable, where they stand

noncomputable abbrev p0 : Pos := { line := 0, col := 0, endLine := 0, endCol := 0 }
noncomputable abbrev cB : Code := .body pw.main.body top.env_1
noncomputable abbrev stT (t : BT) (n tk : Nat) (os : OsState) : SharedT := { tree := t, n := n, life := {}, gens := ⟨[]⟩, drawn := {}, toks := tk, os := os }
noncomputable abbrev S0 (w : World) (os : OsState) : Shared := ⟨boot_heap w.params, ⟨[]⟩, boot_drawn, boot_toks, os⟩
noncomputable abbrev SK (w : World) (os : OsState) : Shared := (stT (top.tree_119 w.params) 121 333 os).abs

theorem seg1 (w : World) (os : OsState) : segRunT treeTable pw w 11 (some (.ref 6)) 1 297 (stT (top.tree_4 w.params) 15 187 os) (piecesOf top.sts_4 top.env_1 cB p0 [topFrame p0]) =
    some (.next, stT (top.tree_39 w.params) 48 233 os, cB, ⟨15, 0, 15, 8⟩) := by
  first | rw [PySem.W.Fast.te10110043849684766642, PySem.W.Fast.te14364793385576792824] | skip
  kernel_rfl
theorem seg2 (w : World) (os : OsState) : segRunT treeTable pw w 11 (some (.ref 6)) 1 389 (stT (top.tree_39 w.params) 48 233 os) (piecesOf top.sts_41 top.env_1 cB ⟨15, 0, 15, 8⟩ [topFrame p0]) =
    some (.next, stT (top.tree_90 w.params) 95 295 os, cB, ⟨51, 0, 51, 8⟩) := by
  first | rw [PySem.W.Fast.te10110043849684766642, PySem.W.Fast.te14364793385576792824] | skip
  kernel_rfl
theorem seg3 (w : World) (os : OsState) : segRunT treeTable pw w 11 (some (.ref 6)) 1 139 (stT (top.tree_90 w.params) 95 295 os) (piecesOf top.sts_92 top.env_1 cB ⟨51, 0, 51, 8⟩ [topFrame p0]) =
    some (.next, stT (top.tree_119 w.params) 121 333 os, cB, ⟨106, 0, 106, 8⟩) := by
  first | rw [PySem.W.Fast.te10110043849684766642, PySem.W.Fast.te14364793385576792824] | skip
  kernel_rfl
theorem seg0 (w : World) (os : OsState) : topGo treeTable pw w 11 (some (.ref 6)) 12 (S0 w os) (topStub pw) =
    some ((stT (top.tree_4 w.params) 15 187 os).abs, ⟨denote treeTable cB, cB, p0, [topFrame p0]⟩) := by kernel_rfl
theorem segB (w : World) (os : OsState) : segRun treeTable pw w 11 (some (.ref 6)) 1 1 (stT (top.tree_4 w.params) 15 187 os).abs (blockOf pw.main.body top.env_1 cB p0 [topFrame p0]) =
    some (.next, (stT (top.tree_4 w.params) 15 187 os).abs, cB, p0) := by kernel_rfl
/-- what is left behind the seventeen first statements -/
noncomputable def tailS : List Stmt := pw.main.body.drop 17
theorem body_parts : pw.main.body = top.sts_4 ++ (top.sts_41 ++ (top.sts_92 ++ tailS)) := by kernel_rfl

theorem goes17 (w : World) (os : OsState) : Go treeTable pw w (S0 w os) (topStub pw) (SK w os) (restOf tailS top.env_1 cB ⟨106, 0, 106, 8⟩ [topFrame p0]) ∧ (SK w os).asleep := by
  have z : (S0 w os).asleep := ⟨rfl, rfl⟩
  obtain ⟨g0, z⟩ := pre_goes _ z (seg0 w os)
  obtain ⟨gb, z⟩ := block_goes z (segB w os)
  obtain ⟨g1, z⟩ := app_goes (rest := top.sts_41 ++ (top.sts_92 ++ tailS)) z (segRun_of (seg1 w os))
  obtain ⟨g2, z⟩ := app_goes (rest := top.sts_92 ++ tailS) z (segRun_of (seg2 w os))
  obtain ⟨g3, z⟩ := app_goes (rest := tailS) z (segRun_of (seg3 w os))
  rw [← body_parts] at g1
  exact ⟨g0.trans (gb.trans (g1.trans (g2.trans g3))), z⟩
end Mine

end
section
open PySem PySem.W PyProof.Rows
namespace Mine

/-- the state behind the seventeen first statements, and what has been bound since -/
structure Tl (w : World) (os : OsState) (mg : Str → Option Value) (ps : Array Value) (s : Shared) : Prop where
  same : ∃ h tk, s = { SK w os with heap := h, toks := tk }
  main : s.heap.Main mg 13 12 ps
  keep : ∀ b o, b ≠ 12 → b ≠ 3 → (SK w os).heap.get? b = some o → s.heap.get? b = some o

/-- the module's own objects are changed alone -/
noncomputable abbrev Mk (h h' : Heap) : Prop := ∀ b o, b ≠ 12 → b ≠ 3 → h.get? b = some o → h'.get? b = some o
theorem Mk.trans {h h' h'' : Heap} (x : Mk h h') (y : Mk h' h'') : Mk h h'' := fun b o e1 e2 e => y b o e1 e2 (x b o e1 e2 e)

section
variable {w : World} {os : OsState} {mg : Str → Option Value} {ps : Array Value} {A : Around} {E : Value → Shared → Prop} {s s' : Shared} {Q : Flow → Shared → Prop}

theorem Tl.grow (T : Tl w os mg ps s) {h : Heap} {tk : Nat} (g : Grow s.heap h) : Tl w os mg ps { s with heap := h, toks := tk } :=
  ⟨let ⟨_, _, e⟩ := T.same; ⟨h, tk, by rw [e]⟩, ⟨T.main.g.keeps g, T.main.code.keeps g, T.main.low, T.main.bmod.keeps g⟩, fun b o h1 h2 e => g b o (T.keep b o h1 h2 e)⟩

theorem FnAt.mk' {h h' : Heap} {a : Addr} {name : Str} {k : Nat} (x : FnAt h a name k) (g : Mk h h') (ha : a ≠ 12 ∧ a ≠ 3) (hc : ∀ o, h.get? 12 = some o → ∀ q t vs, o.data = .fields vs → vs[1]? ≠ some (.str q t)) (h3 : ∃ m, h.Ns 3 m) : FnAt h' a name k := by
  obtain ⟨o, pm, cd, doc, h1, h2, c, oc, vs, t, e1, e2, e3, e4⟩ := x
  refine ⟨o, pm, cd, doc, g _ _ ha.1 ha.2 h1, h2, c, oc, vs, t, e1, g _ _ (fun q => ?_) (fun q => ?_) e2, e3, e4⟩
  · subst q; exact hc _ e2 _ _ _ e3 e4
  · subst q
    obtain ⟨m, o', es, ep, h4, h5, _⟩ := h3
    rw [h4] at e2; cases e2; rw [h5] at e3; cases e3

theorem pw_kind : pw.main.scope.kind = .module := rfl

theorem top_def {name : Str} {params : Arguments} {body : List Stmt} {scope : Scope} {pos : Pos} {rest : List Stmt} (k : Nat) (T : Tl w os mg ps s)
    (hst : parAt k = params ∧ bodAt k = body ∧ scoAt k = scope) (hpar : params.kwonlyargs = [] ∧ params.kw_defaults = [] ∧ params.defaults = []) (hann0 : annTrees params none (mainEnv pw 13 14) = [])
    (hfree : ∀ x ∈ scope.names, x.2 ≠ .free) (hloc : pw.main.scope.names.lookup name = some .local)
    (hq : qualnameIn { scope := pw.main.scope, locals := mainGlobals, globals := mainGlobals, cells := [] } name name = name) (hnb : name ≠ "__builtins__") (hnf : codeAmong pos ps.toList = none)
    (h : ∀ a c' s', Tl w os (fun x => if x = name then some (.ref a) else mg x) (ps ++ #[rawInt pos.line, rawInt pos.col, .ref c']) s' → Mk s.heap s'.heap → s.heap.objs.size ≤ a → s.heap.objs.size ≤ c' → FnAt s'.heap a name k →
      wpAny (model pw w) A (execs rest (mainEnv pw 13 14)) Q E s') :
    wpAny (model pw w) A (execs (.FunctionDef name params body [] none [] scope none name pos :: rest) (mainEnv pw 13 14)) Q E s := by
  refine wpAny_execs_cons (wpAny_defStmt0 (c := 13) (Pl := 12) (F := 14) hpar.1 hpar.2.1 (by rw [hpar.2.2]; intro e he; cases he) hann0 hfree hloc hq T.main (fun a c' doc dV vs h' tk ha hm hfo hcv hdf hcr hk => ?_) hnb pw_kind hnf)
  have hvs : vs = [] := by rw [hpar.2.2] at hcv; cases vs with | nil => rfl | cons _ _ => exact hcv.elim
  have hdV : dV = .none := by
    rcases hdf with ⟨_, e⟩ | ⟨e, _⟩
    · exact e
    · exact absurd hvs e
  subst hdV
  refine h a c' _ ⟨let ⟨_, _, e⟩ := T.same; ⟨h', tk, by rw [e]⟩, hm, fun b o h1 h2 e => hk b o h1 h2 (T.keep b o h1 h2 e)⟩ hk ha hcr.1 ⟨_, (mg "__name__").getD .none, .ref c', doc, hfo, ?_, hcr.2⟩
  obtain ⟨rfl, rfl, rfl⟩ := hst
  rfl

theorem top_assign {x : Str} {e : Expr} {px pos : Pos} {rest : List Stmt} (hloc : pw.main.scope.names.lookup x = some .local) (hnb : x ≠ "__builtins__") (hsw : swapsWith e (some (.Name x px)) pos.line (mainEnv pw 13 14) = pure false)
    (he : wpAny (model pw w) A (eval e (mainEnv pw 13 14)) (fun v s₁ => ∃ mg₁ ps₁, Tl w os mg₁ ps₁ s₁ ∧ ∀ s₂, Tl w os (fun y => if y = x then some v else mg₁ y) ps₁ s₂ → Mk s₁.heap s₂.heap → wpAny (model pw w) A (execs rest (mainEnv pw 13 14)) Q E s₂) E s) :
    wpAny (model pw w) A (execs (.Assign [.Name x px] e pos :: rest) (mainEnv pw 13 14)) Q E s := by
  refine wpAny_execs_cons (wpAny_Assign_Name (wpAny_mono he (fun v s₁ h₁ => ?_) fun _ _ e => e) hsw)
  obtain ⟨mg₁, ps₁, T, h⟩ := h₁
  refine wpAny_storeName_local (env := mainEnv pw 13 14) hloc T.main.g (fun h' hn hs => ?_) (by show (pw.main.scope.kind == .class || (pw.main.scope.kind == .module && mainGlobals != mainGlobals)) = false; rw [pw_kind]; rfl)
  obtain ⟨bm, o, hbm, hne0, hneG, hneP, hbo, hrest⟩ := T.main.bmod
  refine h _ ⟨let ⟨_, _, e⟩ := T.same; ⟨h', _, by rw [e]⟩, ⟨hn, T.main.code.sameBut hs (by decide) (by decide), T.main.low,
    ⟨bm, o, by simp only [Ne.symm hnb, if_false]; exact hbm, hne0, hneG, hneP, (hs.2 _ hneG).trans hbo, hrest⟩⟩, fun b o h1 h2 e => hs.extBut b o h2 (T.keep b o h1 h2 e)⟩ fun b o _ h2 e => hs.extBut b o h2 e
end
end Mine

end
section
open PySem PySem.W PyProof.Rows
namespace Mine

theorem sk_facts (w : World) (os : OsState) : ((SK w os).heap.isNs builtinsNs = true ∧ (SK w os).heap.bltView = bltViewBooted) := ⟨by kernel_rfl, by kernel_rfl⟩
theorem sk_blt (w : World) (os : OsState) : (SK w os).heap.Ns builtinsNs ((SK w os).heap.nsMap builtinsNs) ∧ ∀ x : Str, x ≠ "__name__" → (SK w os).heap.nsMap builtinsNs x = bootBuiltins x :=
  ⟨.of_isNs (sk_facts w os).1, fun x hx => Heap.of_bltView (sk_facts w os).1 (sk_facts w os).2 x hx⟩

section
variable {w : World} {os : OsState} {mg : Str → Option Value} {ps : Array Value} {A : Around} {E : Value → Shared → Prop} {s s' : Shared} {Q : Flow → Shared → Prop}

theorem Tl.blt (T : Tl w os mg ps s) : s.heap.Ns builtinsNs ((SK w os).heap.nsMap builtinsNs) := (sk_blt w os).1.at fun o e => T.keep _ o (by decide) (by decide) e

theorem top_name {x : Str} {v : Value} {pos : Pos} {Q : Value → Shared → Prop} (T : Tl w os mg ps s) (hm : mg x = none) (hn : x ≠ "__name__") (hv : bootBuiltins x = some v) (h : Q v s) (hd : (x == ("__debug__" : Str)) = false := by decide +kernel) :
    wpAny (model pw w) A (eval (.Name x pos) (mainEnv pw 13 14)) Q E s :=
  Calls.Name_module (env := mainEnv pw 13 14) pw_kind rfl (Calls.loadGlobal_builtin (env := mainEnv pw 13 14) T.main.g hm T.blt (((sk_blt w os).2 x hn).trans hv) h) hd

noncomputable def intK : Expr → Option Int
  | .Constant (.int n) _ _ => some n
  | _ => none
theorem intK_is {e : Expr} {n : Int} (h : intK e = some n) : ∃ k p, e = .Constant (.int n) k p := by
  unfold intK at h
  split at h
  · cases h; exact ⟨_, _, rfl⟩
  · cases h
noncomputable def intsOf : List Expr → Option (List Int)
  | [] => some []
  | e :: r => (intK e).bind fun n => (intsOf r).map (n :: ·)
theorem lits_eval {pos : Pos} {env : Env} : ∀ (es : List Expr) (ns : List Int), intsOf es = some ns → ∀ (s : Shared) (Q : List Value → Shared → Prop), (∀ vs tk, IntsAre vs ns → Q vs { s with toks := tk }) →
    wpAny (model pw w) A (spliced (backTo pos (starEach es env))) Q E s
  | [], ns, h, s, Q, hQ => by
    obtain rfl : [] = ns := by simpa [intsOf] using h
    exact wpAny_items_nil (hQ [] s.toks .nil)
  | e :: r, ns, h, s, Q, hQ => by
    unfold intsOf at h
    obtain ⟨n, h1, h⟩ := Option.bind_eq_some_iff.mp h
    obtain ⟨ms, hm, rfl⟩ := Option.map_eq_some_iff.mp h
    obtain ⟨k, p, rfl⟩ := intK_is h1
    refine wpAny_items_cons (wpAny_Constant_int ?_)
    exact lits_eval r ms hm _ _ fun vs tk hi => hQ _ tk (.cons n _ hi)
theorem intsAre_of : ∀ {vs : List Value} {ns : List Int}, vs.length = ns.length → (∀ i : Nat, i < ns.length → ∃ t, vs[i]? = some (.int (ns.getD i 0) t)) → IntsAre vs ns
  | [], [], _, _ => .nil
  | v :: vs, n :: ns, hl, h => by
    obtain ⟨t, e⟩ := h 0 (by simp)
    obtain rfl : v = .int n t := by simpa using e
    exact .cons n t (intsAre_of (by simpa using hl) fun i hi => by simpa using h (i + 1) (by simpa using hi))
  | [], _ :: _, hl, _ => by simp at hl
  | _ :: _, [], hl, _ => by simp at hl

noncomputable def b1R : List Int := (List.range 16).map fun i : Nat => (65024 : Int) + i
theorem b1_first : firstMet (fun i => b1L.getD i 0) 27 = b1L := by decide +kernel

theorem top_call {f : Str} {Ty : String} {fp pos : Pos} {e : Expr} {es : List Expr} {Q : Value → Shared → Prop} (T : Tl w os mg ps s) (hm : mg f = none) (hn : f ≠ "__name__") (hv : bootBuiltins f = some (.type Ty))
    (h : wpAny (model pw w) A (spliced (backTo pos (starEach (e :: es) (mainEnv pw 13 14)))) (fun vs s₁ => wpAny (model pw w) A (call (.type Ty) vs) Q E s₁) E s)
    (hpl : (backTo pos (starEach (e :: es) (mainEnv pw 13 14))).any (·.1) = false := by rfl)
    (he : starEach (e :: es) (mainEnv pw 13 14) = (false, eval e (mainEnv pw 13 14)) :: starEach es (mainEnv pw 13 14) := by rfl) (hd : (f == ("__debug__" : Str)) = false := by decide +kernel) :
    wpAny (model pw w) A (eval (.Call (.Name f fp) (e :: es) [] pos) (mainEnv pw 13 14)) Q E s := by
  show wpAny _ A (eval (.Name f fp) (mainEnv pw 13 14) >>= fun fv => callWith pos fv [] (backTo pos (starEach (e :: es) (mainEnv pw 13 14))) (backToKw pos (keywordEach [] (mainEnv pw 13 14)))) _ _ s
  refine wpAny_bind (top_name T hm hn hv ?_ hd)
  have h' := h
  rw [he] at h' hpl ⊢
  exact PySem.callWith_type hpl (Calls.evalArgs_plain h')

theorem add_plain {l b : Addr} {x y : Array Value} {Q : Value → Shared → Prop} (hl : s.heap.IsList l x) (hb : s.heap.IsList b y) (hsz : x.size + y.size ≤ sizeLine)
    (h : Q (.ref s.heap.objs.size) { s with heap := s.heap.push { cls := .type "list", data := .seq (x ++ y) } }) : wpAny (model pw w) A (binaryOp .Add (.ref l) (.ref b)) Q E s := by
  obtain ⟨⟨cls, dd, data, sl⟩, ho, hc, n, hd⟩ := id hl
  obtain ⟨⟨cls2, dd2, data2, sl2⟩, ho2, hc2, n2, hd2⟩ := id hb
  simp only at hc hd hc2 hd2
  subst hc hd hc2 hd2
  exact concat_meets ⟨_, ho, rfl⟩ ⟨_, ho2, rfl⟩ noFill_list_add seq_list_add PySem.F.slot_list_add PySem.F.entry_list_add (PySem.F.args_list_add_2 _ _) (list_addW l b x y n n2 dd dd2 sl sl2 hsz) ⟨ho, ho2, h⟩

theorem top_set {p0 p1 p2 p3 p4 p5 p6 p7 p8 p9 p10 : Pos} {es : List Expr} {k1 k2 : Nat} {Q : Value → Shared → Prop} (T : Tl w os mg ps s) (hh : A.handled = none) (hes : intsOf es = some (b1L.take 11)) (hm : ∀ x ∈ (["set", "list", "range"] : List Str), mg x = none)
    (h : ∀ h' tk a, Grow s.heap h' → s.heap.objs.size ≤ a → h'.SetOf (intKind pw w) a (fun k => b1L.any (· == k)) 27 → Q (.ref a) { s with heap := h', toks := tk }) :
    wpAny (model pw w) A (eval (.Call (.Name "set" p3) [.BinOp (.List es p4) .Add (.Call (.Name "list" p5) [.Call (.Name "range" p6) [.Constant (.int 65024) k1 p7, .Constant (.int 65040) k2 p8] [] p9] [] p10) p1] [] p2) (mainEnv pw 13 14)) Q E s := by
  have hsz : sizeLine = 16777216 := sizeLine_eq
  refine top_call T (hm _ (by decide +kernel)) (by decide +kernel) Boot.«set» (wpAny_items_cons (wpAny_BinOp (wpAny_List (lits_eval es _ hes s _ fun vs tk hi => ?_))))
  have hvl : vs.length = 11 := hi.length
  refine ⟨by rw [hvl, hsz]; decide, ?_⟩
  have T1 : Tl w os mg ps { s with heap := s.heap.push { cls := .type "list", data := .seq vs.toArray }, toks := tk } := T.grow (grow_push _ _)
  refine top_call T1 (hm _ (by decide +kernel)) (by decide +kernel) Boot.«list» (wpAny_items_cons ?_)
  refine top_call T1 (hm _ (by decide +kernel)) (by decide +kernel) Boot.«range» (wpAny_items_cons (wpAny_Constant_int (wpAny_items_cons (wpAny_Constant_int (wpAny_items_nil (call_range_2 (wpAny_items_nil ?_)))))))
  refine call_list_range (n := 16) hh (IsRange.new _ _ _ _ _ _ _) (by decide +kernel) (by decide +kernel) (by omega) fun h₁ tk₁ acc c₁ hk₁ hl₁ hi₁ => ?_
  have g0 : Grow s.heap (s.heap.push { cls := .type "list", data := .seq vs.toArray }) := grow_push _ _
  have g1 : Grow (s.heap.push { cls := .type "list", data := .seq vs.toArray }) h₁ := fun b o e => hk₁ b o (grow_push _ _ b o e)
  have hacc : acc.size = 16 := hi₁.1
  have hla : h₁.IsList s.heap.objs.size vs.toArray := ⟨_, g1 _ _ (Heap.get?_push_size _ rfl), rfl, 0, rfl⟩
  refine add_plain hla ⟨_, hl₁, rfl, _, rfl⟩ (by simp only [List.size_toArray]; omega) (wpAny_items_nil ?_)
  have hin : IntsAre (vs.toArray ++ acc).toList b1L := by
    rw [Array.toList_append]
    have e : b1L = b1L.take 11 ++ b1R := by decide +kernel
    rw [e]
    refine IntsAre.append (by simpa using hi) (intsAre_of (by rw [Array.length_toList, hacc]; decide +kernel) fun i hi' => ?_)
    have hi16 : i < 16 := hi'
    obtain ⟨v, e1⟩ : ∃ v, acc[i]? = some v := ⟨acc[i]'(by omega), Array.getElem?_eq_getElem _⟩
    obtain ⟨t, e2⟩ := hi₁.2 i v e1
    refine ⟨t, ?_⟩
    rw [Array.getElem?_toList, e1, e2]
    congr 2
    have : ∀ i : Nat, i < 16 → (65024 : Int) + i * 1 = b1R.getD i 0 := by decide +kernel
    exact this i hi16
  refine call_set_list (ns := b1L) (items := vs.toArray ++ acc) hh ⟨_, Heap.get?_push_size _ rfl, rfl, 0, rfl⟩ hin (by rw [Array.size_append, hacc]; simp only [List.size_toArray, hvl]; decide +kernel) fun h₂ tk₂ hS hk₂ => ?_
  have hs27 : (vs.toArray ++ acc).size = 27 := by rw [Array.size_append, hacc]; simp [hvl]
  rw [hs27, b1_first] at hS
  have gg : Grow s.heap h₁ := fun b o e => g1 b o (g0 b o e)
  refine h h₂ tk₂ _ (fun b o e => ?_) ?_ hS
  · have e' := grow_push h₁ { cls := .type "list", data := .seq (vs.toArray ++ acc) } b o (gg b o e)
    exact hk₂ b o (Heap.lt_size e') e'
  · show s.heap.objs.size ≤ (h₁.push _).objs.size
    obtain ⟨_, e, _⟩ := hla
    exact Nat.le_of_lt (Heap.lt_size (grow_push h₁ { cls := .type "list", data := .seq (vs.toArray ++ acc) } _ _ e))
end
end Mine

end
section
open PySem PySem.W PyProof.Rows
namespace Mine
section
variable {w : World} {A : Around} {E : Value → Shared → Prop} {s : Shared}

noncomputable abbrev IK (w : World) := intKind pw w

theorem put_new {d : Addr} {kvs : List (Int × Value)} {k : Int} {key v : Value} {Q : Unit → Shared → Prop} (hkey : (IK w).is k key = true) (hm : s.heap.DictOf (IK w) d kvs) (hnew : k ∉ kvs.map (·.1)) (hsz : kvs.length ≤ sizeLine)
    (hQ : ∀ h', h'.DictOf (IK w) d (kvs ++ [(k, v)]) → Heap.SameBut d s.heap h' → Q () { s with heap := h' }) :
    wpAny (model pw w) A (dictPut d ((IK w).hash k) key v) Q E s := by
  obtain ⟨o, es, ep, ho, hc, hd, hk, hp, hn⟩ := hm
  have hes : es.size ≤ sizeLine := by
    have e1 := hp.length; have e2 : es.toList.length = es.size := by simp
    omega
  unfold dictPut
  refine wpAny_bind (wpAny_dictFind_of hkey ho hd hk ?_)
  have hidx : (es.findIdx? fun e => (IK w).is k e.key) = kvs.findIdx? fun kv => decide (kv.1 = k) := by
    rw [← hp.findIdx k]; obtain ⟨l⟩ := es; simp
  have hno : (kvs.findIdx? fun kv => decide (kv.1 = k)) = none := by
    rw [List.findIdx?_eq_none_iff]
    intro x hx
    have : x.1 ≠ k := fun q => hnew (q ▸ List.mem_map_of_mem (f := (·.1)) hx)
    simpa using this
  rw [hidx, hno]
  refine wpAny_updateDictKeys (hz := hes) ho hd (hQ _ ⟨_, _, ep + 1, Heap.get?_update_self _ ho (Obj.isFreed_of_dict (Obj.data_mapDictKeys hd _)),
      hc.mapDictKeys _, Obj.data_mapDictKeys hd _, hk.push hkey _, ?_, ?_⟩ (Heap.SameBut.update ..))
  · have := hp.append hkey ((IK w).hash k) v
    obtain ⟨l⟩ := es
    simpa using this
  · rw [List.map_append, List.nodup_append]
    refine ⟨hn, by simp, ?_⟩
    intro a ha b hb
    simp only [List.map_cons, List.map_nil, List.mem_singleton] at hb
    subst hb
    exact fun e => hnew (e ▸ ha)

/-- a dict's text becomes another's entries -/
theorem merge_new {d o : Addr} {kvs more : List (Int × Value)} {Q : Unit → Shared → Prop} (hdo : d ≠ o) (hoS : (o == sysModules) = false) (hne : kvs ≠ [])
    (hd : s.heap.DictOf (IK w) d kvs) (ho : s.heap.DictOf (IK w) o more) (hn : ((kvs ++ more).map (·.1)).Nodup) (hsz : kvs.length + more.length ≤ sizeLine)
    (hQ : ∀ h', h'.DictOf (IK w) d (kvs ++ more) → Heap.SameBut d s.heap h' → Q () { s with heap := h' }) :
    wpAny (model pw w) A (mergeMapping d (.ref o) false) Q E s := by
  obtain ⟨od, esd, epd, hod, hcd, hdd, hkd, hpd, hnd⟩ := id hd
  obtain ⟨oo, eso, epo, hoo, hco, hdo', hko, hpo, hno⟩ := id ho
  have hlen : more.length = eso.size := by rw [← hpo.length]; simp
  unfold mergeMapping
  refine wpAny_bind (wpAny_isInstance ho.typeIs isSubtype_dict_dict ?_)
  refine wpAny_bind (wpAny_specialOf ho.typeIs PySem.F.slot_dict_iter.lookup (wpAny_bind (wpAny_pure ?_)))
  rw [beq_self_eq_true (some (Value.builtin "dict.__iter__"))]
  dsimp only
  rw [hoS]
  simp only [Bool.false_eq_true, if_false, beq_self_eq_true]
  refine wpAny_bind (wpAny_dictEntries hod hdd ?_)
  have hem : esd.isEmpty = false := by
    cases he : esd.isEmpty with
    | false => rfl
    | true =>
      have h0 : esd = #[] := Array.isEmpty_iff.mp he
      have := hpd.length; rw [h0] at this
      exact absurd (List.length_eq_zero_iff.mp (by simpa using this.symm)) hne
  rw [hem]
  simp only [Bool.false_eq_true, if_false]
  refine wpAny_bind (wpAny_dictEntries hoo hdo' (wpAny_bind (wpAny_dictEpoch hoo hdo' (wpAny_bind ?_))))
  refine wpAny_forIn_list _
    (fun rest _ s' => ∃ h' i, s' = { s with heap := h' } ∧ rest = List.range' i (eso.size - i) ∧ i ≤ eso.size ∧ h'.DictOf (IK w) d (kvs ++ more.take i) ∧ h'.get? o = some oo ∧ Heap.SameBut d s.heap h')
    _ ?_ ?_ _ _ ⟨s.heap, 0, rfl, by simp [List.range_eq_range'], Nat.zero_le _, by simpa using hd, hoo, Heap.SameBut.refl _ _⟩
  · rintro x rest b s' ⟨h', i, rfl, hr, hi, hd', hoo', hs'⟩
    have hlt : i < eso.size := by
      rcases Nat.lt_or_ge i eso.size with h | h
      · exact h
      · rw [Nat.sub_eq_zero_of_le h] at hr; simp at hr
    obtain ⟨rfl, hrest⟩ : x = i ∧ rest = List.range' (i + 1) (eso.size - (i + 1)) := by
      have e : eso.size - i = (eso.size - (i + 1)) + 1 := by omega
      rw [e, List.range'_succ] at hr
      injection hr with h1 h2
      exact ⟨h1, h2⟩
    refine wpAny_bind (wpAny_dictEntries hoo' hdo' ?_)
    rw [Array.getElem?_eq_getElem hlt]
    have hlm : x < more.length := by omega
    obtain ⟨kv, hkv⟩ : ∃ kv, more[x]? = some kv := ⟨more[x], List.getElem?_eq_getElem hlm⟩
    obtain ⟨k, v⟩ := kv
    obtain ⟨hkey, hval⟩ := hpo.get? (e := eso[x]) (by simp [hlt]) hkv
    obtain ⟨k', hkey', hhash⟩ := hko eso[x] (Array.getElem_mem hlt)
    obtain rfl : k' = k := (IK w).inj _ _ _ hkey' hkey
    dsimp only
    rw [hhash, hval]
    have htk : more.take (x + 1) = more.take x ++ [(k', v)] := by rw [List.take_add_one, hkv]; rfl
    have hnew : k' ∉ (kvs ++ more.take x).map (·.1) := by
      have e : kvs ++ more = (kvs ++ more.take x) ++ ((k', v) :: more.drop (x + 1)) := by
        rw [List.append_assoc]
        congr 1
        have := List.take_append_drop x more
        rw [List.drop_eq_getElem_cons hlm] at this
        have e2 : more[x] = (k', v) := by
          have := List.getElem?_eq_getElem hlm
          rw [hkv] at this; exact (Option.some.inj this).symm
        rw [e2] at this
        exact this.symm
      rw [e, List.map_append, List.nodup_append] at hn
      intro hmem
      exact hn.2.2 _ hmem k' (by simp) rfl
    have hsz' : (kvs ++ more.take x).length ≤ sizeLine := by
      rw [List.length_append, List.length_take]; omega
    refine wpAny_bind (wpAny_holding (put_new hkey hd' hnew hsz' fun h'' hd'' hs'' => ?_))
    have hoo'' : h''.get? o = some oo := (hs''.2 o (Ne.symm hdo)).trans hoo'
    refine wpAny_bind (wpAny_dictEpoch hoo'' hdo' ?_)
    rw [if_neg (by simp)]
    exact wpAny_pure ⟨h'', x + 1, rfl, hrest, hlt, by rw [htk, ← List.append_assoc]; exact hd'', hoo'', hs'.trans hs''⟩
  · rintro b s' ⟨h', i, rfl, hr, hi, hd', hoo', hs'⟩
    have hin : i = eso.size := by
      rcases Nat.lt_or_ge i eso.size with h | h
      · have e : eso.size - i = (eso.size - (i + 1)) + 1 := by omega
        rw [e, List.range'_succ] at hr; exact nomatch hr
      · exact Nat.le_antisymm hi h
    refine wpAny_pure (hQ h' ?_ hs')
    rw [hin, ← hlen, List.take_length] at hd'; exact hd'

inductive F2 {α β : Type} (R : α → β → Prop) : List α → List β → Prop
  | nil : F2 R [] []
  | cons {a b l m} : R a b → F2 R l m → F2 R (a :: l) (b :: m)
theorem F2.length_eq {α β : Type} {R : α → β → Prop} {l : List α} {m : List β} (h : F2 R l m) : l.length = m.length := by
  induction h with
  | nil => rfl
  | cons _ _ ih => simp [ih]
noncomputable def LitP (w : World) (A : Around) (p : Sem Value × Sem Value) (d : Int × Str) : Prop :=
  ∀ s (Q : Value → Value → Shared → Prop) E, (∀ t u tk, Q (.int d.1 t) (.str d.2 u) { s with toks := tk }) → wpAny (model pw w) A p.1 (fun kv s₁ => wpAny (model pw w) A p.2 (fun vv s₂ => Q kv vv s₂) E s₁) E s
noncomputable def Vd (kvs : List (Int × Value)) (D : List (Int × Str)) : Prop := F2 (fun a b => a.1 = b.1 ∧ ∃ t, a.2 = .str b.2 t) kvs D
theorem Vd.keys : ∀ {kvs : List (Int × Value)} {D : List (Int × Str)}, Vd kvs D → kvs.map (·.1) = D.map (·.1)
  | [], [], _ => rfl
  | _ :: _, _ :: _, .cons h r => by rw [List.map_cons, List.map_cons, h.1, Vd.keys r]
theorem Vd.append {a b : List (Int × Value)} {D D' : List (Int × Str)} (x : Vd a D) (y : Vd b D') : Vd (a ++ b) (D ++ D') := by
  induction x with
  | nil => exact y
  | cons h r ih => exact F2.cons h ih

theorem run_eval : ∀ {run : List (Sem Value × Sem Value)} {D : List (Int × Str)}, F2 (LitP w A) run D → ∀ (s : Shared) (Q : List (Value × Value) → Shared → Prop),
    (∀ vs kvs tk, Carries (IK w) vs kvs → Vd kvs D → Q vs { s with toks := tk }) → wpAny (model pw w) A (evalPairs run) Q E s
  | [], [], _, s, Q, hQ => evalPairs_nil (hQ [] [] s.toks trivial F2.nil)
  | (a, b) :: run, d :: D, .cons h r, s, Q, hQ => by
    refine evalPairs_cons (h s (fun kv vv s₂ => wpAny (model pw w) A (evalPairs run) (fun vs s₃ => Q ((kv, vv) :: vs) s₃) E s₂) E fun t u tk => ?_)
    refine run_eval r _ _ fun vs kvs tk' hc hv => ?_
    exact hQ _ ((d.1, .str d.2 u) :: kvs) tk' ⟨intKind_is pw w _ _, rfl, hc⟩ (F2.cons ⟨rfl, u, rfl⟩ hv)

theorem stored_new {kvs : List (Int × Value)} {k : Int} {v : Value} (h : k ∉ kvs.map (·.1)) : stored kvs k v = kvs ++ [(k, v)] := by
  unfold stored
  rw [if_neg]
  intro hany
  obtain ⟨kv, hkv, he⟩ := List.any_eq_true.mp hany
  exact h (List.mem_map.mpr ⟨kv, hkv, of_decide_eq_true he⟩)

theorem sub_new {run : List (Sem Value × Sem Value)} {D : List (Int × Str)} {Q : Addr → Shared → Prop} (hr : F2 (LitP w A) run D) (hn : (D.map (·.1)).Nodup) (hl : D.length ≤ 17)
    (hQ : ∀ h' tk kvs, h'.DictOf (IK w) s.heap.objs.size kvs → Vd kvs D → Grow s.heap h' → Q s.heap.objs.size { s with heap := h', toks := tk }) : wpAny (model pw w) A (subDict run) Q E s := by
  have hlen : run.length = D.length := hr.length_eq
  have hszz : sizeLine = 16777216 := sizeLine_eq
  have fresh : ∀ {b : Addr} {o : Obj}, s.heap.get? b = some o → b ≠ s.heap.objs.size := fun e => Nat.ne_of_lt (Heap.lt_size e)
  by_cases h15 : run.length ≤ 15
  · refine wpAny_subDict (knd := IK w) h15 (run_eval hr _ _ fun vs kvs tk hc hv => ?_)
    refine ⟨kvs, hc, Heap.DictOf.new _, fun h' hd hs => ?_⟩
    rw [merged_nil_of_nodup kvs (by rw [hv.keys]; exact hn)] at hd
    exact hQ h' _ kvs hd hv fun b o e => hs.extBut b o (fresh e) (grow_push _ _ b o e)
  · unfold subDict
    refine wpAny_bind (wpAny_alloc ?_)
    refine wpAny_bind (wpAny_holding ?_)
    rw [if_neg h15]
    refine wpAny_bind (wpAny_rule ?_)
    have loop : ∀ (run : List (Sem Value × Sem Value)) (D D0 : List (Int × Str)) (kvs : List (Int × Value)) (h : Heap) (tk : Nat), F2 (LitP w A) run D → Vd kvs D0 → ((D0 ++ D).map (·.1)).Nodup → D0.length + D.length ≤ 17 →
        h.DictOf (IK w) s.heap.objs.size kvs → Grow s.heap h → wpAny (model pw w) A (forIn run PUnit.unit fun (x : Sem Value × Sem Value) (_ : PUnit) => (do
            let kv ← x.1
            let vv ← holding [kv] x.2
            holding [kv, vv] (dictSet s.heap.objs.size kv vv)
            pure (ForInStep.yield PUnit.unit) : Sem (ForInStep PUnit))) (fun _ s' => ∃ h' tk' kvs', s' = { s with heap := h', toks := tk' } ∧ h'.DictOf (IK w) s.heap.objs.size kvs' ∧ Vd kvs' (D0 ++ D) ∧ Grow s.heap h') E { s with heap := h, toks := tk } := by
      intro run
      induction run with
      | nil =>
        intro D D0 kvs h tk hf hv hnn hll hd hg
        cases hf
        rw [List.forIn_nil, List.append_nil]
        exact wpAny_pure ⟨h, tk, kvs, rfl, hd, hv, hg⟩
      | cons p run ih =>
        intro D D0 kvs h tk hf hv hnn hll hd hg
        cases hf with
        | @cons _ d _ D hp hf =>
        rw [List.forIn_cons]
        refine wpAny_bind (wpAny_bind (wpAny_mono (hp _ (fun kv vv s₂ => ∃ t u tk, kv = .int d.1 t ∧ vv = .str d.2 u ∧ s₂ = { s with heap := h, toks := tk }) E fun t u tk' => ⟨t, u, tk', rfl, rfl, rfl⟩) (fun kv s₁ h₁ => ?_) fun _ _ e => e))
        refine wpAny_bind (wpAny_holding (wpAny_mono h₁ (fun vv s₂ h₂ => ?_) fun _ _ e => e))
        obtain ⟨t, u, tk', rfl, rfl, rfl⟩ := h₂
        have hkn : d.1 ∉ kvs.map (·.1) := by
          rw [hv.keys]
          rw [List.map_append, List.nodup_append] at hnn
          exact fun hm => hnn.2.2 _ hm d.1 (by simp) rfl
        have hkl : kvs.length ≤ sizeLine := by
          have := hv.length_eq
          rw [List.length_cons] at hll
          omega
        refine wpAny_bind (wpAny_holding (wpAny_dictSet_pairs (knd := IK w) (k := d.1) (hsz := hkl) (intKind_is pw w _ _) hd fun h' hd' hs' => wpAny_pure ?_))
        rw [stored_new hkn] at hd'
        have := ih D (D0 ++ [d]) (kvs ++ [(d.1, .str d.2 u)]) h' (tk' + 1) hf (hv.append (F2.cons ⟨rfl, u, rfl⟩ F2.nil)) (by simpa using hnn) (by rw [List.length_append, List.length_cons] at *; simp at *; omega) hd' fun b o e => hs'.extBut b o (fresh e) (hg b o e)
        simpa using this
    refine wpAny_bind (wpAny_mono (loop run D [] [] _ _ hr F2.nil (by simpa using hn) (by simpa using hl) (Heap.DictOf.new _) (grow_push _ _)) (fun _ s' h => ?_) fun _ _ e => e)
    obtain ⟨h', tk', kvs', rfl, hd, hv, hg⟩ := h
    exact wpAny_pure (wpAny_pure (hQ h' tk' kvs' hd (by simpa using hv) hg))
end
end Mine

end
section
open PySem PySem.W PyProof.Rows
namespace Mine

noncomputable def flushD (run : List (Sem Value × Sem Value)) (main : Option Addr) : Sem (Option Addr) := do
  if run.isEmpty then return main
  match main with
  | none => return some (← subDict run)
  | some d =>
    let sub ← holding [.ref d] (subDict run)
    (holding [.ref d, .ref sub] (mergeMapping d (.ref sub) false)).onRaise fun x => do let _ ← holding [.ref d, x] (runValue (.builtin "proto.let_go" {}))
    return some d

section
variable {w : World} {A : Around} {E : Value → Shared → Prop} {s : Shared}

noncomputable def MainIs (w : World) (n : Nat) (main : Option Addr) (D0 : List (Int × Str)) (h : Heap) : Prop := match main with
  | none => D0 = []
  | some d => ∃ kvs, h.DictOf (IK w) d kvs ∧ Vd kvs D0 ∧ kvs ≠ [] ∧ n ≤ d

theorem flush_new {run : List (Sem Value × Sem Value)} {Dr D0 : List (Int × Str)} {main : Option Addr} {h : Heap} {tk : Nat} {Q : Option Addr → Shared → Prop} (hr : F2 (LitP w A) run Dr) (hl : run.length ≤ 17)
    (hn : ((D0 ++ Dr).map (·.1)).Nodup) (hsz : D0.length + Dr.length ≤ 65536) (hm : MainIs w s.heap.objs.size main D0 h) (hg : Grow s.heap h) (hbig : sysModules < s.heap.objs.size) (hsz0 : s.heap.objs.size ≤ h.objs.size)
    (hQ : ∀ main' h' tk', MainIs w s.heap.objs.size main' (D0 ++ Dr) h' → Grow s.heap h' → s.heap.objs.size ≤ h'.objs.size → Q main' { s with heap := h', toks := tk' }) :
    wpAny (model pw w) A (flushD run main) Q E { s with heap := h, toks := tk } := by
  have hszz : sizeLine = 16777216 := sizeLine_eq
  have hlen := hr.length_eq
  unfold flushD
  cases hr with
  | nil =>
    refine wpAny_pure (hQ main h tk ?_ hg hsz0)
    rw [List.append_nil]; exact hm
  | @cons p d run Dr hp hr =>
  have hr : F2 (LitP w A) (p :: run) (d :: Dr) := .cons hp hr
  show wpAny _ A (match main with
    | none => (do return some (← subDict (p :: run)) : Sem (Option Addr))
    | some d => do
      let sub ← holding [.ref d] (subDict (p :: run))
      (holding [.ref d, .ref sub] (mergeMapping d (.ref sub) false)).onRaise fun x => do let _ ← holding [.ref d, x] (runValue (.builtin "proto.let_go" {}))
      return some d) Q E _
  have hnr : ((d :: Dr).map (·.1)).Nodup := by
    rw [List.map_append, List.nodup_append] at hn; exact hn.2.1
  have hne : d :: Dr ≠ [] := by simp
  cases main with
  | none =>
    obtain rfl : D0 = [] := hm
    dsimp only
    refine wpAny_bind (sub_new (s := { s with heap := h, toks := tk }) hr hnr (by omega) fun h' tk' kvs hd hv hg' => wpAny_pure (hQ _ h' tk' ⟨kvs, hd, by simpa using hv, ?_, hsz0⟩ (fun b o e => hg' b o (hg b o e)) ?_))
    · intro e; subst e
      cases hv
    · obtain ⟨o, _, _, ho, _⟩ := hd
      exact Nat.le_trans hsz0 (Nat.le_of_lt (Heap.lt_size ho))
  | some d0 =>
    obtain ⟨kvs, hd, hv, hke, hd0⟩ := hm
    dsimp only
    refine wpAny_bind (wpAny_holding (sub_new (s := { s with heap := h, toks := tk }) hr hnr (by omega) fun h' tk' kvs' hd' hv' hg' => ?_))
    dsimp only at hd' hg' ⊢
    have hd1 : h'.DictOf (IK w) d0 kvs := let ⟨o, es, ep, e1, r⟩ := hd; ⟨o, es, ep, hg' _ _ e1, r⟩
    have hne0 : d0 ≠ h.objs.size := by
      obtain ⟨o, _, _, ho, _⟩ := hd
      exact Nat.ne_of_lt (Heap.lt_size ho)
    have hsy : (h.objs.size == sysModules) = false := by
      rw [beq_eq_false_iff_ne]; exact Nat.ne_of_gt (Nat.lt_of_lt_of_le hbig hsz0)
    have hk1 : (kvs ++ kvs').map (·.1) = (D0 ++ (d :: Dr)).map (·.1) := by rw [List.map_append, List.map_append, hv.keys, hv'.keys]
    have hle1 := hv.length_eq
    have hle2 := hv'.length_eq
    refine wpAny_bind (wpAny_onRaise (wpAny_holding (merge_new (w := w) (s := { s with heap := h', toks := tk' }) hne0 hsy hke hd1 hd' (by rw [hk1]; exact hn) (by omega) fun h'' hd'' hs'' => ?_)))
    refine wpAny_pure (hQ _ h'' tk' ⟨_, hd'', hv.append hv', by simp [hke], hd0⟩ (fun b o e => hs''.extBut b o (fun q => ?_) (hg' b o (hg b o e))) ?_)
    · subst q
      exact absurd (Heap.lt_size e) (Nat.not_lt.mpr hd0)
    · obtain ⟨o, _, _, ho, _⟩ := hd''
      exact Nat.le_trans hd0 (Nat.le_of_lt (Heap.lt_size ho))

theorem gather_new {f : (Option (Sem Value) × Sem Value) → (Option Addr × List (Sem Value × Sem Value)) → Sem (ForInStep (Option Addr × List (Sem Value × Sem Value)))}
    (hf : ∀ (p : Sem Value × Sem Value) (main : Option Addr) (run : List (Sem Value × Sem Value)), f (some p.1, p.2) (main, run) =
      (if ((run ++ [p]).length == 17) = true then flushD (run ++ [p]) main >>= fun m => pure (.yield (m, [])) else pure (.yield (main, run ++ [p])))) (hbig : sysModules < s.heap.objs.size) :
    ∀ {pairs : List (Sem Value × Sem Value)} {D : List (Int × Str)}, F2 (LitP w A) pairs D → ∀ {run : List (Sem Value × Sem Value)} {Dr D0 : List (Int × Str)} {main : Option Addr} {h : Heap} {tk : Nat}, F2 (LitP w A) run Dr → run.length < 17 →
      MainIs w s.heap.objs.size main D0 h → Grow s.heap h → s.heap.objs.size ≤ h.objs.size → ((D0 ++ Dr ++ D).map (·.1)).Nodup → D0.length + Dr.length + D.length ≤ 65536 →
      wpAny (model pw w) A (forIn (pairs.map fun p => (some p.1, p.2)) (main, run) f) (fun r s' => ∃ h' tk' D0' Dr', s' = { s with heap := h', toks := tk' } ∧ F2 (LitP w A) r.2 Dr' ∧ r.2.length < 17 ∧ MainIs w s.heap.objs.size r.1 D0' h' ∧ Grow s.heap h' ∧
        s.heap.objs.size ≤ h'.objs.size ∧ D0' ++ Dr' = D0 ++ Dr ++ D) E { s with heap := h, toks := tk } := by
  intro pairs D hp
  induction hp with
  | nil =>
    intro run Dr D0 main h tk hr hl hm hg hs hn hsz
    exact wpAny_pure ⟨h, tk, D0, Dr, rfl, hr, hl, hm, hg, hs, by simp⟩
  | @cons p d pairs D hp hps ih =>
    intro run Dr D0 main h tk hr hl hm hg hs hn hsz
    rw [List.map_cons, List.forIn_cons, hf]
    have hr' : F2 (LitP w A) (run ++ [p]) (Dr ++ [d]) := by
      clear hn hsz hl
      induction hr with
      | nil => exact .cons hp .nil
      | cons h _ ih => exact .cons h ih
    have e1 : D0 ++ Dr ++ d :: D = D0 ++ (Dr ++ [d]) ++ D := by simp
    rw [e1] at hn ⊢
    have hd1 : (Dr ++ [d]).length = Dr.length + 1 := by simp
    have hsz' : D0.length + (Dr ++ [d]).length + D.length ≤ 65536 := by rw [hd1]; rw [List.length_cons] at hsz; omega
    by_cases h17 : ((run ++ [p]).length == 17) = true
    · rw [if_pos h17]
      have h17' : (run ++ [p]).length = 17 := by simpa using h17
      refine wpAny_bind (wpAny_bind (flush_new hr' (by omega) (by rw [List.map_append, List.nodup_append] at hn; exact hn.1) (by omega) hm hg hbig hs fun main' h' tk' hm' hg' hs' => wpAny_pure ?_))
      have := ih (run := []) (Dr := []) (D0 := D0 ++ (Dr ++ [d])) (tk := tk') .nil (by decide) hm' hg' hs' (by simpa using hn) (by rw [List.length_append]; simp only [List.length_nil]; omega)
      simpa using this
    · rw [if_neg h17]
      have h17' : (run ++ [p]).length ≠ 17 := by simpa using h17
      have hl' : (run ++ [p]).length = run.length + 1 := by simp
      exact wpAny_bind (wpAny_pure (ih hr' (by omega) hm hg hs hn hsz'))

theorem disp_new {pairs : List (Sem Value × Sem Value)} {D : List (Int × Str)} {Q : Value → Shared → Prop} (hp : F2 (LitP w A) pairs D) (hD : D ≠ []) (hn : (D.map (·.1)).Nodup) (hsz : D.length ≤ 65536) (hbig : sysModules < s.heap.objs.size)
    (hQ : ∀ a h' tk' kvs, s.heap.objs.size ≤ a → h'.DictOf (IK w) a kvs → Vd kvs D → Grow s.heap h' → Q (.ref a) { s with heap := h', toks := tk' }) :
    wpAny (model pw w) A (dictDisplay (pairs.map fun p => (some p.1, p.2))) Q E s := by
  unfold dictDisplay
  dsimp only
  refine wpAny_bind (wpAny_mono (gather_new (s := s) (hf := ?_) hbig hp (run := []) (Dr := []) (D0 := []) (main := none) (h := s.heap) (tk := s.toks) .nil (by decide) rfl (Grow.refl _) (Nat.le_refl _) (by simpa using hn) (by simpa using hsz)) (fun r s' h => ?_) fun _ _ e => e)
  · intro p main run
    rfl
  · obtain ⟨main, run⟩ := r
    obtain ⟨h', tk', D0, Dr, rfl, hr, hl, hm, hg, hs, e⟩ := h
    dsimp only at hr hl hm ⊢
    have e : D0 ++ Dr = D := by simpa using e
    show wpAny _ A (flushD run main >>= _) _ _ _
    have el : D0.length + Dr.length = D.length := by rw [← e, List.length_append]
    refine wpAny_bind (flush_new hr (by omega) (by rw [e]; exact hn) (by omega) hm hg hbig hs fun main' h'' tk'' hm' hg' hs' => ?_)
    rw [e] at hm'
    cases main' with
    | none => exact absurd hm' hD
    | some d =>
      obtain ⟨kvs, hd, hv, _, hle⟩ := hm'
      exact wpAny_pure (hQ d h'' tk'' kvs hle hd hv hg')
end
end Mine

end
section
open PySem PySem.W PyProof.Rows
namespace Mine

noncomputable def objK (w : World) (a : Nat) : Obj := ((top.tree_119 w.params).get a).getD default
noncomputable def fdOf (o : Obj) : FuncData := match o.data with | .func fd => fd | _ => default
noncomputable def vsOf (o : Obj) : Array Value := match o.data with | .fields vs => vs | _ => #[]
noncomputable def tkOf : Option Value → Tok | some (.str _ t) => t | _ => 0
theorem fn_K {w : World} {os : OsState} {a c : Nat} {name : Str} {k : Nat} (h1 : (SK w os).heap.get? a = some (objK w a))
    (h2 : (objK w a).data = .func (Calls.docDef name (parAt k) (bodAt k) (scoAt k) (fdOf (objK w a)).pyModule (.ref c) (fdOf (objK w a)).doc))
    (h3 : (SK w os).heap.get? c = some (objK w c)) (h4 : (objK w c).data = .fields (vsOf (objK w c))) (h5 : (vsOf (objK w c))[1]? = some (.str name (tkOf (vsOf (objK w c))[1]?))) : FnAt (SK w os).heap a name k :=
  ⟨_, _, _, _, h1, h2, c, _, _, _, rfl, h3, h4, h5⟩
theorem fn_9 (w : World) (os : OsState) : FnAt (SK w os).heap 94 "fspath" 9 := fn_K (c := 93) (by kernel_rfl) (by kernel_rfl) (by kernel_rfl) (by kernel_rfl) (by kernel_rfl)
theorem fn_13 (w : World) (os : OsState) : FnAt (SK w os).heap 108 "_get_sep" 13 := fn_K (c := 107) (by kernel_rfl) (by kernel_rfl) (by kernel_rfl) (by kernel_rfl) (by kernel_rfl)
theorem fn_14 (w : World) (os : OsState) : FnAt (SK w os).heap 115 "dirname" 14 := fn_K (c := 114) (by kernel_rfl) (by kernel_rfl) (by kernel_rfl) (by kernel_rfl) (by kernel_rfl)
theorem fn_15 (w : World) (os : OsState) : FnAt (SK w os).heap 120 "commonpath" 15 := fn_K (c := 119) (by kernel_rfl) (by kernel_rfl) (by kernel_rfl) (by kernel_rfl) (by kernel_rfl)

noncomputable def psK : Array Value := #[.int 1 0, .int 0 0, .ref 20, .int 5 0, .int 0 0, .ref 27, .int 11 0, .int 0 0, .ref 34, .int 16 0, .int 0 0, .ref 53, .int 31 0, .int 0 0, .ref 86, .int 35 0, .int 0 0, .ref 93, .int 52 0, .int 0 0, .ref 100,
  .int 64 0, .int 0 0, .ref 107, .int 69 0, .int 0 0, .ref 114, .int 77 0, .int 0 0, .ref 119]
noncomputable def mgK (w : World) (os : OsState) : Str → Option Value := (SK w os).heap.nsMap mainGlobals
theorem sk_main (w : World) (os : OsState) : (SK w os).heap.Main (mgK w os) 13 12 psK := by
  refine ⟨.of_isNs (by kernel_rfl), ?_, by decide, ?_⟩
  · refine ⟨objK w 13, vsOf (objK w 13), Str.ofString "/claim/cut.py", 186, 0, 0, false, 181, 0, objK w 12, by kernel_rfl, by kernel_rfl, by kernel_rfl, by kernel_rfl, by kernel_rfl, by kernel_rfl, by kernel_rfl, by kernel_rfl, by kernel_rfl, ?_, by decide⟩
    simp [psK, TriplesOk]
  · refine ⟨4, objK w 4, by kernel_rfl, by decide, by decide, by decide, by kernel_rfl, by kernel_rfl, by kernel_rfl, ?_⟩
    kernel_rfl
theorem tl_start (w : World) (os : OsState) : Tl w os (mgK w os) psK (SK w os) := ⟨⟨_, _, rfl⟩, sk_main w os, fun _ _ _ _ e => e⟩

noncomputable def ks19 : List (Option Expr) := match stAt 19 with | some (.Assign _ (.Dict ks _ _) _) => ks | _ => []
noncomputable def vs19 : List Expr := match stAt 19 with | some (.Assign _ (.Dict _ vs _) _) => vs | _ => []
noncomputable def set17 : Expr := match stAt 17 with | some (.Assign _ e _) => e | _ => default
noncomputable abbrev defAt' (name : Str) (k : Nat) (p : Pos) : Stmt := .FunctionDef name (parAt k) (bodAt k) [] none [] (scoAt k) none name p
theorem tail_eq : tailS = [.Assign [.Name "b1_set" ⟨107, 0, 107, 6⟩] set17 ⟨107, 0, 107, 107⟩, defAt' "in_table_b1" 18 ⟨108, 0, 109, 30⟩,
  .Assign [.Name "b3_exceptions" ⟨110, 0, 110, 13⟩] (.Dict ks19 vs19 ⟨110, 16, 110, 8704⟩) ⟨110, 0, 110, 8704⟩, defAt' "map_table_b3" 20 ⟨111, 0, 115, 23⟩,
  .Assign [.Name "__name__" ⟨116, 0, 116, 8⟩] (.Constant (.str "law_pd0064_01") 0 ⟨116, 11, 116, 26⟩) ⟨116, 0, 116, 26⟩,
  defAt' "_law_gone" 22 ⟨117, 0, 119, 106⟩, defAt' "_law_special" 23 ⟨120, 0, 122, 29⟩, defAt' "_law_path" 24 ⟨123, 0, 138, 27⟩, defAt' "_law_prepared" 25 ⟨139, 0, 140, 82⟩,
  defAt' "_law_asked" 26 ⟨141, 0, 145, 19⟩, defAt' "_law_above" 27 ⟨146, 0, 151, 16⟩, defAt' "_law_common" 28 ⟨152, 0, 160, 87⟩, defAt' "law" 29 ⟨161, 0, 180, 15⟩] := by kernel_rfl

noncomputable def strK : Expr → Option Str
  | .Constant (.str x) _ _ => some x
  | _ => none
noncomputable def intO : Option Expr → Option Int
  | some e => intK e
  | none => none
noncomputable def kvOf : List (Option Expr) → List Expr → Option (List (Int × Str))
  | [], [] => some []
  | a :: ks, b :: vs => (intO a).bind fun k => (strK b).bind fun x => (kvOf ks vs).map ((k, x) :: ·)
  | _, _ => none
theorem kv19 : kvOf ks19 vs19 = some b3T := by kernel_rfl
theorem strK_is {e : Expr} {x : Str} (h : strK e = some x) : ∃ n p, e = .Constant (.str x) n p := by
  unfold strK at h
  split at h
  · cases h; exact ⟨_, _, rfl⟩
  · cases h
theorem kv_cons {a : Option Expr} {b : Expr} {ks : List (Option Expr)} {vs : List Expr} {D : List (Int × Str)} (h : kvOf (a :: ks) (b :: vs) = some D) :
    ∃ k x n p n' p' D', a = some (.Constant (.int k) n p) ∧ b = .Constant (.str x) n' p' ∧ kvOf ks vs = some D' ∧ (k, x) :: D' = D := by
  unfold kvOf at h
  obtain ⟨k, h1, h⟩ := Option.bind_eq_some_iff.mp h
  obtain ⟨x, h2, h⟩ := Option.bind_eq_some_iff.mp h
  obtain ⟨D', h', e⟩ := Option.map_eq_some_iff.mp h
  obtain ⟨n', p', rfl⟩ := strK_is h2
  cases a with
  | none => cases h1
  | some a =>
    obtain ⟨n, p, rfl⟩ := intK_is (show intK a = some k from h1)
    exact ⟨k, x, n, p, n', p', D', rfl, rfl, h', e⟩
theorem kv_len : ∀ {ks : List (Option Expr)} {vs : List Expr} {D : List (Int × Str)}, kvOf ks vs = some D → ks.all (·.isSome) = true ∧ ks.length = vs.length
  | [], [], _, _ => ⟨rfl, rfl⟩
  | a :: ks, b :: vs, D, h => by
    obtain ⟨k, x, n, p, n', p', D', rfl, rfl, h', rfl⟩ := kv_cons h
    obtain ⟨a, b⟩ := kv_len h'
    exact ⟨by simpa using a, by simpa using b⟩
  | [], _ :: _, _, h => by cases h
  | _ :: _, [], _, h => by cases h
theorem kv_lits {w : World} {A : Around} {env : Env} {pos : Pos} : ∀ {ks : List (Option Expr)} {vs : List Expr} {D : List (Int × Str)}, kvOf ks vs = some D → F2 (LitP w A) (pairTrees ks vs env pos) D
  | [], [], _, h => by
    obtain rfl : [] = _ := by simpa [kvOf] using h
    exact .nil
  | a :: ks, b :: vs, D, h => by
    obtain ⟨k, x, n, p, n', p', D', rfl, rfl, h', rfl⟩ := kv_cons h
    refine .cons (fun s Q E hQ => ?_) (kv_lits h')
    show wpAny _ A (eval (.Constant (.int k) n p) env) (fun kv s₁ => wpAny _ A (do let x ← eval (.Constant (.str x) n' p') env; standAt pos; pure x) (fun vv s₂ => Q kv vv s₂) E s₁) E s
    refine wpAny_Constant_int ?_
    refine wpAny_bind (wpAny_Constant_str (wpAny_bind (wpAny_standAt (wpAny_pure ?_))))
    exact hQ _ _ _
  | [], _ :: _, _, h => by cases h
  | _ :: _, [], _, h => by cases h
theorem b3_up : (b3T.zip b3T.tail).all (fun x => decide (x.1.1 < x.2.1)) = true := by kernel_rfl
theorem nodup_up : ∀ (l : List (Int × Str)), (l.zip l.tail).all (fun x => decide (x.1.1 < x.2.1)) = true → (l.map (·.1)).Nodup ∧ ∀ a r, l = a :: r → ∀ y ∈ r.map (·.1), a.1 < y
  | [], _ => ⟨by simp, fun _ _ e => by cases e⟩
  | [a], _ => ⟨by simp, fun a' r e => by cases e; simp⟩
  | a :: b :: r, h => by
    have h' : decide (a.1 < b.1) = true ∧ ((b :: r).zip (b :: r).tail).all (fun x => decide (x.1.1 < x.2.1)) = true := by simpa using h
    obtain ⟨h1, h2⟩ := nodup_up (b :: r) h'.2
    have hab : a.1 < b.1 := of_decide_eq_true h'.1
    have hall : ∀ y ∈ (b :: r).map (·.1), a.1 < y := fun y hy => by
      rcases List.mem_cons.mp hy with rfl | hy
      · exact hab
      · exact Int.lt_trans hab (h2 b r rfl y hy)
    exact ⟨by rw [List.map_cons, List.nodup_cons]; exact ⟨fun hm => Int.lt_irrefl _ (hall _ hm), h1⟩, fun a' r' e => by cases e; exact hall⟩
end Mine

end
section
open PySem PySem.W PyProof.Rows
set_option maxHeartbeats 4000000
namespace Mine

/-- what has been bound so far -/
structure Acc (w : World) (os : OsState) (mg : Str → Option Value) (h : Heap) (fl : List (Str × Nat)) (names : List Str) : Prop where
  fn : ∀ p ∈ fl, ∃ a, mg p.1 = some (.ref a) ∧ a ≠ 12 ∧ a ≠ 3 ∧ FnAt h a p.1 p.2
  sub : ∀ p ∈ fl, p.1 ∈ names
  old : ∀ x, x ∉ names → mg x = mgK w os x

section
variable {w : World} {os : OsState} {mg : Str → Option Value} {ps : Array Value} {A : Around} {E : Value → Shared → Prop} {s s' : Shared} {fl : List (Str × Nat)} {names : List Str}

theorem Tl.places (T : Tl w os mg ps s) : ∀ o, s.heap.get? 12 = some o → ∀ q t vs, o.data = .fields vs → vs[1]? ≠ some (.str q t) := by
  intro o ho q t vs hd
  obtain ⟨_, _, _, _, _, _, _, _, _, op, _, _, _, _, _, _, _, h1, h2, h3, _⟩ := T.main.code
  rw [ho] at h1; cases h1
  rw [hd] at h2; cases h2
  rw [← Array.getElem?_toList]
  cases hl : ps.toList with
  | nil => simp
  | cons a r =>
    cases r with
    | nil => simp
    | cons b r =>
      rw [hl] at h3
      intro e
      simp only [List.getElem?_cons_succ, List.getElem?_cons_zero, Option.some.injEq] at e
      subst e
      cases a <;> simp [TriplesOk] at h3
theorem Acc.mk' (X : Acc w os mg s.heap fl names) (T : Tl w os mg ps s) {h' : Heap} {mg' : Str → Option Value} {y : Str} (g : Mk s.heap h') (hy : y ∉ names) (hm : ∀ x, x ≠ y → mg' x = mg x) : Acc w os mg' h' fl (y :: names) := by
  refine ⟨fun p hp => ?_, fun p hp => List.mem_cons_of_mem _ (X.sub p hp), fun x hx => ?_⟩
  · obtain ⟨a, e, h1, h2, h3⟩ := X.fn p hp
    refine ⟨a, ?_, h1, h2, h3.mk' g ⟨h1, h2⟩ T.places ⟨_, T.main.g⟩⟩
    rw [hm _ fun q => hy (q ▸ X.sub p hp)]; exact e
  · rw [hm x fun q => hx (q ▸ List.mem_cons_self)]
    exact X.old x fun q => hx (List.mem_cons_of_mem _ q)
theorem Acc.add (X : Acc w os mg s.heap fl names) {y : Str} {k : Nat} {a : Addr} (hm : mg y = some (.ref a)) (h1 : a ≠ 12) (h2 : a ≠ 3) (h3 : FnAt s.heap a y k) (hy : y ∈ names) : Acc w os mg s.heap ((y, k) :: fl) names := by
  refine ⟨fun p hp => ?_, fun p hp => ?_, X.old⟩
  · rcases List.mem_cons.mp hp with rfl | hp
    · exact ⟨a, hm, h1, h2, h3⟩
    · exact X.fn p hp
  · rcases List.mem_cons.mp hp with rfl | hp
    · exact hy
    · exact X.sub p hp

theorem Tl.size (T : Tl w os mg ps s) : 121 ≤ s.heap.objs.size := by
  have h : (SK w os).heap.get? 120 = some (objK w 120) := by kernel_rfl
  exact Heap.lt_size (T.keep 120 _ (by decide) (by decide) h)

/-- a def of the tail -/
theorem tail_def {name : Str} {k : Nat} {pos : Pos} {rest : List Stmt} {Q : Flow → Shared → Prop} (T : Tl w os mg ps s) (X : Acc w os mg s.heap fl names) (hy : name ∉ names)
    (hpar : (parAt k).kwonlyargs = [] ∧ (parAt k).kw_defaults = [] ∧ (parAt k).defaults = []) (hann0 : annTrees (parAt k) none (mainEnv pw 13 14) = [])
    (hfree : ∀ x ∈ (scoAt k).names, x.2 ≠ .free) (hloc : pw.main.scope.names.lookup name = some .local)
    (hq : qualnameIn { scope := pw.main.scope, locals := mainGlobals, globals := mainGlobals, cells := [] } name name = name) (hnb : name ≠ "__builtins__") (hnf : codeAmong pos ps.toList = none)
    (h : ∀ mg' c' s', Tl w os mg' (ps ++ #[rawInt pos.line, rawInt pos.col, .ref c']) s' → Mk s.heap s'.heap → (∀ x, x ≠ name → mg' x = mg x) → Acc w os mg' s'.heap ((name, k) :: fl) (name :: names) →
      wpAny (model pw w) A (execs rest (mainEnv pw 13 14)) Q E s') :
    wpAny (model pw w) A (execs (defAt' name k pos :: rest) (mainEnv pw 13 14)) Q E s := by
  refine top_def k T ⟨rfl, rfl, rfl⟩ hpar hann0 hfree hloc hq hnb hnf fun a c' s' T' g ha hc hf => ?_
  have hs := T.size
  refine h _ c' s' T' g (fun x hx => if_neg hx) ?_
  refine Acc.add (X.mk' T g hy fun x hx => if_neg hx) (if_pos rfl) (fun q => ?_) (fun q => ?_) hf List.mem_cons_self
  · subst q; exact absurd (Nat.le_trans hs ha) (by decide)
  · subst q; exact absurd (Nat.le_trans hs ha) (by decide)

/-- what stands behind the text -/
structure Last (w : World) (os : OsState) (s : Shared) : Prop where
  tl : ∃ mg ps, Tl w os mg ps s ∧ Acc w os mg s.heap [("law", 29), ("_law_common", 28), ("_law_above", 27), ("_law_asked", 26), ("_law_prepared", 25), ("_law_path", 24), ("_law_special", 23), ("_law_gone", 22), ("map_table_b3", 20), ("in_table_b1", 18), ("commonpath", 15), ("dirname", 14), ("_get_sep", 13), ("fspath", 9)]
      ["law", "_law_common", "_law_above", "_law_asked", "_law_prepared", "_law_path", "_law_special", "_law_gone", "__name__", "map_table_b3", "b3_exceptions", "in_table_b1", "b1_set", "commonpath", "dirname", "_get_sep", "fspath"] ∧
    (∃ a, mg "b1_set" = some (.ref a) ∧ s.heap.SetOf (intKind pw w) a (fun k => b1L.any (· == k)) 27) ∧ (∃ a kvs, mg "b3_exceptions" = some (.ref a) ∧ 121 ≤ a ∧ s.heap.DictOf (intKind pw w) a kvs ∧ Vd kvs b3T)

theorem acc_start (w : World) (os : OsState) : Acc w os (mgK w os) (SK w os).heap [("commonpath", 15), ("dirname", 14), ("_get_sep", 13), ("fspath", 9)] ["commonpath", "dirname", "_get_sep", "fspath"] := by
  refine ⟨fun p hp => ?_, by decide +kernel, fun _ _ => rfl⟩
  rcases List.mem_cons.mp hp with rfl | hp
  · exact ⟨120, by kernel_rfl, by decide, by decide, fn_15 w os⟩
  rcases List.mem_cons.mp hp with rfl | hp
  · exact ⟨115, by kernel_rfl, by decide, by decide, fn_14 w os⟩
  rcases List.mem_cons.mp hp with rfl | hp
  · exact ⟨108, by kernel_rfl, by decide, by decide, fn_13 w os⟩
  rcases List.mem_cons.mp hp with rfl | hp
  · exact ⟨94, by kernel_rfl, by decide, by decide, fn_9 w os⟩
  · cases hp
theorem mgK_none (w : World) (os : OsState) : ∀ x ∈ (["set", "list", "range"] : List Str), mgK w os x = none := by
  intro x hx
  have h : (["set", "list", "range"] : List Str).all (fun x => (mgK w os x).isNone) = true := by kernel_rfl
  simpa using List.all_eq_true.mp h x hx

theorem Acc.grow (X : Acc w os mg s.heap fl names) {h : Heap} (g : Grow s.heap h) : Acc w os mg h fl names := ⟨fun p hp => let ⟨a, e, h1, h2, h3⟩ := X.fn p hp; ⟨a, e, h1, h2, h3.keeps g⟩, X.sub, X.old⟩
theorem ge_ne {a : Addr} (h : 121 ≤ a) : a ≠ 12 ∧ a ≠ 3 := ⟨fun q => by subst q; exact absurd h (by decide), fun q => by subst q; exact absurd h (by decide)⟩
theorem set_mk {h h' : Heap} {a : Addr} {S : Int → Bool} {n : Nat} (x : h.SetOf (intKind pw w) a S n) (g : Mk h h') (ha : 121 ≤ a) : h'.SetOf (intKind pw w) a S n :=
  let ⟨o, es, ep, t, e, r⟩ := x; ⟨o, es, ep, t, g _ _ (ge_ne ha).1 (ge_ne ha).2 e, r⟩
theorem dict_mk {h h' : Heap} {a : Addr} {kvs : List (Int × Value)} (x : h.DictOf (intKind pw w) a kvs) (g : Mk h h') (ha : 121 ≤ a) : h'.DictOf (intKind pw w) a kvs :=
  let ⟨o, es, ep, e, r⟩ := x; ⟨o, es, ep, g _ _ (ge_ne ha).1 (ge_ne ha).2 e, r⟩

noncomputable def es17 : List Expr := match set17 with | .Call _ [.BinOp (.List es _) _ _ _] _ _ => es | _ => []
theorem set17_eq : set17 = .Call (.Name "set" ⟨107, 9, 107, 12⟩) [.BinOp (.List es17 ⟨107, 13, 107, 78⟩) .Add (.Call (.Name "list" ⟨107, 81, 107, 85⟩) [.Call (.Name "range" ⟨107, 86, 107, 91⟩)
  [.Constant (.int 65024) 0 ⟨107, 92, 107, 97⟩, .Constant (.int 65040) 0 ⟨107, 99, 107, 104⟩] [] ⟨107, 86, 107, 105⟩] [] ⟨107, 81, 107, 106⟩) ⟨107, 13, 107, 106⟩] [] ⟨107, 9, 107, 107⟩ := by kernel_rfl
theorem es17_is : intsOf es17 = some (b1L.take 11) := by kernel_rfl
theorem top_dict {ks : List (Option Expr)} {vs : List Expr} {D : List (Int × Str)} {pos : Pos} {Q : Value → Shared → Prop} (hk : kvOf ks vs = some D) (hD : D ≠ []) (hn : (D.map (·.1)).Nodup) (hsz : D.length ≤ 65536) (hbig : sysModules < s.heap.objs.size)
    (hQ : ∀ a h' tk' kvs, s.heap.objs.size ≤ a → h'.DictOf (IK w) a kvs → Vd kvs D → Grow s.heap h' → Q (.ref a) { s with heap := h', toks := tk' }) : wpAny (model pw w) A (eval (.Dict ks vs pos) (mainEnv pw 13 14)) Q E s := by
  rw [arm_eval_Dict, zip_pairTrees _ _ _ _ (kv_len hk).1 (kv_len hk).2]
  exact wpAny_bind (wpAny_standAt (disp_new (kv_lits hk) hD hn hsz hbig hQ))
theorem b3_ne : b3T ≠ [] := fun e => by
  have h : b3T.length = 650 := by kernel_rfl
  rw [e] at h; cases h
theorem b3_len : b3T.length ≤ 65536 := by
  have h : b3T.length = 650 := by kernel_rfl
  rw [h]; decide
theorem tail_runs_of {ks : List (Option Expr)} {vs es : List Expr} {D : List (Int × Str)} (hk : kvOf ks vs = some D) (hD : D = b3T) (hD0 : D ≠ []) (hDn : (D.map (·.1)).Nodup) (hDl : D.length ≤ 65536) (hes : intsOf es = some (b1L.take 11))
    (hh : A.handled = none) (T : Tl w os (mgK w os) psK s) (X : Acc w os (mgK w os) s.heap [("commonpath", 15), ("dirname", 14), ("_get_sep", 13), ("fspath", 9)] ["commonpath", "dirname", "_get_sep", "fspath"]) :
    wpAny (model pw w) A (execs [.Assign [.Name "b1_set" ⟨107, 0, 107, 6⟩] (.Call (.Name "set" ⟨107, 9, 107, 12⟩) [.BinOp (.List es ⟨107, 13, 107, 78⟩) .Add (.Call (.Name "list" ⟨107, 81, 107, 85⟩) [.Call (.Name "range" ⟨107, 86, 107, 91⟩) [.Constant (.int 65024) 0 ⟨107, 92, 107, 97⟩, .Constant (.int 65040) 0 ⟨107, 99, 107, 104⟩] [] ⟨107, 86, 107, 105⟩] [] ⟨107, 81, 107, 106⟩) ⟨107, 13, 107, 106⟩] [] ⟨107, 9, 107, 107⟩) ⟨107, 0, 107, 107⟩, defAt' "in_table_b1" 18 ⟨108, 0, 109, 30⟩,
  .Assign [.Name "b3_exceptions" ⟨110, 0, 110, 13⟩] (.Dict ks vs ⟨110, 16, 110, 8704⟩) ⟨110, 0, 110, 8704⟩, defAt' "map_table_b3" 20 ⟨111, 0, 115, 23⟩,
  .Assign [.Name "__name__" ⟨116, 0, 116, 8⟩] (.Constant (.str "law_pd0064_01") 0 ⟨116, 11, 116, 26⟩) ⟨116, 0, 116, 26⟩,
  defAt' "_law_gone" 22 ⟨117, 0, 119, 106⟩, defAt' "_law_special" 23 ⟨120, 0, 122, 29⟩, defAt' "_law_path" 24 ⟨123, 0, 138, 27⟩, defAt' "_law_prepared" 25 ⟨139, 0, 140, 82⟩,
  defAt' "_law_asked" 26 ⟨141, 0, 145, 19⟩, defAt' "_law_above" 27 ⟨146, 0, 151, 16⟩, defAt' "_law_common" 28 ⟨152, 0, 160, 87⟩, defAt' "law" 29 ⟨161, 0, 180, 15⟩] (mainEnv pw 13 14)) (fun f s' => f = .next ∧ Last w os s') (fun _ _ => False) s := by
  -- b1_set
  refine top_assign (os := os) (by decide +kernel) (by decide +kernel) (by kernel_rfl) (top_set (p0 := p0) T hh hes (mgK_none w os) fun h₁ tk₁ a₁ g₁ ha₁ hS => ?_)
  refine ⟨_, _, T.grow g₁, fun s₂ T₂ m₂ => ?_⟩
  have X₂ := Acc.mk' (s := { s with heap := h₁, toks := tk₁ }) (y := "b1_set") (mg' := fun y => if y = "b1_set" then some (.ref a₁) else mgK w os y) (X.grow g₁) (T.grow (tk := tk₁) g₁) m₂ (by decide +kernel) fun x hx => if_neg hx
  have ha₁ : 121 ≤ a₁ := Nat.le_trans T.size ha₁
  have hS₂ := set_mk hS m₂ ha₁
  -- in_table_b1
  refine tail_def (k := 18) T₂ X₂ (by decide +kernel) (by decide +kernel) (by kernel_rfl) (by decide +kernel) (by decide +kernel) (by kernel_rfl) (by decide +kernel) (by kernel_rfl) fun mg₃ c₃ s₃ T₃ m₃ e₃ X₃ => ?_
  have hS₃ := set_mk hS₂ m₃ ha₁
  have hm₃ : mg₃ "b1_set" = some (.ref a₁) := (e₃ _ (by decide +kernel)).trans (if_pos rfl)
  -- b3_exceptions
  have hbig : sysModules < s₃.heap.objs.size := Nat.lt_of_lt_of_le (by decide) T₃.size
  refine top_assign (os := os) (by decide +kernel) (by decide +kernel) (by kernel_rfl) ?_
  refine top_dict hk hD0 hDn hDl hbig fun a₄ h₄ tk₄ kvs ha₄ hd₄ hv g₄ => ?_
  refine ⟨_, _, T₃.grow g₄, fun s₅ T₅ m₅ => ?_⟩
  have ha₄ : 121 ≤ a₄ := Nat.le_trans T₃.size ha₄
  have X₅ := Acc.mk' (s := { s₃ with heap := h₄, toks := tk₄ }) (y := "b3_exceptions") (mg' := fun y => if y = "b3_exceptions" then some (.ref a₄) else mg₃ y) (X₃.grow g₄) (T₃.grow (tk := tk₄) g₄) m₅ (by decide +kernel) fun x hx => if_neg hx
  have hS₅ := set_mk (let ⟨o, es, ep, t, e, r⟩ := hS₃; ⟨o, es, ep, t, g₄ _ _ e, r⟩ : h₄.SetOf (intKind pw w) a₁ (fun k => b1L.any (· == k)) 27) m₅ ha₁
  have hd₅ := dict_mk hd₄ m₅ ha₄
  have hm₅ : (if ("b1_set" : Str) = "b3_exceptions" then some (.ref a₄) else mg₃ "b1_set") = some (.ref a₁) := (if_neg (by decide +kernel)).trans hm₃
  have hb₅ : (if ("b3_exceptions" : Str) = "b3_exceptions" then some (.ref a₄) else mg₃ "b3_exceptions") = some (.ref a₄) := if_pos rfl
  -- map_table_b3
  refine tail_def (k := 20) T₅ X₅ (by decide +kernel) (by decide +kernel) (by kernel_rfl) (by decide +kernel) (by decide +kernel) (by kernel_rfl) (by decide +kernel) (by kernel_rfl) fun mg₆ c₆ s₆ T₆ m₆ e₆ X₆ => ?_
  have hS₆ := set_mk hS₅ m₆ ha₁
  have hd₆ := dict_mk hd₅ m₆ ha₄
  have hm₆ : mg₆ "b1_set" = some (.ref a₁) := (e₆ _ (by decide +kernel)).trans hm₅
  have hb₆ : mg₆ "b3_exceptions" = some (.ref a₄) := (e₆ _ (by decide +kernel)).trans hb₅
  -- __name__
  refine top_assign (os := os) (by decide +kernel) (by decide +kernel) (by kernel_rfl) (wpAny_Constant_str ⟨_, _, T₆.grow (Grow.refl _), fun s₇ T₇ m₇ => ?_⟩)
  have X₇ := Acc.mk' (s := { s₆ with toks := s₆.toks + 1 }) (y := "__name__") (mg' := fun y => if y = "__name__" then some (.str "law_pd0064_01" s₆.toks) else mg₆ y) X₆ (T₆.grow (tk := s₆.toks + 1) (Grow.refl _)) m₇ (by decide +kernel) fun x hx => if_neg hx
  have hS₇ := set_mk hS₆ m₇ ha₁
  have hd₇ := dict_mk hd₆ m₇ ha₄
  have hm₇ : (if ("b1_set" : Str) = "__name__" then some (.str "law_pd0064_01" s₆.toks) else mg₆ "b1_set") = some (.ref a₁) := (if_neg (by decide +kernel)).trans hm₆
  have hb₇ : (if ("b3_exceptions" : Str) = "__name__" then some (.str "law_pd0064_01" s₆.toks) else mg₆ "b3_exceptions") = some (.ref a₄) := (if_neg (by decide +kernel)).trans hb₆
  -- the law's own defs
  refine tail_def (k := 22) T₇ X₇ (by decide +kernel) (by decide +kernel) (by kernel_rfl) (by decide +kernel) (by decide +kernel) (by kernel_rfl) (by decide +kernel) (by kernel_rfl) fun mg₈ c₈ s₈ T₈ m₈ e₈ X₈ => ?_
  have hm₈ := (e₈ "b1_set" (by decide +kernel)).trans hm₇
  have hb₈ := (e₈ "b3_exceptions" (by decide +kernel)).trans hb₇
  refine tail_def (k := 23) T₈ X₈ (by decide +kernel) (by decide +kernel) (by kernel_rfl) (by decide +kernel) (by decide +kernel) (by kernel_rfl) (by decide +kernel) (by kernel_rfl) fun mg₉ c₉ s₉ T₉ m₉ e₉ X₉ => ?_
  have hm₉ := (e₉ "b1_set" (by decide +kernel)).trans hm₈
  have hb₉ := (e₉ "b3_exceptions" (by decide +kernel)).trans hb₈
  refine tail_def (k := 24) T₉ X₉ (by decide +kernel) (by decide +kernel) (by kernel_rfl) (by decide +kernel) (by decide +kernel) (by kernel_rfl) (by decide +kernel) (by kernel_rfl) fun mga ca sa Ta ma ea Xa => ?_
  have hma := (ea "b1_set" (by decide +kernel)).trans hm₉
  have hba := (ea "b3_exceptions" (by decide +kernel)).trans hb₉
  refine tail_def (k := 25) Ta Xa (by decide +kernel) (by decide +kernel) (by kernel_rfl) (by decide +kernel) (by decide +kernel) (by kernel_rfl) (by decide +kernel) (by kernel_rfl) fun mgb cb sb Tb mb eb Xb => ?_
  have hmb := (eb "b1_set" (by decide +kernel)).trans hma
  have hbb := (eb "b3_exceptions" (by decide +kernel)).trans hba
  refine tail_def (k := 26) Tb Xb (by decide +kernel) (by decide +kernel) (by kernel_rfl) (by decide +kernel) (by decide +kernel) (by kernel_rfl) (by decide +kernel) (by kernel_rfl) fun mgc cc sc Tc mc ec Xc => ?_
  have hmc := (ec "b1_set" (by decide +kernel)).trans hmb
  have hbc := (ec "b3_exceptions" (by decide +kernel)).trans hbb
  refine tail_def (k := 27) Tc Xc (by decide +kernel) (by decide +kernel) (by kernel_rfl) (by decide +kernel) (by decide +kernel) (by kernel_rfl) (by decide +kernel) (by kernel_rfl) fun mgd cd sd Td md ed Xd => ?_
  have hmd := (ed "b1_set" (by decide +kernel)).trans hmc
  have hbd := (ed "b3_exceptions" (by decide +kernel)).trans hbc
  refine tail_def (k := 28) Td Xd (by decide +kernel) (by decide +kernel) (by kernel_rfl) (by decide +kernel) (by decide +kernel) (by kernel_rfl) (by decide +kernel) (by kernel_rfl) fun mge ce se Te me ee Xe => ?_
  have hme := (ee "b1_set" (by decide +kernel)).trans hmd
  have hbe := (ee "b3_exceptions" (by decide +kernel)).trans hbd
  refine tail_def (k := 29) Te Xe (by decide +kernel) (by decide +kernel) (by kernel_rfl) (by decide +kernel) (by decide +kernel) (by kernel_rfl) (by decide +kernel) (by kernel_rfl) fun mgf cf sf Tf mf ef Xf => ?_
  have hmf := (ef "b1_set" (by decide +kernel)).trans hme
  have hbf := (ef "b3_exceptions" (by decide +kernel)).trans hbe
  have M : Mk s₇.heap sf.heap := ((((((m₈.trans m₉).trans ma).trans mb).trans mc).trans md).trans me).trans mf
  exact wpAny_execs_nil ⟨rfl, ⟨mgf, _, Tf, Xf, ⟨a₁, hmf, set_mk hS₇ M ha₁⟩, ⟨a₄, kvs, hbf, ha₄, dict_mk hd₇ M ha₄, hD ▸ hv⟩⟩⟩
theorem tail_runs (hh : A.handled = none) : wpAny (model pw w) A (execs tailS (mainEnv pw 13 14)) (fun f s' => f = .next ∧ Last w os s') (fun _ _ => False) (SK w os) := by
  rw [tail_eq, set17_eq]
  exact tail_runs_of kv19 rfl b3_ne (nodup_up _ b3_up).1 b3_len es17_is hh (tl_start w os) (acc_start w os)
end
end Mine

end
section
open PySem PySem.W PyProof.Rows
namespace Mine

section
variable {den : Code → Sem Fin} {p : Program} {w : World}
theorem last_step : ∀ (n : Nat) (s : Shared) (t : Thread) (o : Outcome) (s'' : Shared), runN den p w n s t = .halted o s'' → ∃ k s₁ t₁, runN den p w k s t = .running s₁ t₁ ∧ step den p w s₁ t₁ = .halt o s''
  | 0, s, t, o, s'', h => by cases h
  | n + 1, s, t, o, s'', h => by
    simp only [runN] at h
    cases hs : step den p w s t with
    | go s₂ t₂ =>
      rw [hs] at h
      obtain ⟨k, s₁, t₁, h1, h2⟩ := last_step n s₂ t₂ o s'' h
      exact ⟨k + 1, s₁, t₁, by simp only [runN, hs]; exact h1, h2⟩
    | halt o₂ s₂ =>
      rw [hs] at h
      cases h
      exact ⟨0, s, t, rfl, hs⟩
theorem halt_next : ∀ (n : Nat) (s : Shared) (t : Thread) (s₁ : Shared) (t₁ : Thread) (o : Outcome) (s'' : Shared), runN den p w n s t = .running s₁ t₁ → step den p w s₁ t₁ = .halt o s'' → runN den p w (n + 1) s t = .halted o s''
  | 0, s, t, s₁, t₁, o, s'', h, h2 => by
    cases h
    simp only [runN, h2]
  | n + 1, s, t, s₁, t₁, o, s'', h, h2 => by
    simp only [runN] at h
    cases hs : step den p w s t with
    | go s₂ t₂ =>
      rw [hs] at h
      have := halt_next n s₂ t₂ s₁ t₁ o s'' h h2
      show (match step den p w s t with | .go s' t' => runN den p w (n + 1) s' t' | .halt o s' => .halted o s') = _
      rw [hs]; exact this
    | halt o₂ s₂ => rw [hs] at h; cases h
theorem through_of_halt {s s'' : Shared} {t : Thread} {f : Flow} (hc : t.calm = true) (h : step den p w s t = .halt (.done f) s'') : through t = true ∧ s'' = s := by
  refine ⟨?_, step_halt_same den p w s s'' t _ h⟩
  have h1 : runN den p w 1 s t = .halted (.done f) s'' := by simp only [runN, h]
  obtain ⟨s', h2, -⟩ := runN_calm_runNI den p w h1 fun k s₁ t₁ hk => by
    cases k with
    | zero => cases hk; exact hc
    | succ k => simp only [runN, h] at hk; cases hk
  have h3 : (⟨den, p, w⟩ : Model).step s t = .halt (outcomeOf (.ok f)) s' := by
    show stepI den p w s t = .halt (.done f) s'
    unfold runNI at h2
    cases e : stepI den p w s t with
    | go a b => rw [e] at h2; cases h2
    | halt o a => rw [e] at h2; cases h2; rfl
  obtain ⟨cur, code, pos, st⟩ := t
  obtain ⟨rfl, rfl, -⟩ := step_halt_result h3
  rfl
end

noncomputable def topA : Around := { handled := none, depth := 1 + claimMargin + 10, frames := none, guards := none, units := 40 }
theorem top_in : (Ctx.of cB [topFrame p0]).In topA := by
  refine ⟨rfl, Nat.le_of_ble_eq_true (by kernel_rfl), fun l hl => ?_, fun g hg => ?_, Nat.le_of_ble_eq_true (by kernel_rfl)⟩
  · cases (show (none : Option (List Env)) = some l from hl)
  · cases (show (none : Option (List Code)) = some g from hg)

theorem tail_thread (w : World) (os : OsState) : ∃ n s₁, (model pw w).runN n (SK w os) (restOf tailS top.env_1 cB ⟨106, 0, 106, 8⟩ [topFrame p0]) = .halted (.done (.ret .none)) s₁ ∧ Last w os s₁ := by
  have h0 : wpAny (model pw w) topA ((execs tailS (mainEnv pw 13 14)).onRaise (PySem.leaving (mainEnv pw 13 14)) >>= fun f => (Sem.pure (Fin.done f) : Sem Fin)) (fun fin s' => ∃ f, fin = .done f ∧ (f = .next ∧ Last w os s')) (fun _ _ => False) (SK w os) :=
    wpAny_bind (wpAny_onRaise (wpAny_mono (tail_runs rfl) (fun f s' h => wpAny_pure ⟨f, rfl, h⟩) fun _ _ e => e.elim))
  have h1 := wp_of_wpAny_done (R := fun r s' => r = .ok .next ∧ Last w os s') top_in (wpAny_mono h0 (fun fin s' h => by
    obtain ⟨f, e, rfl, h⟩ := h
    exact ⟨.next, e, rfl, h⟩) fun _ _ e => e.elim) ⟨106, 0, 106, 8⟩
  obtain ⟨n, r, s', c', q, hn, rfl, hl⟩ := wp_runN h1
  have et : (restOf tailS top.env_1 cB ⟨106, 0, 106, 8⟩ [topFrame p0]) = ⟨((execs tailS (mainEnv pw 13 14)).onRaise (PySem.leaving (mainEnv pw 13 14)) >>= fun f => (Sem.pure (Fin.done f) : Sem Fin)), cB, ⟨106, 0, 106, 8⟩, [topFrame p0]⟩ := by
    show (⟨(execs tailS (mainEnv pw 13 14)).wrap doneF (leaveH (mainEnv pw 13 14)) id id, cB, ⟨106, 0, 106, 8⟩, [topFrame p0]⟩ : Thread) = _
    congr 1
    show _ = (((execs tailS (mainEnv pw 13 14)).onRaise (PySem.leaving (mainEnv pw 13 14))).bind fun f => (Sem.pure (Fin.done f) : Sem Fin))
    rw [Sem.bind_eq_wrap, Sem.onRaise_eq_wrap, Sem.wrap_wrap]
    rfl
  rw [et]
  have s1 := runN_snoc hn
  rw [step_leaf_ret] at s1
  have s2 := runN_snoc s1
  have e2 : (model pw w).step s' ⟨topAfter (.ok .next), .builtin "claim.caller" {}, p0, []⟩ = finish (outcomeOf (.ok (.ret .none))) s' := step_leaf_nil (M := model pw w) (s := s') (c := .builtin "claim.caller" {}) (p := p0) (.ok (.ret .none))
  rw [e2] at s2
  have hg : leftWithCleanup s'.gens = false := by
    obtain ⟨_, _, ⟨⟨_, _, e⟩, _, _⟩, _⟩ := hl.tl
    rw [e]
    show leftWithCleanup (⟨[]⟩ : Array GenState) = false
    simp [leftWithCleanup]
  refine ⟨n + 1 + 1, s', ?_, hl⟩
  rw [s2]
  unfold finish
  rw [if_neg (by rw [hg]; decide)]
  rfl

theorem top_ran (w : World) (os : OsState) : ∃ s₁, (∃ n t, schedN (denote table) pw w n (.single (S0 w os) (topStub pw)) = .running (.single s₁ t) ∧ through t = true) ∧ s₁.heap.life = (SK w os).heap.life ∧ Last w os s₁ := by
  obtain ⟨n, s₁, hn, hl⟩ := tail_thread w os
  obtain ⟨g, z⟩ := goes17 w os
  rw [← table_eq_tree] at g
  obtain ⟨s₂, hr, hf, hc⟩ := runNI_real _ _ _ hn rfl
  have hg : s₁.NoSusp := by
    obtain ⟨_, _, ⟨⟨_, _, e⟩, _, _⟩, _⟩ := hl.tl
    exact Shared.noSusp_of_empty (by rw [e]; rfl)
  obtain rfl := Shared.eq_of_forget_eq' hf hg
  obtain ⟨k, s₃, t₃, h1, h2⟩ := last_step _ _ _ _ _ hr
  obtain ⟨ht, rfl⟩ := through_of_halt (hc k _ _ h1) h2
  refine ⟨s₂, ?_, runN_life _ _ _ hr, hl⟩
  have g2 : Go table pw w (SK w os) (restOf tailS top.env_1 cB ⟨106, 0, 106, 8⟩ [topFrame p0]) s₂ t₃ := by
    refine ⟨k, ?_⟩
    rw [schedN_prefix (denote table) pw w k _ _ z fun j s' t' hj hrun => ⟨hc j s' t' hrun, fun hs => ?_⟩]
    · show Run.lift (runN (denote table) pw w k _ _) = _
      have : runN (denote table) pw w k (SK w os) (restOf tailS top.env_1 cB ⟨106, 0, 106, 8⟩ [topFrame p0]) = .running s₂ t₃ := h1
      rw [this]; rfl
    · have a := halt_next j _ _ s' t' _ _ hrun hs
      have h3 : runN (denote table) pw w (k + 1) (SK w os) (restOf tailS top.env_1 cB ⟨106, 0, 106, 8⟩ [topFrame p0]) = .halted (.done (.ret .none)) s₂ := halt_next k _ _ _ _ _ _ h1 h2
      have b := runN_mono (denote table) pw w _ _ _ _ _ h3 (k := j + 1)
      have c := runN_mono (denote table) pw w _ _ _ _ _ a (k := k + 1)
      rw [Nat.add_comm] at c
      rw [c] at b
      cases b
  obtain ⟨m, hm⟩ := g.trans g2
  exact ⟨m, t₃, hm, ht⟩
end Mine

end
section
open PySem PySem.W PyProof.Rows
namespace Mine

section
variable {w : World} {os : OsState} {s : Shared}

noncomputable def newNames : List Str := ["law", "_law_common", "_law_above", "_law_asked", "_law_prepared", "_law_path", "_law_special", "_law_gone", "__name__", "map_table_b3", "b3_exceptions", "in_table_b1", "b1_set", "commonpath", "dirname", "_get_sep", "fspath"]

theorem vd_look : ∀ {kvs : List (Int × Value)} {D : List (Int × Str)}, Vd kvs D → ∀ k, (D.lookup k = none ∧ valueAt kvs k = none) ∨ ∃ x t, D.lookup k = some x ∧ valueAt kvs k = some (.str x t)
  | [], [], _, k => .inl ⟨rfl, rfl⟩
  | (a, v) :: kvs, (b, x) :: D, .cons h r, k => by
    obtain ⟨h1, t, h2⟩ := h
    dsimp only at h1 h2
    subst h1 h2
    by_cases e : k = a
    · subst e
      exact .inr ⟨x, t, by simp, by simp [valueAt]⟩
    · have e1 : (k == a) = false := beq_eq_false_iff_ne.mpr e
      have e2 : decide (a = k) = false := decide_eq_false fun q => e q.symm
      have := vd_look r k
      simpa [List.lookup_cons, e1, valueAt, List.find?_cons, e2] using this
theorem lookup_of_mem {l : List (Int × Str)} (hn : (l.map (·.1)).Nodup) {k : Int} {x : Str} (h : (k, x) ∈ l) : l.lookup k = some x := by
  induction l with
  | nil => cases h
  | cons a r ih =>
    rw [List.map_cons, List.nodup_cons] at hn
    rcases List.mem_cons.mp h with rfl | h
    · simp
    · have : (k == a.1) = false := beq_eq_false_iff_ne.mpr fun q => hn.1 (q ▸ List.mem_map_of_mem (f := (·.1)) h)
      have e : List.lookup k (a :: r) = List.lookup k r := by
        obtain ⟨a1, a2⟩ := a
        simp only [List.lookup_cons]
        dsimp only at this
        rw [this]
      rw [e]; exact ih hn.2 h
theorem mem_of_lookup' {l : List (Int × Str)} {k : Int} {x : Str} (h : l.lookup k = some x) : (k, x) ∈ l := by
  induction l with
  | nil => cases h
  | cons a r ih =>
    obtain ⟨a1, a2⟩ := a
    simp only [List.lookup_cons] at h
    cases e : k == a1 with
    | true =>
      rw [e] at h
      obtain rfl : a2 = x := by simpa using h
      obtain rfl : k = a1 := by simpa using e
      exact List.mem_cons_self
    | false => rw [e] at h; exact List.mem_cons_of_mem _ (ih h)
theorem b3_look (k : Int) : b3 k = b3T.lookup k := by
  have hn := (nodup_up _ b3_up).1
  have hr : (b3T.reverse.map (·.1)).Nodup := by rw [List.map_reverse]; exact (List.reverse_perm _).nodup_iff.mpr hn
  unfold b3
  cases h : b3T.lookup k with
  | some x => exact lookup_of_mem hr (List.mem_reverse.mpr (mem_of_lookup' h))
  | none =>
    cases h' : b3T.reverse.lookup k with
    | none => rfl
    | some x =>
      have := lookup_of_mem hn (List.mem_reverse.mp (mem_of_lookup' h'))
      rw [h] at this; cases this

theorem fns_in : ∀ p ∈ fns, p ∈ ([("law", 29), ("_law_common", 28), ("_law_above", 27), ("_law_asked", 26), ("_law_prepared", 25), ("_law_path", 24), ("_law_special", 23), ("_law_gone", 22), ("map_table_b3", 20), ("in_table_b1", 18), ("commonpath", 15), ("dirname", 14), ("_get_sep", 13), ("fspath", 9)] : List (Str × Nat)) := by decide +kernel
theorem free_K : (["type", "issubclass", "str", "bytes", "isinstance", "len", "tuple", "map", "ValueError", "min", "max", "enumerate", "TypeError", "AttributeError", "ord", "chr", "int", "all", "zip", "sum", "range"] : List Str).all (fun x => (mgK w os x).isNone && !newNames.contains x) = true := by kernel_rfl
theorem lim_K : (SK w os).heap.NoLimit := ⟨(SK w os).heap.nsMap cStatics, .of_isNs (by kernel_rfl), by kernel_rfl⟩

theorem topF_of (h : Last w os s) : ∃ mg mb, TopF mg mb s.heap ∧ mg "law" ≠ none := by
  obtain ⟨mg, ps, T, X, ⟨a1, e1, hS⟩, ⟨a3, kvs, e3, ha3, hd, hv⟩⟩ := h
  refine ⟨mg, _, ⟨T.main.g, T.blt, ?_, (sk_blt w os).2, fun x hx => ?_, fun p hp => ?_, ?_, ?_⟩, ?_⟩
  · obtain ⟨mc, h1, h2⟩ := lim_K (w := w) (os := os)
    exact ⟨mc, h1.at fun o e => T.keep _ o (by decide) (by decide) e, h2⟩
  · have := List.all_eq_true.mp (free_K (w := w) (os := os)) x hx
    simp only [Bool.and_eq_true, Option.isNone_iff_eq_none, Bool.not_eq_true'] at this
    rw [X.old x fun hm => by have h1 := this.2; have h2 : newNames.contains x = true := List.contains_iff_mem.mpr hm; rw [h2] at h1; cases h1]
    exact this.1
  · obtain ⟨a, e, _, _, hf⟩ := X.fn p (fns_in p hp)
    exact ⟨a, e, hf⟩
  · obtain ⟨o, ho, hso⟩ := hS.objOf
    exact ⟨a1, o, 27, e1, ho, hso.intSetOf, by decide +kernel⟩
  · refine ⟨a3, valueAt kvs, e3, beq_eq_false_iff_ne.mpr fun q => ?_, fun w' => ?_, fun k => ?_⟩
    · rw [q] at ha3; exact absurd ha3 (by decide)
    · exact hd.mapOf
    · rw [b3_look]; exact vd_look hv k
  · obtain ⟨a, e, _⟩ := X.fn ("law", 29) (by decide +kernel)
    rw [e]; simp

theorem s0_size : (S0 w os).heap.objs.size = 11 := by kernel_rfl
theorem s0_old : ∀ b, b < 11 → b ≠ 2 → b ≠ 3 → b ≠ 6 → (SK w os).heap.get? b = (S0 w os).heap.get? b := by
  intro b hb h2 h3 h6
  match b, hb, h2, h3, h6 with
  | 0, _, _, _, _ => kernel_rfl
  | 1, _, _, _, _ => kernel_rfl
  | 2, _, h, _, _ => exact absurd rfl h
  | 3, _, _, h, _ => exact absurd rfl h
  | 4, _, _, _, _ => kernel_rfl
  | 5, _, _, _, _ => kernel_rfl
  | 6, _, _, _, h => exact absurd rfl h
  | 7, _, _, _, _ => kernel_rfl
  | 8, _, _, _, _ => kernel_rfl
  | 9, _, _, _, _ => kernel_rfl
  | 10, _, _, _, _ => kernel_rfl
  | n + 11, hb, _, _, _ => exact absurd (Nat.lt_of_le_of_lt (Nat.le_add_left 11 n) hb) (Nat.lt_irrefl _)
theorem s0_ann : globalOf (S0 w os).heap "__annotations__" = some (.ref 6) := by kernel_rfl
theorem acc_K : (SK w os).heap.accountedOkI (importedModules pw.main.body) = true := by kernel_rfl
theorem stat_K : staticsOk (importedModules pw.main.body) (S0 w os).heap (SK w os).heap = true := by kernel_rfl
theorem names_K : namesBound pw (SK w os).heap = true := by kernel_rfl
theorem laid_K : laidKept (S0 w os).heap (SK w os).heap = true := by kernel_rfl
theorem get2_K : ∃ o, (SK w os).heap.get? 2 = some o := ⟨objK w 2, by kernel_rfl⟩
theorem get0_K : ∃ o, (SK w os).heap.get? 0 = some o := ⟨objK w 0, by kernel_rfl⟩
theorem names_new : newNames.all (fun x => startupNames.contains x || pw.boundNames.contains x) = true := by kernel_rfl
theorem names_laid : laidNames.all (fun x => !newNames.contains x) = true := by kernel_rfl

theorem topRan_of (hr : ∃ n t, schedN (denote table) pw w n (.single (S0 w os) (topStub pw)) = .running (.single s t) ∧ through t = true) (hlf : s.heap.life = (SK w os).heap.life) (h : Last w os s) : TopRan pw w (S0 w os) s := by
  obtain ⟨mg, ps, T, X, _, _⟩ := h
  have hst : ∀ key, staticOf s.heap key = staticOf (SK w os).heap key := fun key => by
    obtain ⟨o, ho⟩ := get2_K (w := w) (os := os)
    have h1 : s.heap.get? cStatics = some o := T.keep 2 o (by decide) (by decide) ho
    have h2 : (SK w os).heap.get? cStatics = some o := ho
    unfold staticOf
    rw [h1, h2]
  have hbl : ∀ x, builtinOf s.heap x = builtinOf (SK w os).heap x := fun x => by
    obtain ⟨o, ho⟩ := get0_K (w := w) (os := os)
    have h1 : s.heap.get? builtinsNs = some o := T.keep 0 o (by decide) (by decide) ho
    have h2 : (SK w os).heap.get? builtinsNs = some o := ho
    unfold builtinOf
    rw [h1, h2]
  have hgl : ∀ x, globalOf s.heap x = mg x := fun x => Claim2Try.globalOf_of_ns T.main.g x
  have hglK : ∀ x, globalOf (SK w os).heap x = mgK w os x := fun x => Claim2Try.globalOf_of_ns (sk_main w os).g x
  obtain ⟨h', tk', hsame⟩ := T.same
  refine ⟨hr, hlf, Shared.rest_eq (by rw [hsame]; rfl), fun b o hb hn => ?_, fun key v hv => ?_, fun key => ?_, ?_, fun x hx => ?_, ?_, ?_, fun x v hx => ?_, fun x hx => ?_⟩
  · have hlt := Heap.lt_size hb
    rw [s0_size] at hlt
    have n2 : b ≠ 2 := fun q => hn (.inr (.inl q))
    have n3 : b ≠ 3 := fun q => hn (.inl q)
    have n6 : b ≠ 6 := fun q => hn (.inr (.inr (by rw [q]; exact s0_ann)))
    refine T.keep b o (fun q => ?_) n3 ((s0_old b hlt n2 n3 n6).trans hb)
    rw [q] at hlt; exact absurd hlt (by decide)
  · have := Heap.accountedI_of_ok (acc_K (w := w) (os := os)) key v (by rw [← hst]; exact hv)
    simpa only [hst] using this
  · have := statics_of_ok (stat_K (w := w) (os := os)) key
    simpa only [hst] using this
  · obtain ⟨o, es, ep, ho, hd, hk, _⟩ := T.main.g
    exact ⟨o, es, ep, ho, hd, hk⟩
  · rw [hbl]
    exact (Pin.builtinOf_eq (sk_facts w os).1 x).trans (Heap.of_bltView (sk_facts w os).1 (sk_facts w os).2 x hx)
  · obtain ⟨bm, o, hbm, _, _, _, hbo, h1, h2, _⟩ := T.main.bmod
    exact ⟨bm, o, (hgl _).trans hbm, hbo, h1, h2⟩
  · rw [hsame]
    intro g hg
    have : g ∈ (⟨[]⟩ : Array GenState) := hg
    simp at this
  · by_cases hm : x ∈ newNames
    · have := List.all_eq_true.mp names_new x hm
      simpa only [Bool.or_eq_true, List.contains_iff_mem] using this
    · refine names_of_bound (names_K (w := w) (os := os)) x v ?_
      rw [hglK, ← X.old x hm, ← hgl]; exact hx
  · have hm : x ∉ newNames := fun hm => by
      have := List.all_eq_true.mp names_laid x hx
      rw [List.contains_iff_mem.mpr hm] at this; cases this
    rw [hgl, X.old x hm, ← hglK]
    exact laid_of_kept (laid_K (w := w) (os := os)) x hx

theorem def_law : pw.theDef "law" = some (parAt 29, bodAt 29, scoAt 29) := by kernel_rfl
theorem isDef_of (h : Last w os s) : isTheDefsW pw s.heap "law" := by
  obtain ⟨mg, ps, T, X, _, _⟩ := h
  obtain ⟨a, e, _, _, o, pm, cd, doc, h1, h2, _⟩ := X.fn ("law", 29) (by decide +kernel)
  exact ⟨a, o, _, _, _, _, (Claim2Try.globalOf_of_ns T.main.g _).trans e, h1, h2, def_law, rfl, rfl, rfl, rfl, rfl, rfl, rfl, rfl, .inl ⟨by kernel_rfl, rfl⟩, [], by kernel_rfl, .inl ⟨rfl, rfl⟩⟩
end
end Mine

end
section
open PySem PySem.W PyProof.Rows
namespace Mine

noncomputable abbrev rwL := PySem.Challenge.rw_pd0064_01
noncomputable abbrev clm : ClaimW := rwL.row.toRowW.claim
theorem items_int {R : WRecords} : ∀ {xs : List WData}, WShape.hasItems R xs .int = true → ∃ ns : List Int, xs = ns.map .int
  | [], _ => ⟨[], rfl⟩
  | x :: xs, h => by
    have h' : WShape.has R x .int = true ∧ WShape.hasItems R xs .int = true := by
      unfold WShape.hasItems at h; exact Bool.and_eq_true_iff.mp h
    obtain ⟨i, rfl⟩ := hasW_int h'.1
    obtain ⟨ns, rfl⟩ := items_int h'.2
    exact ⟨i :: ns, rfl⟩
theorem pre_ints {args : List WData} (h : clm.pre args = true) : ∃ ns : List Int, args = [.list (ns.map .int)] ∧ ns.length ≤ 63 := by
  obtain ⟨h1, h2⟩ := pre_splitW (r := rwL.row.toRowW) h
  obtain ⟨d, r, rfl, hd, hr⟩ := hasAllW_cons h1
  obtain rfl := hasAllW_nil hr
  obtain ⟨xs, rfl, hx⟩ := hasW_list hd
  obtain ⟨ns, rfl⟩ := items_int hx
  refine ⟨ns, rfl, ?_⟩
  by_cases hl : ns.length ≤ 63
  · exact hl
  · exfalso
    have hv : rwL.row.pre.value rwL.row.records { args := [WData.list (ns.map .int)] } = some (.bool (!(decide ((63 : Int) < ((ns.map WData.int).length : Int))) && true)) := by
      show (WTm.and (.not (.lt (.lit (.int 63)) (.len (.arg 0)))) (.lit (.bool true))).value _ _ = _
      exact w_and (w_not (w_lt w_lit (w_len_list (w_arg rfl)))) w_lit
    have hd : decide ((63 : Int) < ((ns.map WData.int).length : Int)) = true := by rw [List.length_map]; exact decide_eq_true (by omega)
    rw [hd] at hv
    unfold WTm.holds at h2
    rw [hv] at h2
    exact Bool.noConfusion h2
theorem reads_ints {R : WRecords} {cl : Str → Option Addr} {h : Heap} : ∀ {ns : List Int} {vs : List Value} {as : List Addr}, ReadsAllW R cl h vs (ns.map .int) as → HoldsL Any h (ns.map .int) vs
  | [], _, _, .nil => rfl
  | n :: ns, _, _, .cons hv hr => by
    obtain ⟨t, rfl, _⟩ := readsW_int_inv hv
    exact ⟨_, _, rfl, ⟨t, rfl⟩, reads_ints hr⟩
theorem open_bare : pw.bare := ⟨rfl, rfl, rfl, rfl, rfl, by decide +kernel⟩
theorem open_well : opensWell pw = true := by kernel_rfl
theorem fence_id (s : Shared) : fenceModules? pw s = some s := by kernel_rfl
theorem open_plain : opening pw = plainProg pw.main.scope.names := by kernel_rfl

theorem law_ok (spec : ∀ (w : World) (ns : List Int), ns.length ≤ 63 → Spec w callerA "law" 29 [.list (ns.map .int)] (.bool true)) (w : World) (os : OsState) (free : Shared → Addr → Prop) (gens : Prop) (kept : Shared → Heap → Prop) (hkept : ∀ s h, kept s h) :
    ∃ s₁, TopRan pw w (S0 w os) s₁ ∧ isTheDefsW pw s₁.heap "law" ∧ clm.CallFrom (callStub "law") w (free s₁) gens (kept s₁) s₁ := by
  obtain ⟨s, hr, hlf, hl⟩ := top_ran w os
  refine ⟨s, topRan_of hr hlf hl, isDef_of hl, ?_⟩
  have hz : s.asleep := Shared.asleep_of_life hlf ⟨rfl, rfl⟩
  have hgens : s.gens = #[] := by
    obtain ⟨_, _, ⟨⟨_, _, e⟩, _, _⟩, _⟩ := hl.tl
    rw [e]; rfl
  refine ClaimW.callFrom_of_specG (c := clm) hz hgens fun args hpre hlay ord hord => ?_
  obtain ⟨ns, rfl, hns⟩ := pre_ints hpre
  have hsome : (layAllW clm.records (classAt s.heap) w.params ord [.list (ns.map .int)] s).isSome = true := layAllW_isSome (fun c hc => by cases hc) _ rwL.row.args s (pre_splitW (r := rwL.row.toRowW) hpre).1
  obtain ⟨⟨vs, s₁⟩, hlaid⟩ := Option.isSome_iff_exists.mp hsome
  have keeps := layAllW_keeps _ _ _ hlaid
  have hal := layAllW_rest _ _ _ hlaid
  obtain ⟨as, hrd, hin, hold⟩ := reads_layAllW hord _ _ _ hlaid hlay s₁.heap (fun _ _ e => e)
  have L : Laid clm.records w s s₁ [.list (ns.map .int)] vs as := ⟨⟨ord, hord, hlaid⟩, hrd, hin, hold, keeps, hal.1.trans hgens, hal.2.2.1⟩
  refine ⟨vs, s₁, hlaid, ?_⟩
  obtain ⟨mg, mb, T, _⟩ := topF_of hl
  have T1 : TopF mg mb s₁.heap := T.keeps keeps
  obtain ⟨a, hm, hf⟩ := T1.fn ("law", 29) (by decide +kernel)
  cases hrd with
  | cons hv hnil =>
  cases hnil
  obtain ⟨l, its, as', rfl, hil, hri, _⟩ := readsW_list_inv hv
  show wpAny _ callerA (do match ← nsGet mainNs "law" with
      | some f => do ret (← call f _)
      | none => unsupported "claim.caller:no-such-global") _ _ s₁
  refine wpAny_bind (wpAny_nsGet T1.g ?_)
  rw [hm]
  have hh : HoldsL Any s₁.heap [.list (ns.map .int)] [.ref l] := HoldsL.one ⟨l, its.toList, rfl, trivial, SeqAt.of_list hil, reads_ints hri⟩
  refine wpAny_bind (wpAny_mono (spec w ns hns Any mg mb s₁ _ a _ T1 hf (fun _ _ => trivial) hh) (fun v s' hv' => wpAny_pure ?_) fun _ _ e => e)
  obtain ⟨⟨h', tk, rfl, hk⟩, rfl⟩ := hv'
  have G : GoodWG clm (classAt s.heap) (ExcName.means s.heap) [.list (ns.map .int)] s₁ (.ok (.ret (.bool true))) { s₁ with heap := h', toks := tk } :=
    ⟨.inl ⟨.bool true, .bool true, [], rfl, fun cls => rfl, .bool true, by kernel_rfl, fun _ => ⟨.nil, fun a ha => by cases ha⟩⟩, .of_keep hk, rfl, AllBare.of_eq L.gens⟩
  have z := G.laid (c := clm) rfl rfl (fun a b => ident_freeW (r := rwL.row.toRowW) rfl rfl rfl a b) L
  exact ⟨_, rfl, z.1, z.2.1, z.2.2, hkept _ _⟩

theorem row_of (said : rwL.row.wellSaid = true) (spec : ∀ (w : World) (ns : List Int), ns.length ≤ 63 → Spec w callerA "law" 29 [.list (ns.map .int)] (.bool true)) : rwL.row.Holds := by
  have hw : rwL.row.toRowW.promised := ⟨[.list []], by decide +kernel, by decide +kernel⟩
  refine ⟨said, hw, ⟨⟨open_bare, open_well, rfl⟩, hw.witness, fun w => ?_⟩⟩
  have hb := boot_open (p := pw) (N := 600) open_plain rfl fence_id w
  rw [← table_eq_tree] at hb
  obtain ⟨s₀, h1, e⟩ := Option.map_eq_some_iff.mp hb
  obtain ⟨s, h4, h5⟩ := Option.bind_eq_some_iff.mp h1
  obtain rfl : s = s₀ := Option.some.inj ((fence_id s).symm.trans h5)
  have A := AfterImport.of_importEnds h4
  refine ⟨⟨s, A⟩, fun s' hs' => ?_⟩
  obtain rfl : s' = s := AfterImport.unique hs' A
  have e0 : s' = S0 w s'.os := by
    obtain ⟨h, g, d, t, os⟩ := s'
    obtain ⟨rfl, rfl, rfl, rfl⟩ : h = boot_heap w.params ∧ g = ⟨[]⟩ ∧ d = boot_drawn ∧ t = boot_toks := by simpa using e
    rfl
  obtain ⟨s₁, h6, h7, h8⟩ := law_ok spec w s'.os (fun s₁ b => rwL.row.writes = true ∧ madeByTheTop (S0 w s'.os) s₁ b) (rwL.row.writes = false)
    (fun s₁ h' => rwL.row.writes = true → namesKept pw rwL.row.keeps s₁.heap h' ∧ ∀ x ∈ clm.records, ∀ a, classAt s₁.heap x.1 = some a → recordClass h' a x.1 (x.2.map (·.1)) = true) (fun _ _ h => by cases h)
  refine ⟨s', h5, by rw [e0], s₁, by rw [e0]; exact h6, fun n hn => ?_, (fun x hx => by cases (show x ∈ ([] : List (Str × List (Str × WShape))) from hx)), (fun x hx => by cases (show x ∈ ([] : List (Str × List (Str × WShape))) from hx)), ?_⟩
  · obtain rfl : n = "law" := by
      have : n ∈ (["law"] : List Str) := hn
      simpa using this
    exact h7
  · rw [← e0] at h8
    exact h8
end Mine

end
open PySem PySem.W PyProof.Rows
set_option maxHeartbeats 8000000 in
theorem PySem.Challenge.cw_pd0064_01_holds : PySem.Challenge.rw_pd0064_01.Holds := by
  exact PySem.W.holds_law Mine.said_law fun said => Mine.row_of said fun w ns hn => Mine.law_all (by decide +kernel) rfl (by decide +kernel) rfl hn
