import PyProof.Rows.All
import Wide.All
import OpenK.AllK
import Wide.FinOn
import PySem.Challenge.RW_ta0064_01
set_option Elab.async false
set_option maxRecDepth 100000
set_option linter.all false
section
open PySem PySem.W PySem.Calls PyProof.Rows
namespace Mine

/-- data -/
inductive D where
  | none
  | bool (b : Bool)
  | int (i : Int)
  | str (x : Str)
  | list (ds : List D)
  | tup (ds : List D)
  | fn (v : Value)

/-- a list without a dictionary of its own -/
def PList (h : Heap) (a : Addr) (xs : Array Value) : Prop := h.IsList a xs ∧ h.NoDictAt (.ref a)

mutual
/-- the heap bears the datum at the value; W: lists that may still be turned -/
inductive Rep (W : List Addr) (h : Heap) : Value → D → Prop
  | none : Rep W h .none .none
  | bool (b : Bool) : Rep W h (.bool b) (.bool b)
  | int (i : Int) (t : Tok) : Rep W h (.int i t) (.int i)
  | str (x : Str) (t : Tok) : Rep W h (.str x t) (.str x)
  | fn (v : Value) : Rep W h v (.fn v)
  | list {a : Addr} {vs : List Value} {ds : List D} : a ∉ W → PList h a vs.toArray → Reps W h vs ds → Rep W h (.ref a) (.list ds)
  | tup {a : Addr} {vs : List Value} {ds : List D} : h.IsTuple a vs.toArray → Reps W h vs ds → Rep W h (.ref a) (.tup ds)
inductive Reps (W : List Addr) (h : Heap) : List Value → List D → Prop
  | nil : Reps W h [] []
  | cons {v : Value} {vs : List Value} {d : D} {ds : List D} : Rep W h v d → Reps W h vs ds → Reps W h (v :: vs) (d :: ds)
end

-- what a value of a datum is
section
variable {W : List Addr} {h : Heap} {v : Value}
theorem Rep.inv {v : Value} {d : D} (r : Rep W h v d) : match d with
    | .none => v = .none
    | .bool b => v = .bool b
    | .int i => ∃ t, v = .int i t
    | .str x => ∃ t, v = .str x t
    | .fn f => v = f
    | .list ds => ∃ a vs, v = .ref a ∧ a ∉ W ∧ PList h a vs.toArray ∧ Reps W h vs ds
    | .tup ds => ∃ a vs, v = .ref a ∧ h.IsTuple a vs.toArray ∧ Reps W h vs ds := by
  cases r with
  | none => rfl
  | bool b => rfl
  | int i t => exact ⟨t, rfl⟩
  | str x t => exact ⟨t, rfl⟩
  | fn f => rfl
  | list a b c => exact ⟨_, _, rfl, a, b, c⟩
  | tup a b => exact ⟨_, _, rfl, a, b⟩
theorem Rep.nonI (r : Rep W h v .none) : v = .none := r.inv
theorem Rep.boolI {b : Bool} (r : Rep W h v (.bool b)) : v = .bool b := r.inv
theorem Rep.intI {i : Int} (r : Rep W h v (.int i)) : ∃ t, v = .int i t := r.inv
theorem Rep.strI {x : Str} (r : Rep W h v (.str x)) : ∃ t, v = .str x t := r.inv
theorem Rep.fnI {f : Value} (r : Rep W h v (.fn f)) : v = f := r.inv
theorem Rep.listI {ds : List D} (r : Rep W h v (.list ds)) : ∃ a vs, v = .ref a ∧ a ∉ W ∧ PList h a vs.toArray ∧ Reps W h vs ds := r.inv
theorem Rep.tupI {ds : List D} (r : Rep W h v (.tup ds)) : ∃ a vs, v = .ref a ∧ h.IsTuple a vs.toArray ∧ Reps W h vs ds := r.inv
theorem Reps.inv {vs : List Value} {ds : List D} (r : Reps W h vs ds) : match ds with
    | [] => vs = []
    | d :: ds => ∃ v ws, vs = v :: ws ∧ Rep W h v d ∧ Reps W h ws ds := by
  cases r with
  | nil => rfl
  | cons a b => exact ⟨_, _, rfl, a, b⟩
theorem Reps.nilI {vs : List Value} (r : Reps W h vs []) : vs = [] := r.inv
theorem Reps.consI {vs : List Value} {d : D} {ds : List D} (r : Reps W h vs (d :: ds)) : ∃ v ws, vs = v :: ws ∧ Rep W h v d ∧ Reps W h ws ds := r.inv
theorem Reps.oneI {vs : List Value} {d : D} (r : Reps W h vs [d]) : ∃ v, vs = [v] ∧ Rep W h v d := by
  obtain ⟨v, ws, rfl, a, b⟩ := r.consI
  exact ⟨v, by rw [b.nilI], a⟩
theorem Reps.twoI {vs : List Value} {d e : D} (r : Reps W h vs [d, e]) : ∃ v w, vs = [v, w] ∧ Rep W h v d ∧ Rep W h w e := by
  obtain ⟨v, ws, rfl, a, b⟩ := r.consI
  obtain ⟨w, rfl, c⟩ := b.oneI
  exact ⟨v, w, rfl, a, c⟩
theorem Reps.threeI {vs : List Value} {d e f : D} (r : Reps W h vs [d, e, f]) : ∃ v w u, vs = [v, w, u] ∧ Rep W h v d ∧ Rep W h w e ∧ Rep W h u f := by
  obtain ⟨v, ws, rfl, a, b⟩ := r.consI
  obtain ⟨w, u, rfl, c⟩ := b.twoI
  exact ⟨v, w, u, rfl, a, c⟩
end

theorem Rep.mono {W W' : List Addr} {h h' : Heap} (hl : ∀ a xs, a ∉ W → PList h a xs → a ∉ W' ∧ PList h' a xs) (ht : ∀ a xs, h.IsTuple a xs → h'.IsTuple a xs)
    {v : Value} {d : D} (r : Rep W h v d) : Rep W' h' v d :=
  Rep.rec (motive_1 := fun v d _ => Rep W' h' v d) (motive_2 := fun vs ds _ => Reps W' h' vs ds) .none .bool .int .str .fn (fun hw h1 _ q => .list (hl _ _ hw h1).1 (hl _ _ hw h1).2 q) (fun h1 _ q => .tup (ht _ _ h1) q) .nil (fun _ _ a q => .cons a q) r
theorem Reps.all {W : List Addr} {h : Heap} {P : Value → D → Prop} (hp : ∀ v d, Rep W h v d → P v d) {Q : List Value → List D → Prop} (h0 : Q [] []) (h1 : ∀ v vs d ds, P v d → Reps W h vs ds → Q vs ds → Q (v :: vs) (d :: ds)) {vs : List Value} {ds : List D} (r : Reps W h vs ds) : Q vs ds := by
  induction ds generalizing vs with
  | nil => rw [r.nilI]; exact h0
  | cons d ds ih =>
    obtain ⟨v, ws, rfl, a, b⟩ := r.consI
    exact h1 _ _ _ _ (hp _ _ a) b (ih b)
theorem Reps.mono {W W' : List Addr} {h h' : Heap} (hl : ∀ a xs, a ∉ W → PList h a xs → a ∉ W' ∧ PList h' a xs) (ht : ∀ a xs, h.IsTuple a xs → h'.IsTuple a xs)
    {vs : List Value} {ds : List D} (r : Reps W h vs ds) : Reps W' h' vs ds :=
  r.all (Q := fun vs ds => Reps W' h' vs ds) (fun _ _ a => a.mono hl ht) .nil fun _ _ _ _ a _ q => .cons a q

theorem Reps.len {W : List Addr} {h : Heap} {vs : List Value} {ds : List D} (r : Reps W h vs ds) : vs.length = ds.length :=
  r.all (P := fun _ _ => True) (Q := fun vs ds => vs.length = ds.length) (fun _ _ _ => trivial) rfl fun _ _ _ _ _ _ q => congrArg (· + 1) q
theorem Reps.append {W : List Addr} {h : Heap} {ws : List Value} {es : List D} (q : Reps W h ws es) {vs : List Value} {ds : List D} (r : Reps W h vs ds) : Reps W h (vs ++ ws) (ds ++ es) :=
  r.all (Q := fun vs ds => Reps W h (vs ++ ws) (ds ++ es)) (fun _ _ a => a) q fun _ _ _ _ a _ q => .cons a q
theorem Reps.one {W : List Addr} {h : Heap} {v : Value} {d : D} (q : Rep W h v d) : Reps W h [v] [d] := .cons q .nil
theorem Reps.get {W : List Addr} {h : Heap} {vs : List Value} {ds : List D} (r : Reps W h vs ds) {k : Nat} {d : D} (e : ds[k]? = some d) : ∃ v, vs[k]? = some v ∧ Rep W h v d := by
  induction ds generalizing vs k with
  | nil => cases e
  | cons d' ds ih =>
    obtain ⟨v, ws, rfl, a, b⟩ := r.consI
    cases k with
    | zero => exact ⟨v, rfl, Option.some.inj e ▸ a⟩
    | succ k => exact ih b e
theorem Reps.drop {W : List Addr} {h : Heap} {vs : List Value} {ds : List D} (r : Reps W h vs ds) (k : Nat) : Reps W h (vs.drop k) (ds.drop k) := by
  induction k generalizing vs ds with
  | zero => exact r
  | succ k ih =>
    cases ds with
    | nil => rw [r.nilI]; exact .nil
    | cons d ds =>
      obtain ⟨v, ws, rfl, a, b⟩ := r.consI
      exact ih b
theorem Reps.take {W : List Addr} {h : Heap} {vs : List Value} {ds : List D} (r : Reps W h vs ds) (k : Nat) : Reps W h (vs.take k) (ds.take k) := by
  induction k generalizing vs ds with
  | zero => exact .nil
  | succ k ih =>
    cases ds with
    | nil => rw [r.nilI]; exact .nil
    | cons d ds =>
      obtain ⟨v, ws, rfl, a, b⟩ := r.consI
      exact .cons a (ih b)

/-- an object that only one name can turn: a list's items, an iterator over a list -/
inductive Own where
  | list (ds : List D)
  | iter (ds : List D) (i : Nat)
  | fn (o : Obj)

/-- the ground of a run: the program, its world, the written part, the state at the law's start, the code table of the one maker of lambdas -/
structure Gd where
  prog : Program
  w : World
  K : Frag
  s1 : Shared
  T : Addr
  C : Addr
  q : Str
  mg : Str → Option Value
  mb : Str → Option Value

/-- the table of inner codes: each is a code of the name q -/
def TabInv (G : Gd) (h : Heap) : Prop :=
  ∃ ps : Array Value, h.get? G.T = some (tabObj ps) ∧ TriplesOk ps.toList ∧ ∀ pos cv, codeAmong pos ps.toList = some cv → ∃ q, h.CodeRec cv q

structure GdOk (G : Gd) : Prop where
  K : G.K.In G.s1.heap
  g : G.s1.heap.Ns mainGlobals G.mg
  b : G.s1.heap.Ns builtinsNs G.mb
  lim : G.s1.heap.NoLimit
  hd : CodeHd G.s1.heap G.C G.T
  tab : ∃ ps, G.s1.heap.get? G.T = some (tabObj ps)
  KT : ∀ a o, G.K.lookup a = some o → a ≠ G.T
  gens : G.s1.gens = #[]
  bat : G.s1.heap.BuiltinsAt G.mg G.T
  mbs : ∀ x : Str, x ≠ "__name__" → G.mb x = bootBuiltins x

structure Good (G : Gd) (s : Shared) : Prop where
  ok : GdOk G
  same : ∃ h tk, s = { G.s1 with heap := h, toks := tk }
  keep : ∀ b o, b ≠ G.T → G.s1.heap.get? b = some o → s.heap.get? b = some o
  tab : TabInv G s.heap

/-- from s to s': frames' objects F may get other slots, the objects O may turn, all else stands -/
structure Step (G : Gd) (F O : List Addr) (s s' : Shared) : Prop where
  same : ∃ h tk, s' = { s with heap := h, toks := tk }
  keep : ∀ b o, b ≠ G.T → b ∉ F → b ∉ O → s.heap.get? b = some o → s'.heap.get? b = some o
  data : ∀ b o, b ≠ G.T → b ∉ O → s.heap.get? b = some o → ∃ o', s'.heap.get? b = some o' ∧ o'.cls = o.cls ∧ o'.data = o.data
  tab : TabInv G s.heap → TabInv G s'.heap
  dic : ∀ b o, b ≠ G.T → b ∉ O → s.heap.get? b = some o → ∀ o', s'.heap.get? b = some o' → o'.dict = o.dict

theorem tabInv_keep {G : Gd} {h h' : Heap} (k : ∀ b o, (h.get? b = some o) → (b = G.T ∨ ∃ vs, o.data = .fields vs) → h'.get? b = some o) (x : TabInv G h) : TabInv G h' := by
  obtain ⟨ps, h1, h2, h3⟩ := x
  refine ⟨ps, k _ _ h1 (.inl rfl), h2, fun pos cv e => ?_⟩
  obtain ⟨q, c, o, vs, t, rfl, g, d, r⟩ := h3 pos cv e
  exact ⟨q, c, o, vs, t, rfl, k _ _ g (.inr ⟨vs, d⟩), d, r⟩

theorem Step.of_keep {G : Gd} {F O : List Addr} {s : Shared} {h' : Heap} {tk : Nat} (k : ∀ b o, s.heap.get? b = some o → h'.get? b = some o) : Step G F O s { s with heap := h', toks := tk } :=
  ⟨⟨_, _, rfl⟩, fun b o _ _ _ e => k b o e, fun b o _ _ e => ⟨o, k b o e, rfl, rfl⟩, tabInv_keep fun b o e _ => k b o e, fun b o _ _ e o' e' => by have := k b o e; rw [show ({ s with heap := h', toks := tk } : Shared).heap = h' from rfl] at e'; rw [e'] at this; cases this; rfl⟩
theorem Step.refl {G : Gd} {F O : List Addr} {s : Shared} : Step G F O s s := Step.of_keep (h' := s.heap) (tk := s.toks) fun _ _ e => e
theorem Step.toks {G : Gd} {F O : List Addr} {s : Shared} {tk : Nat} : Step G F O s { s with toks := tk } := Step.of_keep (h' := s.heap) fun _ _ e => e
theorem Step.trans {G : Gd} {F O : List Addr} {s s' s'' : Shared} (x : Step G F O s s') (y : Step G F O s' s'') : Step G F O s s'' := by
  obtain ⟨⟨h1, t1, rfl⟩, k1, d1, tb1, y1⟩ := x
  obtain ⟨⟨h2, t2, rfl⟩, k2, d2, tb2, y2⟩ := y
  refine ⟨⟨h2, t2, rfl⟩, fun b o a1 a2 a3 e => k2 b o a1 a2 a3 (k1 b o a1 a2 a3 e), fun b o a1 a2 e => ?_, fun q => tb2 (tb1 q), fun b o a1 a2 e o' e' => ?_⟩
  · obtain ⟨o1, e1, c1, f1⟩ := d1 b o a1 a2 e
    obtain ⟨o2, e2, c2, f2⟩ := d2 b o1 a1 a2 e1
    exact ⟨o2, e2, c2.trans c1, f2.trans f1⟩
  · obtain ⟨o1, e1, _⟩ := d1 b o a1 a2 e
    exact (y2 b o1 a1 a2 e1 o' e').trans (y1 b o a1 a2 e o1 e1)
theorem Step.mono {G : Gd} {F F' O O' : List Addr} {s s' : Shared} (x : Step G F O s s') (hF : ∀ b ∈ F, s.heap.get? b ≠ none → b ∈ F' ∨ b ∈ O') (hO : ∀ b ∈ O, s.heap.get? b ≠ none → b ∈ O') : Step G F' O' s s' :=
  ⟨x.same, fun b o a1 a2 a3 e => x.keep b o a1 (fun q => (hF b q (by rw [e]; exact Option.some_ne_none _)).elim a2 a3) (fun q => a3 (hO b q (by rw [e]; exact Option.some_ne_none _))) e,
    fun b o a1 a2 e => x.data b o a1 (fun q => a2 (hO b q (by rw [e]; exact Option.some_ne_none _))) e, x.tab, fun b o a1 a2 e => x.dic b o a1 (fun q => a2 (hO b q (by rw [e]; exact Option.some_ne_none _))) e⟩
theorem Step.weak {G : Gd} {F O : List Addr} {s s' : Shared} (x : Step G F [] s s') : Step G F O s s' := x.mono (fun _ h _ => .inl h) fun _ h _ => nomatch h

/-- what an object is known by: its class and its data -/
def At (h : Heap) (a : Addr) (P : Value → Data → Prop) : Prop := ∃ o, h.get? a = some o ∧ P o.cls o.data
theorem ne_T {G : Gd} {s : Shared} (g : Good G s) {a : Addr} {o : Obj} (e : s.heap.get? a = some o) (h : o.cls ≠ .none) : a ≠ G.T := by
  rintro rfl
  obtain ⟨ps, h1, _⟩ := g.tab
  rw [h1] at e; cases e; exact h rfl
theorem ne_T' {G : Gd} {s : Shared} (g : Good G s) {a : Addr} {o : Obj} (e : s.heap.get? a = some o) (h : ∀ vs, o.data ≠ .fields vs) : a ≠ G.T := by
  rintro rfl
  obtain ⟨ps, h1, _⟩ := g.tab
  rw [h1] at e; cases e; exact h _ rfl

theorem Step.list {G : Gd} {F O : List Addr} {s s' : Shared} (x : Step G F O s s') (g : Good G s) {a : Addr} {xs : Array Value} (hO : a ∉ O) (h : s.heap.IsList a xs) : s'.heap.IsList a xs := by
  obtain ⟨o, e, c, n, d⟩ := h
  obtain ⟨o', e', c', d'⟩ := x.data a o (ne_T g e (by rw [c]; intro q; cases q)) hO e
  exact ⟨o', e', c'.trans c, n, d'.trans d⟩
theorem Step.plist {G : Gd} {F O : List Addr} {s s' : Shared} (x : Step G F O s s') (g : Good G s) {a : Addr} {xs : Array Value} (hO : a ∉ O) (h : PList s.heap a xs) : PList s'.heap a xs := by
  refine ⟨x.list g hO h.1, ?_⟩
  obtain ⟨o, e, c, _⟩ := h.1
  have hT := ne_T g e (by rw [c]; intro q; cases q)
  obtain ⟨o', e', _⟩ := x.data a o hT hO e
  exact ⟨o', e', (x.dic a o hT hO e o' e').trans (h.2.of e)⟩
theorem PList.push {h : Heap} {a : Addr} {xs : Array Value} (x : PList h a xs) (o : Obj) : PList (h.push o) a xs := ⟨x.1.push o, x.2.keeps fun b o' e => Heap.get?_push_of_some _ e⟩
theorem PList.keeps {h h' : Heap} {a : Addr} {xs : Array Value} (x : PList h a xs) (k : ∀ b o, h.get? b = some o → h'.get? b = some o) : PList h' a xs := ⟨x.1.at fun o e => k _ o e, x.2.keeps k⟩
theorem Step.tuple {G : Gd} {F O : List Addr} {s s' : Shared} (x : Step G F O s s') (g : Good G s) {a : Addr} {xs : Array Value} (hO : a ∉ O) (h : s.heap.IsTuple a xs) : s'.heap.IsTuple a xs := by
  obtain ⟨o, e, c, n, d⟩ := h
  obtain ⟨o', e', c', d'⟩ := x.data a o (ne_T g e (by rw [c]; intro q; cases q)) hO e
  exact ⟨o', e', c'.trans c, n, d'.trans d⟩
theorem Step.ns {G : Gd} {F O : List Addr} {s s' : Shared} (x : Step G F O s s') (g : Good G s) {a : Addr} {m : Str → Option Value} (hO : a ∉ O) (h : s.heap.Ns a m) : s'.heap.Ns a m := by
  obtain ⟨o, es, ep, e, d, r⟩ := h
  obtain ⟨o', e', c', d'⟩ := x.data a o (ne_T' g e (by rw [d]; intro vs q; cases q)) hO e
  exact ⟨o', es, ep, e', d'.trans d, r⟩
theorem Step.cell {G : Gd} {F O : List Addr} {s s' : Shared} (x : Step G F O s s') (g : Good G s) {a : Addr} {v : Option Value} (hO : a ∉ O) (h : s.heap.IsCell a v) : s'.heap.IsCell a v := by
  obtain ⟨o, e, d⟩ := h
  obtain ⟨o', e', c', d'⟩ := x.data a o (ne_T' g e (by rw [d]; intro vs q; cases q)) hO e
  exact ⟨o', e', d'.trans d⟩
end Mine
end
section
open PySem PySem.W PySem.Calls PyProof.Rows
namespace Mine

abbrev Sig := List (Addr × Own)
abbrev Env0 := List (Str × D)

/-- an owned object stands as told -/
inductive OwnAt (W : List Addr) (h : Heap) (a : Addr) : Own → Prop
  | list {vs : List Value} {ds : List D} : PList h a vs.toArray → Reps W h vs ds → OwnAt W h a (.list ds)
  | iter {l : Addr} {vs : List Value} {ds : List D} {i : Nat} : h.IsListIter a l i → l ∉ W → PList h l vs.toArray → Reps W h vs ds → OwnAt W h a (.iter ds i)
  | fn {o : Obj} {fd : FuncData} {c : Addr} {q : Str} : h.get? a = some o → o.cls = .type "function" → o.data = .func fd → fd.code = .ref c → c ∉ W → h.CodeRec (.ref c) q → OwnAt W h a (.fn o)

abbrev wOf (σ : Sig) : List Addr := σ.map (·.1)
structure SigOk (σ : Sig) (h : Heap) : Prop where
  at_ : ∀ p ∈ σ, OwnAt (wOf σ) h p.1 p.2
  nodup : (wOf σ).Nodup

/-- the judgement's standing part -/
structure Cx where
  G : Gd
  n : Nat
  sc : Scope
  cd : Value
  ρ : Env0
  σ : Sig

/-- a name of the frame bears the datum -/
def NameAt (W : List Addr) (env : Env) (h : Heap) (x : Str) (d : D) : Prop :=
  (env.kindOf x = some .local ∧ ∃ m v, h.Ns env.locals m ∧ m x = some v ∧ Rep W h v d) ∨
  ((env.kindOf x = some .cell ∨ env.kindOf x = some .free) ∧ ∃ c v, env.cells.lookup x = some c ∧ h.IsCell c (some v) ∧ Rep W h v d)

structure Room (G : Gd) (n : Nat) (A : Around) (F : List Addr) (h : Heap) : Prop where
  handled : A.handled = none
  depth : A.depth + n ≤ 1000
  units : A.units + 100 * n ≤ 9000
  frames : ∃ outer, A.frames = some outer ∧ F = outer.filterMap (·.frame) ∧ ∀ e ∈ outer, e.scope.kind = .function ∧ ∃ L, e.frame = some L
  fresh : ∀ L ∈ F, G.s1.heap.get? L = none ∧ L ≠ G.T ∧ ∃ o es ep, h.get? L = some o ∧ o.data = .dict es ep

structure EnvOk (X : Cx) (env : Env) (h : Heap) : Prop where
  scope : env.scope = X.sc
  kind : X.sc.kind = .function
  globals : env.globals = mainGlobals
  builtins : env.builtins = builtinsNs
  code : env.code = X.cd
  names : ∀ p ∈ X.ρ, NameAt (wOf X.σ) env h p.1 p.2
  nice : ∀ p ∈ X.ρ, (p.1 == ("__debug__" : Str)) = false ∧ (p.1 == ("__classdict__" : Str)) = false
  loc : ∃ m, h.Ns env.locals m
  locNew : X.G.s1.heap.get? env.locals = none
  has : ∀ x, X.sc.names.lookup x = some .cell ∨ X.sc.names.lookup x = some .free → ∃ c, env.cells.lookup x = some c
  cell : ∀ x c, env.cells.lookup x = some c → (∃ v, h.IsCell c v) ∧ X.G.s1.heap.get? c = none
  apart : ∀ x y c, env.cells.lookup x = some c → env.cells.lookup y = some c → x = y

structure In (X : Cx) (A : Around) (env : Env) (F : List Addr) (s : Shared) : Prop where
  good : Good X.G s
  room : Room X.G X.n A F s.heap
  env : EnvOk X env s.heap
  sig : SigOk X.σ s.heap
  own : ∀ a ∈ wOf X.σ, X.G.s1.heap.get? a = none

theorem OwnAt.live {W : List Addr} {h : Heap} {a : Addr} {w : Own} (x : OwnAt W h a w) : ∃ o, h.get? a = some o ∧ o.cls ≠ .none ∧ (∀ es ep, o.data ≠ .dict es ep) ∧ (∀ v, o.data ≠ .cell v) ∧ o.cls ≠ .type "tuple" := by
  cases x with
  | list h1 _ => obtain ⟨o, e, c, n, d⟩ := h1.1; exact ⟨o, e, (by rw [c]; exact fun q => Value.noConfusion q), (by rw [d]; exact fun _ _ q => Data.noConfusion q), (by rw [d]; exact fun _ q => Data.noConfusion q), (by rw [c]; decide)⟩
  | iter h1 _ _ _ => obtain ⟨o, e, c, d⟩ := h1; exact ⟨o, e, (by rw [c]; exact fun q => Value.noConfusion q), (by rw [d]; exact fun _ _ q => Data.noConfusion q), (by rw [d]; exact fun _ q => Data.noConfusion q), (by rw [c]; decide)⟩

  | fn e c d _ _ _ => exact ⟨_, e, (by rw [c]; exact fun q => Value.noConfusion q), (by rw [d]; exact fun _ _ q => Data.noConfusion q), (by rw [d]; exact fun _ q => Data.noConfusion q), (by rw [c]; decide)⟩

theorem Good.step {G : Gd} {F O : List Addr} {s s' : Shared} (g : Good G s) (hF : ∀ L ∈ F, G.s1.heap.get? L = none) (hO : ∀ L ∈ O, G.s1.heap.get? L = none) (x : Step G F O s s') : Good G s' := by
  obtain ⟨h', tk, rfl⟩ := x.same
  obtain ⟨h, t, e⟩ := g.same
  refine ⟨g.ok, ⟨h', tk, by rw [e]⟩, fun b o hb e1 => x.keep b o hb (fun q => by rw [hF b q] at e1; cases e1) (fun q => by rw [hO b q] at e1; cases e1) (g.keep b o hb e1), x.tab g.tab⟩

theorem Step.rep {G : Gd} {F O W : List Addr} {s s' : Shared} (x : Step G F O s s') (g : Good G s) (hO : ∀ b ∈ O, b ∈ W ∨ ∀ o, s.heap.get? b = some o → ∀ xs n, o.data ≠ .seq xs n)
    (hW : ∀ b ∈ W, ∀ xs, ¬ s.heap.IsTuple b xs) : (∀ {v d}, Rep W s.heap v d → Rep W s'.heap v d) ∧ (∀ {vs ds}, Reps W s.heap vs ds → Reps W s'.heap vs ds) := by
  have hl : ∀ a xs, a ∉ W → PList s.heap a xs → a ∉ W ∧ PList s'.heap a xs := fun a xs hw hl => by
    refine ⟨hw, x.plist g (fun q => ?_) hl⟩
    obtain ⟨o, e, c, n, d⟩ := hl.1
    exact (hO a q).elim hw fun k => k o e _ _ d
  have ht : ∀ a xs, s.heap.IsTuple a xs → s'.heap.IsTuple a xs := fun a xs ht => by
    refine x.tuple g (fun q => ?_) ht
    rcases hO a q with k | k
    · exact hW a k xs ht
    · obtain ⟨o, e, c, n, d⟩ := ht
      exact k o e _ _ d
  exact ⟨fun r => r.mono hl ht, fun r => r.mono hl ht⟩

theorem SigOk.noTuple {σ : Sig} {h : Heap} (S : SigOk σ h) : ∀ b ∈ wOf σ, ∀ xs, ¬ h.IsTuple b xs := by
  intro b hb xs ht
  obtain ⟨p, hp, rfl⟩ := List.mem_map.mp hb
  obtain ⟨o, e, _, _, _, h1⟩ := (S.at_ p hp).live
  obtain ⟨o', e', c, _⟩ := ht
  rw [e] at e'; cases e'; exact h1 c

theorem Step.rep0 {G : Gd} {F : List Addr} {σ : Sig} {s s' : Shared} (x : Step G F [] s s') (g : Good G s) (S : SigOk σ s.heap) :
    (∀ {v d}, Rep (wOf σ) s.heap v d → Rep (wOf σ) s'.heap v d) ∧ (∀ {vs ds}, Reps (wOf σ) s.heap vs ds → Reps (wOf σ) s'.heap vs ds) :=
  x.rep g (fun _ q => nomatch q) S.noTuple

theorem Room.step {G : Gd} {n : Nat} {A : Around} {F O : List Addr} {s s' : Shared} (r : Room G n A F s.heap) (x : Step G F O s s') (hO : ∀ b ∈ O, b ∉ F ∨ ∃ o es ep, s'.heap.get? b = some o ∧ o.data = .dict es ep) : Room G n A F s'.heap := by
  refine ⟨r.handled, r.depth, r.units, r.frames, fun L hL => ?_⟩
  obtain ⟨a, b, o, es, ep, e, d⟩ := r.fresh L hL
  refine ⟨a, b, ?_⟩
  by_cases q : L ∈ O
  · exact (hO L q).elim (fun k => absurd hL k) id
  · obtain ⟨o', e', _, d'⟩ := x.data L o b q e
    exact ⟨o', es, ep, e', d'.trans d⟩

theorem Room.freshF {G : Gd} {n : Nat} {A : Around} {F : List Addr} {h : Heap} (r : Room G n A F h) : ∀ L ∈ F, G.s1.heap.get? L = none := fun L hL => (r.fresh L hL).1

theorem iter_at {h h' : Heap} {a l : Addr} {i : Nat} (x : h.IsListIter a l i) (k : ∀ o, h.get? a = some o → ∃ o', h'.get? a = some o' ∧ o'.cls = o.cls ∧ o'.data = o.data) : h'.IsListIter a l i := by
  obtain ⟨o, e, c, d⟩ := x
  obtain ⟨o', e', c', d'⟩ := k o e
  exact ⟨o', e', c'.trans c, d'.trans d⟩

theorem triples_1 {l : List Value} {x : Str} {t : Tok} (h : TriplesOk l) (e : l[1]? = some (.str x t)) : False := by
  cases l with
  | nil => cases e
  | cons a l =>
    cases l with
    | nil => cases e
    | cons b l =>
      have e' : b = .str x t := Option.some.inj e
      subst e'
      cases a <;> exact h
theorem codeRec_ne_T {G : Gd} {s : Shared} (g : Good G s) {c : Addr} {q : Str} (r : s.heap.CodeRec (.ref c) q) : c ≠ G.T := by
  intro hc
  obtain ⟨c', o, vs, t, e0, e, d, h⟩ := r
  have e0' := Value.ref.inj e0
  subst e0' hc
  obtain ⟨ps, h1, h2, _⟩ := g.tab
  have e1 := Option.some.inj (h1.symm.trans e)
  subst e1
  have d' : ps = vs := Data.fields.inj d
  subst d'
  exact triples_1 h2 (Array.getElem?_toList.symm ▸ h)
theorem Step.codeRec {G : Gd} {F O : List Addr} {s s' : Shared} (x : Step G F O s s') (g : Good G s) {c : Addr} {q : Str} (hO : c ∉ O) (r : s.heap.CodeRec (.ref c) q) : s'.heap.CodeRec (.ref c) q := by
  have hT := codeRec_ne_T g r
  obtain ⟨c, o, vs, t, e0, e, d, h⟩ := r
  cases e0
  obtain ⟨o', e', _, d'⟩ := x.data _ o hT hO e
  exact ⟨c, o', vs, t, rfl, e', d'.trans d, h⟩
theorem Step.ownAt {G : Gd} {F O : List Addr} {W : List Addr} {s s' : Shared} (x : Step G F O s s') (g : Good G s) (hF : ∀ L ∈ F, ∃ o es ep, s.heap.get? L = some o ∧ o.data = .dict es ep) (hr : ∀ {vs ds}, Reps W s.heap vs ds → Reps W s'.heap vs ds) {a : Addr} {w : Own} (ha : a ∉ O) (hl : ∀ l, l ∉ W → l ∈ O → (∀ xs, ¬ s.heap.IsList l xs) ∧ ∀ q, ¬ s.heap.CodeRec (.ref l) q) (h : OwnAt W s.heap a w) : OwnAt W s'.heap a w := by
  cases h with
  | list h1 r => exact .list (x.plist g ha h1) (hr r)
  | iter h1 hw h2 r =>
    refine .iter (iter_at h1 fun o e => x.data a o (ne_T g e ?_) ha e) hw (x.plist g (fun q => (hl _ hw q).1 _ h2.1) h2) (hr r)
    obtain ⟨o', e', c, d⟩ := h1
    rw [e] at e'; cases e'; rw [c]; intro q; cases q
  | fn e c d k hw r =>
    refine .fn (x.keep a _ (ne_T g e (by rw [c]; exact fun q => Value.noConfusion q)) (fun q => ?_) ha e) c d k hw (x.codeRec g (fun q => (hl _ hw q).2 _ r) r)
    obtain ⟨o', es, ep, e', d'⟩ := hF a q
    rw [e] at e'; cases e'; rw [d] at d'; cases d'

theorem Room.dicts {G : Gd} {n : Nat} {A : Around} {F : List Addr} {h : Heap} (r : Room G n A F h) : ∀ L ∈ F, ∃ o es ep, h.get? L = some o ∧ o.data = .dict es ep := fun L hL => (r.fresh L hL).2.2
theorem SigOk.step0 {G : Gd} {F : List Addr} {σ : Sig} {s s' : Shared} (S : SigOk σ s.heap) (g : Good G s) (hF : ∀ L ∈ F, ∃ o es ep, s.heap.get? L = some o ∧ o.data = .dict es ep) (x : Step G F [] s s') : SigOk σ s'.heap :=
  ⟨fun p hp => x.ownAt g hF (fun r => (x.rep0 g S).2 r) (fun q => nomatch q) (fun _ _ q => nomatch q) (S.at_ p hp), S.nodup⟩

theorem NameAt.step0 {G : Gd} {F : List Addr} {σ : Sig} {s s' : Shared} {env : Env} {y : Str} {d : D} (S : SigOk σ s.heap) (g : Good G s) (x : Step G F [] s s') (h : NameAt (wOf σ) env s.heap y d) : NameAt (wOf σ) env s'.heap y d := by
  rcases h with ⟨k, m, v, h1, h2, h3⟩ | ⟨k, c, v, h1, h2, h3⟩
  · exact .inl ⟨k, m, v, x.ns g (fun q => nomatch q) h1, h2, (x.rep0 g S).1 h3⟩
  · exact .inr ⟨k, c, v, h1, x.cell g (fun q => nomatch q) h2, (x.rep0 g S).1 h3⟩

theorem EnvOk.step0 {X : Cx} {F : List Addr} {s s' : Shared} {env : Env} (S : SigOk X.σ s.heap) (g : Good X.G s) (x : Step X.G F [] s s') (h : EnvOk X env s.heap) : EnvOk X env s'.heap :=
  ⟨h.scope, h.kind, h.globals, h.builtins, h.code, fun p e => (h.names p e).step0 S g x, h.nice, (let ⟨m, hm⟩ := h.loc; ⟨m, x.ns g (fun q => nomatch q) hm⟩), h.locNew, h.has,
    fun y c e => (let ⟨⟨v, hv⟩, n⟩ := h.cell y c e; ⟨⟨v, x.cell g (fun q => nomatch q) hv⟩, n⟩), h.apart⟩

theorem In.step {X : Cx} {A : Around} {env : Env} {F : List Addr} {s s' : Shared} (I : In X A env F s) (x : Step X.G F [] s s') : In X A env F s' :=
  ⟨I.good.step I.room.freshF (fun _ q => absurd q List.not_mem_nil) x, I.room.step x (fun _ q => absurd q List.not_mem_nil), I.env.step0 I.sig I.good x, I.sig.step0 I.good I.room.dicts x, I.own⟩
theorem In.rep {X : Cx} {A : Around} {env : Env} {F : List Addr} {s s' : Shared} (I : In X A env F s) (x : Step X.G F [] s s') {v : Value} {d : D} (r : Rep (wOf X.σ) s.heap v d) : Rep (wOf X.σ) s'.heap v d := (x.rep0 I.good I.sig).1 r
theorem In.reps {X : Cx} {A : Around} {env : Env} {F : List Addr} {s s' : Shared} (I : In X A env F s) (x : Step X.G F [] s s') {v : List Value} {d : List D} (r : Reps (wOf X.σ) s.heap v d) : Reps (wOf X.σ) s'.heap v d := (x.rep0 I.good I.sig).2 r

/-- an expression yields the datum, from every good state -/
def Ev (X : Cx) (e : Expr) (d : D) : Prop :=
  ∀ A env F s, In X A env F s → wpAny (model X.G.prog X.G.w) A (eval e env) (fun v s' => Step X.G F [] s s' ∧ Rep (wOf X.σ) s'.heap v d) (fun _ _ => False) s
/-- a test comes out as b -/
def Tv (X : Cx) (e : Expr) (b : Bool) : Prop :=
  ∀ A env F s, In X A env F s → wpAny (model X.G.prog X.G.w) A (isTrue e env (eval e env)) (fun c s' => Step X.G F [] s s' ∧ c = b) (fun _ _ => False) s
/-- a list of expressions -/
def Evs (X : Cx) (es : List Expr) (ds : List D) : Prop :=
  ∀ A env F s pos, In X A env F s → wpAny (model X.G.prog X.G.w) A (spliced (backTo pos (starEach es env))) (fun vs s' => Step X.G F [] s s' ∧ Reps (wOf X.σ) s'.heap vs ds) (fun _ _ => False) s

section
variable {X : Cx}

theorem Ev.int {i : Int} {k pos} : Ev X (.Constant (.int i) k pos) (.int i) := fun _ _ _ _ _ => wpAny_Constant_int ⟨Step.toks, .int ..⟩
theorem Ev.str {x : Str} {k pos} : Ev X (.Constant (.str x) k pos) (.str x) := fun _ _ _ _ _ => wpAny_Constant_str ⟨Step.toks, .str ..⟩
theorem Ev.bool {b : Bool} {k pos} : Ev X (.Constant (.bool b) k pos) (.bool b) := fun _ _ _ _ _ => wpAny_Constant_bool ⟨Step.refl, .bool ..⟩
theorem Ev.cnone {k pos} : Ev X (.Constant .none k pos) .none := fun _ _ _ _ _ => wpAny_Constant_none ⟨Step.refl, .none⟩
/-- a name of the frame's -/
theorem Ev.name {x : Str} {pos : Pos} {d : D} (h : (x, d) ∈ X.ρ) : Ev X (.Name x pos) d := by
  intro A env F s I
  have hx := I.env.nice _ h
  have hk : env.scope.kind = .function := by rw [I.env.scope]; exact I.env.kind
  rcases I.env.names _ h with ⟨k, m, v, h1, h2, h3⟩ | ⟨k | k, c, v, h1, h2, h3⟩
  · exact wpAny_Name (wpAny_loadName_local hk k h1 h2 ⟨Step.refl, h3⟩) hx.1
  · exact wpAny_Name (wpAny_loadName_cell hk k h1 h2 ⟨Step.refl, h3⟩) hx.1
  · exact wpAny_Name (wpAny_loadName_free hk k h1 h2 ⟨Step.refl, h3⟩ hx.2) hx.1

theorem mg_of' {G : Gd} (O : GdOk G) {x : Str} {v : Value} (e : nsIn G.K mainGlobals x = some (some v)) : G.mg x = some v := mg_of O.K O.g e
theorem mg_none' {G : Gd} (O : GdOk G) {x : Str} (e : nsIn G.K mainGlobals x = some Option.none) : G.mg x = Option.none := mg_none_of O.K O.g e
theorem Good.g {G : Gd} {s : Shared} (g : Good G s) : s.heap.Ns mainGlobals G.mg := by
  obtain ⟨o, es, ep, e, d, r⟩ := g.ok.g
  refine ⟨o, es, ep, g.keep _ _ ?_ e, d, r⟩
  intro q
  obtain ⟨ps, h1⟩ := g.ok.tab
  rw [q, h1] at e; cases e; cases d
theorem Good.b {G : Gd} {s : Shared} (g : Good G s) : s.heap.Ns builtinsNs G.mb := by
  obtain ⟨o, es, ep, e, d, r⟩ := g.ok.b
  refine ⟨o, es, ep, g.keep _ _ ?_ e, d, r⟩
  intro q
  obtain ⟨ps, h1⟩ := g.ok.tab
  rw [q, h1] at e; cases e; cases d
theorem Good.lim {G : Gd} {s : Shared} (g : Good G s) : s.heap.NoLimit := by
  obtain ⟨mc, ⟨o, es, ep, e, d, r⟩, q0⟩ := g.ok.lim
  refine ⟨mc, ⟨o, es, ep, g.keep _ _ ?_ e, d, r⟩, q0⟩
  intro q
  obtain ⟨ps, h1⟩ := g.ok.tab
  rw [q, h1] at e; cases e; cases d
theorem Good.K {G : Gd} {s : Shared} (g : Good G s) : G.K.In s.heap := fun a o e => g.keep a o (g.ok.KT a o e) (g.ok.K a o e)

theorem loadGlobal_of {M : Model} {A : Around} {E : Value → Shared → Prop} {s : Shared} {env : Env} {x : Str} {v : Value} {mg : Str → Option Value} {Q : Value → Shared → Prop} (hg : s.heap.Ns env.globals mg) (hv : mg x = some v) (h : Q v s) : wpAny M A (loadGlobal env x) Q E s := by
  unfold loadGlobal
  refine wpAny_bind (wpAny_nsGet hg ?_)
  rw [hv]
  exact wpAny_pure h
theorem loadName_glob {env : Env} {x : Str} (hk : env.scope.kind = .function) (hl : env.kindOf x = some .globalImplicit) : loadName env x = loadGlobal env x := by
  unfold loadName
  simp only [Env.blockKind, hk, hl, ScopeKind.isAnnotationScope, Bool.false_and, Bool.false_eq_true, if_false]
/-- a global name that the text binds -/
theorem Ev.glob {x : Str} {pos : Pos} {v : Value} (hl : X.sc.names.lookup x = some .globalImplicit) (h : nsIn X.G.K mainGlobals x = some (some v)) (hx : (x == ("__debug__" : Str)) = false := by decide) : Ev X (.Name x pos) (.fn v) := by
  intro A env F s I
  have hk : env.scope.kind = .function := by rw [I.env.scope]; exact I.env.kind
  refine wpAny_Name ?_ hx
  rw [loadName_glob hk (by unfold Env.kindOf; rw [I.env.scope]; exact hl)]
  exact loadGlobal_of (by rw [I.env.globals]; exact I.good.g) (mg_of' I.good.ok h) ⟨Step.refl, .fn _⟩
/-- a built-in name -/
theorem Ev.blt {x : Str} {pos : Pos} {v : Value} (hl : X.sc.names.lookup x = some .globalImplicit) (h : nsIn X.G.K mainGlobals x = some Option.none) (hb : bootBuiltins x = some v) (hn : x ≠ "__name__" := by decide) (hx : (x == ("__debug__" : Str)) = false := by decide) : Ev X (.Name x pos) (.fn v) := by
  intro A env F s I
  have hk : env.scope.kind = .function := by rw [I.env.scope]; exact I.env.kind
  refine wpAny_Name ?_ hx
  rw [loadName_glob hk (by unfold Env.kindOf; rw [I.env.scope]; exact hl)]
  unfold loadGlobal
  refine wpAny_bind (wpAny_nsGet (by rw [I.env.globals]; exact I.good.g) ?_)
  rw [mg_none' I.good.ok h]
  refine wpAny_bind (wpAny_nsGet (by rw [I.env.builtins]; exact I.good.b) ?_)
  rw [I.good.ok.mbs x hn, hb]
  exact wpAny_pure ⟨Step.refl, .fn _⟩
end
theorem mem_look {l : Env0} {k : Str} {d : D} : l.lookup k = some d → (k, d) ∈ l := by
  induction l with
  | nil => intro h; cases h
  | cons p l ih =>
    intro h
    rw [List.lookup] at h
    split at h
    · rename_i q; cases h; rw [beq_iff_eq.mp q]; exact .head _
    · exact .tail _ (ih h)
/-- names that stand in both, told by their keys -/
theorem subK {l m : Env0} (h : l.map (fun p => m.lookup p.1) = l.map fun p => some p.2) : ∀ p ∈ l, p ∈ m := fun p hp => mem_look (List.map_inj_left.mp h p hp)
theorem subF {l m : Env0} {ns : List (Str × NameKind)} (h : l.map (fun p => (m.lookup p.1, ns.lookup p.1)) = l.map fun p => (some p.2, some .free)) : ∀ p ∈ l, p ∈ m ∧ ns.lookup p.1 = some .free := fun p hp =>
  ⟨mem_look (Prod.mk.inj (List.map_inj_left.mp h p hp)).1, (Prod.mk.inj (List.map_inj_left.mp h p hp)).2⟩
end Mine
end
section
local macro_rules | `(tactic| omega) => `(tactic| lia)
open PySem PySem.W PySem.Calls PyProof.Rows
namespace Mine

section
variable {X : Cx}

abbrev Gives1 (X : Cx) (A : Around) (F : List Addr) (s : Shared) (t : Sem Value) (d : D) : Prop :=
  wpAny (model X.G.prog X.G.w) A t (fun v s' => Step X.G F [] s s' ∧ Rep (wOf X.σ) s'.heap v d) (fun _ _ => False) s

/-- an operator upon two data -/
def Bin (X : Cx) (f : Value → Value → Sem Value) (a b d : D) : Prop :=
  ∀ A env F s va vb, In X A env F s → Rep (wOf X.σ) s.heap va a → Rep (wOf X.σ) s.heap vb b → Gives1 X A F s (f va vb) d
def Un (X : Cx) (f : Value → Sem Value) (a d : D) : Prop :=
  ∀ A env F s va, In X A env F s → Rep (wOf X.σ) s.heap va a → Gives1 X A F s (f va) d

theorem two {A : Around} {env : Env} {F : List Addr} {s : Shared} {l r : Expr} {a b : D} {f : Value → Value → Sem Value} {d : D} (I : In X A env F s) (ha : Ev X l a) (hb : Ev X r b) (ho : Bin X f a b d) :
    wpAny (model X.G.prog X.G.w) A (eval l env) (fun va s₁ => wpAny (model X.G.prog X.G.w) A (eval r env) (fun vb s₂ => wpAny (model X.G.prog X.G.w) A (f va vb)
      (fun v s' => Step X.G F [] s s' ∧ Rep (wOf X.σ) s'.heap v d) (fun _ _ => False) s₂) (fun _ _ => False) s₁) (fun _ _ => False) s :=
  wpAny_mono (ha A env F s I) (fun va s₁ ⟨x₁, r₁⟩ => wpAny_mono (hb A env F s₁ (I.step x₁)) (fun vb s₂ ⟨x₂, r₂⟩ =>
    wpAny_mono (ho A env F s₂ va vb ((I.step x₁).step x₂) ((I.step x₁).rep x₂ r₁) r₂) (fun _ _ ⟨x₃, r₃⟩ => ⟨(x₁.trans x₂).trans x₃, r₃⟩) fun _ _ e => e) fun _ _ e => e) fun _ _ e => e

theorem Ev.bin {l r : Expr} {op : Operator} {pos : Pos} {a b d : D} (ha : Ev X l a) (hb : Ev X r b) (ho : Bin X (binaryOp op) a b d) : Ev X (.BinOp l op r pos) d :=
  fun _ _ _ _ I => wpAny_BinOp (two I ha hb ho)
theorem Ev.cmp {l r : Expr} {op : CmpOp} {pos : Pos} {a b d : D} (ha : Ev X l a) (hb : Ev X r b) (ho : Bin X (compareOp op) a b d) (hm : behindInMarks op r = false := by with_unfolding_all rfl) : Ev X (.Compare l [op] [r] pos) d :=
  fun _ _ _ _ I => wpAny_Compare1 (two I ha hb ho) hm
theorem Ev.un {e : Expr} {op : UnaryOp} {pos : Pos} {a d : D} (ha : Ev X e a) (ho : Un X (unaryOp op) a d) : Ev X (.UnaryOp op e pos) d :=
  fun A env F s I => wpAny_UnaryOp (wpAny_mono (ha A env F s I) (fun va s₁ ⟨x₁, r₁⟩ => wpAny_mono (ho A env F s₁ va (I.step x₁) r₁) (fun _ _ ⟨x₂, r₂⟩ => ⟨x₁.trans x₂, r₂⟩) fun _ _ e => e) fun _ _ e => e)

theorem Tv.cmp {l r : Expr} {op : CmpOp} {pos : Pos} {a b : D} {c : Bool} (ha : Ev X l a) (hb : Ev X r b) (ho : Bin X (compareOp op) a b (.bool c)) (hm : behindInMarks op r = false := by with_unfolding_all rfl) : Tv X (.Compare l [op] [r] pos) c :=
  fun _ _ _ _ I => wpAny_isTrue_Compare1 (wpAny_mono (two I ha hb ho) (fun _ _ h => wpAny_mono h (fun _ _ h => wpAny_mono h (fun _ _ h => by
    rw [h.2.boolI]
    exact wpAny_truthy_bool ⟨h.1, rfl⟩) fun _ _ e => e) fun _ _ e => e) fun _ _ e => e) hm
theorem Tv.not {e : Expr} {pos : Pos} {c : Bool} (h : Tv X e c) : Tv X (.UnaryOp .Not e pos) (!c) :=
  fun A env F s I => wpAny_isTrue_Not (wpAny_mono (h A env F s I) (fun _ _ ⟨x, e⟩ => ⟨x, by rw [e]⟩) fun _ _ e => e)
theorem Tv.or2 {a b : Expr} {pos : Pos} {c d : Bool} (h : Tv X a c) (k : c = false → Tv X b d) : Tv X (.BoolOp .Or [a, b] pos) (c || d) :=
  fun A env F s I => wpAny_isTrue_BoolOp (wpAny_allTrue_Or_cons (wpAny_mono (h A env F s I) (fun c' s₁ ⟨x, e⟩ => by
    subst e
    cases c' with
    | true => exact ⟨x, rfl⟩
    | false => exact wpAny_allTrue_Or_cons (wpAny_mono (k rfl A env F s₁ (I.step x)) (fun c₂ s₂ ⟨y, e₂⟩ => by
        subst e₂
        cases c₂ with
        | true => exact ⟨x.trans y, rfl⟩
        | false => exact wpAny_allTrue_Or_nil ⟨x.trans y, rfl⟩) fun _ _ e => e)) fun _ _ e => e))

/-- the truth of a datum -/
def truthD : D → Bool
  | .none => false
  | .bool b => b
  | .int i => i != 0
  | .str x => (x.length : Int) != 0
  | _ => true
def flat : D → Bool
  | .none => true
  | .bool _ => true
  | .int _ => true
  | .str x => decide (x.length ≤ 1000000)
  | _ => false
theorem truthy_of {M : Model} {prog : Program} {w : World} {A : Around} {G : Gd} {F O W : List Addr} {s : Shared} {v : Value} {d : D} (r : Rep W s.heap v d) (hf : flat d = true) :
    wpAny (model prog w) A (truthy v) (fun c s' => Step G F O s s' ∧ c = truthD d) (fun _ _ => False) s := by
  cases d with
  | none => rw [r.nonI]; exact truthy_none ⟨Step.refl, rfl⟩
  | bool b => rw [r.boolI]; exact wpAny_truthy_bool ⟨Step.refl, rfl⟩
  | int i => obtain ⟨t, rfl⟩ := r.intI; exact PyProof.Rows.truthy_int ⟨Step.refl, rfl⟩
  | str x =>
    obtain ⟨t, rfl⟩ := r.strI
    have hx : x.length ≤ 1000000 := by simpa [flat] using hf
    exact PySem.P.truthy_str (by omega) ⟨Step.toks, rfl⟩
  | list | tup | fn => cases hf
theorem Tv.val {e : Expr} {d : D} (h : Ev X e d) (hf : flat d = true) (he : ∀ env whole, isTrue e env whole = (do let v ← whole; standAt e.pos; holding [v] (truthy v)) := by intro _ _; rfl) : Tv X e (truthD d) :=
  fun A env F s I => wpAny_isTrue_value (wpAny_mono (h A env F s I) (fun _ _ ⟨x, r⟩ => wpAny_mono (truthy_of (M := model X.G.prog X.G.w) r hf) (fun _ _ ⟨y, e⟩ => ⟨x.trans y, e⟩) fun _ _ e => e) fun _ _ e => e) (he _ _)

theorem Ev.ite {c a b : Expr} {pos : Pos} {t : Bool} {d : D} (h : Tv X c t) (ha : t = true → Ev X a d) (hb : t = false → Ev X b d) : Ev X (.IfExp c a b pos) d :=
  fun A env F s I => wpAny_IfExp (wpAny_mono (h A env F s I) (fun t' s₁ ⟨x, e⟩ => by
    subst e
    cases t' with
    | true => exact wpAny_mono (ha rfl A env F s₁ (I.step x)) (fun _ _ ⟨y, r⟩ => ⟨x.trans y, r⟩) fun _ _ e => e
    | false => exact wpAny_mono (hb rfl A env F s₁ (I.step x)) (fun _ _ ⟨y, r⟩ => ⟨x.trans y, r⟩) fun _ _ e => e) fun _ _ e => e)

-- ints
theorem Bin.ofInts {f : Value → Value → Sem Value} {i j : Int} {d : D} (h : ∀ A F s t u, Gives1 X A F s (f (.int i t) (.int j u)) d) : Bin X f (.int i) (.int j) d := fun A env F s va vb I ra rb => by
  obtain ⟨t, rfl⟩ := ra.intI
  obtain ⟨u, rfl⟩ := rb.intI
  exact h A F s t u
theorem Bin.add {i j : Int} : Bin X (binaryOp .Add) (.int i) (.int j) (.int (i + j)) :=
  .ofInts fun _ _ _ _ _ => PyProof.Rows.add_int ⟨Step.toks, .int ..⟩
theorem Bin.sub {i j : Int} : Bin X (binaryOp .Sub) (.int i) (.int j) (.int (i - j)) :=
  .ofInts fun _ _ _ _ _ => PyProof.Rows.sub_int ⟨Step.toks, .int ..⟩
theorem Bin.div {i j : Int} (hj : j ≠ 0) (hd : Builtin.divisionGoesByPylong i j = false) : Bin X (binaryOp .FloorDiv) (.int i) (.int j) (.int (i.fdiv j)) :=
  .ofInts fun _ _ _ _ _ => PyProof.Rows.floordiv_int hj ⟨Step.toks, .int ..⟩ (.inl hd)
theorem Bin.mod {i j : Int} (hj : j ≠ 0) : Bin X (binaryOp .Mod) (.int i) (.int j) (.int (i.fmod j)) :=
  .ofInts fun _ _ _ _ _ => PyProof.Rows.mod_int' hj ⟨Step.toks, .int ..⟩
theorem Bin.pow {i j : Int} (hj : 0 ≤ j) (hs : (Builtin.Int.intBits i : Int) * j ≤ 2 ^ 27) : Bin X (binaryOp .Pow) (.int i) (.int j) (.int (i ^ j.toNat)) :=
  .ofInts fun _ _ _ _ _ => PyProof.Rows.pow_int hj hs ⟨Step.toks, .int ..⟩
theorem Bin.shl {i j : Int} (hj : 0 ≤ j) (h1 : j ≤ 1000000) (hi : i.natAbs < 2 ^ 64) : Bin X (binaryOp .LShift) (.int i) (.int j) (.int (i * 2 ^ j.toNat)) :=
  .ofInts fun _ _ _ _ _ => PyProof.Rows.lshift_int_small hj h1 hi ⟨Step.toks, .int ..⟩
theorem Bin.shr {i j : Int} (hj : 0 ≤ j) : Bin X (binaryOp .RShift) (.int i) (.int j) (.int (i.fdiv (2 ^ j.toNat))) :=
  .ofInts fun _ _ _ _ _ => PyProof.Rows.rshift_int hj ⟨Step.toks, .int ..⟩
theorem Bin.and {i j : Int} : Bin X (binaryOp .BitAnd) (.int i) (.int j) (.int (Builtin.bitAnd i j)) :=
  .ofInts fun _ _ _ _ _ => PyProof.Rows.and_int ⟨Step.toks, .int ..⟩
theorem Un.neg {i : Int} : Un X (unaryOp .USub) (.int i) (.int (-i)) := fun A env F s va I ra => by
  obtain ⟨t, rfl⟩ := ra.intI
  exact PyProof.Rows.neg_int ⟨Step.toks, .int ..⟩
theorem Un.not {d : D} (hf : flat d = true) : Un X (unaryOp .Not) d (.bool (!truthD d)) := by
  rintro A env F s v _ r
  exact PyProof.Rows.not_of (wpAny_mono (truthy_of (M := model X.G.prog X.G.w) r hf) (fun _ _ ⟨x, e⟩ => ⟨x, by rw [e]; exact .bool _⟩) fun _ _ e => e)
theorem Bin.lt {i j : Int} : Bin X (compareOp .Lt) (.int i) (.int j) (.bool (decide (i < j))) :=
  .ofInts fun _ _ _ _ _ => PySem.P.lt_int ⟨Step.refl, .bool _⟩
theorem Bin.gt {i j : Int} : Bin X (compareOp .Gt) (.int i) (.int j) (.bool (decide (i > j))) :=
  .ofInts fun _ _ _ _ _ => PySem.P.gt_int ⟨Step.refl, .bool _⟩
theorem Bin.ge {i j : Int} : Bin X (compareOp .GtE) (.int i) (.int j) (.bool (decide (i ≥ j))) :=
  .ofInts fun _ _ _ _ _ => PySem.P.ge_int ⟨Step.refl, .bool _⟩
-- is
theorem Bin.isNot_bool {a b : Bool} : Bin X (compareOp .IsNot) (.bool a) (.bool b) (.bool (a != b)) := by
  intro A env F s va vb _ ra rb
  rw [ra.boolI, rb.boolI]
  refine wpAny_isNot_plain rfl ⟨Step.refl, ?_⟩
  rw [show (!(Value.bool a == Value.bool b)) = (a != b) from by cases a <;> cases b <;> rfl]; exact .bool _
def isNoneD : D → Bool
  | .none => true
  | .fn v => v == .none
  | _ => false
theorem isNone_rep {W : List Addr} {h : Heap} {v : Value} {d : D} (r : Rep W h v d) : (v == Value.none) = isNoneD d := by cases r <;> rfl
theorem Bin.is_none {d : D} : Bin X (compareOp .Is) d .none (.bool (isNoneD d)) := by
  intro A env F s v w _ r r'
  rw [r'.nonI]
  refine PySem.is_none ⟨Step.refl, ?_⟩
  rw [isNone_rep r]; exact .bool _
theorem Bin.isNot_none {d : D} : Bin X (compareOp .IsNot) d .none (.bool (!isNoneD d)) := by
  intro A env F s v w _ r r'
  rw [r'.nonI]
  refine PySem.isNot_none ⟨Step.refl, ?_⟩
  rw [isNone_rep r]; exact .bool _
-- displays
theorem Evs.nil : Evs X [] [] := fun _ _ _ _ _ _ => wpAny_items_nil ⟨Step.refl, .nil⟩
theorem Evs.cons {e : Expr} {es : List Expr} {d : D} {ds : List D} (h : Ev X e d) (k : Evs X es ds) (he : ∀ env, starEach (e :: es) env = (false, eval e env) :: starEach es env := by intro _; rfl) : Evs X (e :: es) (d :: ds) :=
  fun A env F s pos I => wpAny_items_cons (wpAny_mono (h A env F s I) (fun v s₁ ⟨x, r⟩ => wpAny_mono (k A env F s₁ pos (I.step x)) (fun vs s₂ ⟨y, q⟩ => ⟨x.trans y, .cons ((I.step x).rep y r) q⟩) fun _ _ e => e) fun _ _ e => e) (he env)

theorem step_push {G : Gd} {F O : List Addr} {s : Shared} {o : Obj} : Step G F O s { s with heap := s.heap.push o } := Step.of_keep (h' := s.heap.push o) (tk := s.toks) fun _ _ e => Heap.get?_push_of_some _ e
theorem new_notin {σ : Sig} {h : Heap} (S : SigOk σ h) : h.objs.size ∉ wOf σ := by
  intro q
  obtain ⟨p, hp, e⟩ := List.mem_map.mp q
  obtain ⟨o, e', _⟩ := (S.at_ p hp).live
  rw [e] at e'
  exact Nat.lt_irrefl _ (Heap.lt_size e')
theorem In.new_list {A : Around} {env : Env} {F : List Addr} {s : Shared} {vs : List Value} {ds : List D} (I : In X A env F s) (r : Reps (wOf X.σ) s.heap vs ds) :
    Rep (wOf X.σ) (s.heap.push { cls := .type "list", data := .seq vs.toArray }) (.ref s.heap.objs.size) (.list ds) :=
  .list (new_notin I.sig) ⟨⟨_, Heap.get?_push_size _ rfl, rfl, 0, rfl⟩, ⟨_, Heap.get?_push_size _ rfl, rfl⟩⟩ (I.reps (step_push (F := F)) r)
theorem In.new_tuple {A : Around} {env : Env} {F : List Addr} {s : Shared} {vs : List Value} {ds : List D} (I : In X A env F s) (r : Reps (wOf X.σ) s.heap vs ds) :
    Rep (wOf X.σ) (s.heap.push { cls := .type "tuple", data := .seq vs.toArray }) (.ref s.heap.objs.size) (.tup ds) :=
  .tup ⟨_, Heap.get?_push_size _ rfl, rfl, 0, rfl⟩ (I.reps (step_push (F := F)) r)
theorem Ev.tup {es : List Expr} {k : Nat} {pos : Pos} {ds : List D} (h : Evs X es ds) (hl : ds.length ≤ 1000 := by decide) : Ev X (.Tuple es k pos) (.tup ds) :=
  fun A env F s I => Tuple_ (wpAny_mono (h A env F s pos I) (fun vs s₁ ⟨x, r⟩ => wpAny_newTuple ⟨x.trans step_push, (I.step x).new_tuple r⟩ (by rw [r.len, sizeLine_eq]; omega)) fun _ _ e => e)
theorem Ev.list {es : List Expr} {pos : Pos} {ds : List D} (h : Evs X es ds) (hl : ds.length ≤ 1000 := by decide) : Ev X (.List es pos) (.list ds) :=
  fun A env F s I => List_ (wpAny_mono (h A env F s pos I) (fun vs s₁ ⟨x, r⟩ => wpAny_newList ⟨x.trans step_push, (I.step x).new_list r⟩ (by rw [r.len, sizeLine_eq]; omega)) fun _ _ e => e)
end
end Mine
end
section
open PySem PySem.W PySem.Calls PyProof.Rows
namespace Mine

abbrev Cx.setρ (X : Cx) (ρ : Env0) : Cx := { X with ρ := ρ }
abbrev niceName (x : Str) : Prop := (x == ("__debug__" : Str)) = false ∧ (x == ("__classdict__" : Str)) = false

section
variable {X : Cx} {A : Around} {env : Env} {F O : List Addr} {s s' : Shared}

theorem Step.of_but {G : Gd} {a : Addr} {h' : Heap} {tk : Nat} (hs : Heap.ExtBut a s.heap h') (hT : a ≠ G.T) (hf : ∀ o, s.heap.get? a = some o → ∀ vs, o.data ≠ .fields vs) : Step G F [a] s { s with heap := h', toks := tk } :=
  ⟨⟨_, _, rfl⟩, fun b o _ _ hb e => hs b o (fun q => hb (by rw [q]; exact .head _)) e, fun b o _ hb e => ⟨o, hs b o (fun q => hb (by rw [q]; exact .head _)) e, rfl, rfl⟩,
    tabInv_keep fun b o e k => hs b o (fun q => by
      subst q
      rcases k with k | ⟨vs, k⟩
      · exact hT k
      · exact hf o e vs k) e, fun b o _ hb e o' e' => by have := hs b o (fun q => hb (by rw [q]; exact .head _)) e; rw [show ({ s with heap := h', toks := tk } : Shared).heap = h' from rfl, this] at e'; cases e'; rfl⟩

theorem In.W_live (I : In X A env F s) {a : Addr} (h : a ∈ wOf X.σ) : ∃ o, s.heap.get? a = some o ∧ o.cls ≠ .none ∧ (∀ es ep, o.data ≠ .dict es ep) ∧ (∀ v, o.data ≠ .cell v) ∧ o.cls ≠ .type "tuple" := by
  obtain ⟨p, hp, rfl⟩ := List.mem_map.mp h
  exact (I.sig.at_ p hp).live

theorem In.stepO (I : In X A env F s) (x : Step X.G F O s s') (hnew : ∀ b ∈ O, X.G.s1.heap.get? b = none)
    (hk : ∀ b ∈ O, b ∉ wOf X.σ ∧ ∀ o, s.heap.get? b = some o → (∀ xs n, o.data ≠ .seq xs n) ∧ ∀ vs, o.data = .fields vs → ∀ x t, vs[1]? ≠ some (.str x t)) (hF : ∀ b ∈ O, b ∉ F ∨ ∃ o es ep, s'.heap.get? b = some o ∧ o.data = .dict es ep)
    {ρ : Env0} (hρ : (∀ {v d}, Rep (wOf X.σ) s.heap v d → Rep (wOf X.σ) s'.heap v d) → ∀ p ∈ ρ, NameAt (wOf X.σ) env s'.heap p.1 p.2) (hn : ∀ p ∈ ρ, niceName p.1)
    (hl : ∃ m, s'.heap.Ns env.locals m) (hc : ∀ x c, env.cells.lookup x = some c → ∃ v, s'.heap.IsCell c v) : In (X.setρ ρ) A env F s' := by
  have hr := x.rep I.good (W := wOf X.σ) (fun b hb => .inr fun o e => ((hk b hb).2 o e).1) I.sig.noTuple
  refine ⟨I.good.step I.room.freshF hnew x, I.room.step x hF, ⟨I.env.scope, I.env.kind, I.env.globals, I.env.builtins, I.env.code, hρ hr.1, hn, hl, I.env.locNew, I.env.has, fun y c e => ⟨hc y c e, (I.env.cell y c e).2⟩, I.env.apart⟩,
    ⟨fun p hp => x.ownAt I.good I.room.dicts (fun r => hr.2 r) (fun q => (hk _ q).1 (List.mem_map.mpr ⟨p, hp, rfl⟩)) (fun l _ q => ⟨fun xs hl => ?_, fun qn hl => ?_⟩) (I.sig.at_ p hp), I.sig.nodup⟩, I.own⟩
  · obtain ⟨o, e, _, n, d⟩ := hl
    exact ((hk l q).2 o e).1 _ _ d
  · obtain ⟨c, o, vs, t, e0, e, d, r⟩ := hl
    cases e0
    exact ((hk _ q).2 o e).2 _ d _ _ r

/-- a local name is stored -/
theorem In.storeL {y : Str} {v : Value} {d : D} (I : In X A env F s) (hk : X.sc.names.lookup y = some .local) {ρ : Env0} (h1 : ∀ p ∈ ρ, p ∈ X.ρ) (h2 : ∀ p ∈ ρ, p.1 ≠ y) (hy : niceName y) (r : Rep (wOf X.σ) s.heap v d) :
    wpAny (model X.G.prog X.G.w) A (storeName env y v) (fun _ s' => Step X.G F [env.locals] s s' ∧ In (X.setρ ((y, d) :: ρ)) A env F s') (fun _ _ => False) s := by
  obtain ⟨m, hm⟩ := I.env.loc
  have hkind : env.kindOf y = some .local := by unfold Env.kindOf; rw [I.env.scope]; exact hk
  have hsc : env.scope.kind = .function := by rw [I.env.scope]; exact I.env.kind
  obtain ⟨oL, esL, epL, eL, dL, _⟩ := id hm
  have hfL : ∀ o, s.heap.get? env.locals = some o → ∀ vs, o.data ≠ .fields vs := fun o e vs => by rw [eL] at e; cases e; rw [dL]; exact fun q => nomatch q
  have hT : env.locals ≠ X.G.T := ne_T' I.good eL (hfL _ eL)
  refine wpAny_storeName_local hkind hm (fun h' hn hs => ?_) (by rw [hsc]; rfl)
  have x : Step X.G F [env.locals] s { s with heap := h', toks := s.toks + 1 } := Step.of_but hs.extBut hT hfL
  have hW : env.locals ∉ wOf X.σ := fun q => by obtain ⟨o, e, _, h, _⟩ := I.W_live q; rw [eL] at e; cases e; exact h _ _ dL
  have hcell : ∀ c v, s.heap.IsCell c v → c ≠ env.locals := by
    rintro c v ⟨o, e, d⟩ rfl
    rw [eL] at e; cases e; rw [dL] at d; cases d
  refine ⟨x, I.stepO x ?_ ?_ ?_ (ρ := (y, d) :: ρ) ?_ ?_ ⟨_, hn⟩ ?_⟩
  · intro b hb; rw [List.mem_singleton.mp hb]; exact I.env.locNew
  · intro b hb; rw [List.mem_singleton.mp hb]; exact ⟨hW, fun o e => by rw [eL] at e; cases e; rw [dL]; exact ⟨fun _ _ q => Data.noConfusion q, fun _ q => Data.noConfusion q⟩⟩
  · intro b hb; rw [List.mem_singleton.mp hb]
    obtain ⟨o, es, ep, e, d, _⟩ := hn
    exact .inr ⟨o, es, ep, e, d⟩
  · intro hr p hp
    rcases List.mem_cons.mp hp with rfl | hp
    · exact .inl ⟨hkind, _, v, hn, if_pos rfl, hr r⟩
    · rcases I.env.names p (h1 p hp) with ⟨k, m', w, e1, e2, e3⟩ | ⟨k, c, w, e1, e2, e3⟩
      · refine .inl ⟨k, _, w, hn, ?_, hr e3⟩
        rw [if_neg (h2 p hp)]
        have : m' p.1 = m p.1 := by
          obtain ⟨o1, es1, ep1, a1, b1, _, c1⟩ := e1
          obtain ⟨o2, es2, ep2, a2, b2, _, c2⟩ := hm
          rw [a1] at a2; cases a2; rw [b1] at b2; cases b2
          rw [← c1, ← c2]
        rw [← this]; exact e2
      · exact .inr ⟨k, c, w, e1, e2.sameBut hs (hcell c _ e2), hr e3⟩
  · intro p hp
    rcases List.mem_cons.mp hp with rfl | hp
    · exact hy
    · exact I.env.nice p (h1 p hp)
  · intro z c e
    obtain ⟨⟨v', hv'⟩, _⟩ := I.env.cell z c e
    exact ⟨v', hv'.sameBut hs (hcell c _ hv')⟩

/-- a name that inner blocks see is stored -/
theorem In.storeC {y : Str} {v : Value} {d : D} (I : In X A env F s) (hk : X.sc.names.lookup y = some .cell) {ρ : Env0} (h1 : ∀ p ∈ ρ, p ∈ X.ρ) (h2 : ∀ p ∈ ρ, p.1 ≠ y) (hy : niceName y) (r : Rep (wOf X.σ) s.heap v d) :
    wpAny (model X.G.prog X.G.w) A (storeName env y v) (fun _ s' => ∃ c, env.cells.lookup y = some c ∧ Step X.G F [c] s s' ∧ In (X.setρ ((y, d) :: ρ)) A env F s') (fun _ _ => False) s := by
  obtain ⟨c, hc⟩ := I.env.has y (.inl hk)
  obtain ⟨⟨v₀, hv₀⟩, hnew⟩ := I.env.cell y c hc
  obtain ⟨m, hm⟩ := I.env.loc
  have hkind : env.kindOf y = some .cell := by unfold Env.kindOf; rw [I.env.scope]; exact hk
  have hsc : env.scope.kind = .function := by rw [I.env.scope]; exact I.env.kind
  obtain ⟨oc, ec, dc⟩ := id hv₀
  have hfc : ∀ o, s.heap.get? c = some o → ∀ vs, o.data ≠ .fields vs := fun o e vs => by rw [ec] at e; cases e; rw [dc]; exact fun q => nomatch q
  have hT : c ≠ X.G.T := ne_T' I.good ec (hfc _ ec)
  refine wpAny_storeName_cell hsc hkind hc hv₀ fun h' hn hs => ⟨c, hc, ?_⟩
  have x : Step X.G F [c] s { s with heap := h', toks := s.toks } := Step.of_but hs.extBut hT hfc
  have hW : c ∉ wOf X.σ := fun q => by obtain ⟨o, e, _, _, h, _⟩ := I.W_live q; rw [ec] at e; cases e; exact h _ dc
  have hcF : c ∉ F := fun q => by
    obtain ⟨_, _, o, es, ep, e, d⟩ := I.room.fresh c q
    rw [ec] at e; cases e; rw [dc] at d; cases d
  have hL : env.locals ≠ c := by
    rintro rfl
    obtain ⟨o, es, ep, e, d, _⟩ := hm
    rw [ec] at e; cases e; rw [dc] at d; cases d
  refine ⟨x, I.stepO x ?_ ?_ ?_ (ρ := (y, d) :: ρ) ?_ ?_ ⟨m, hm.sameBut hs hL⟩ ?_⟩
  · intro b hb; rw [List.mem_singleton.mp hb]; exact hnew
  · intro b hb; rw [List.mem_singleton.mp hb]; exact ⟨hW, fun o e => by rw [ec] at e; cases e; rw [dc]; exact ⟨fun _ _ q => Data.noConfusion q, fun _ q => Data.noConfusion q⟩⟩
  · intro b hb; rw [List.mem_singleton.mp hb]; exact .inl hcF
  · intro hr p hp
    rcases List.mem_cons.mp hp with rfl | hp
    · exact .inr ⟨.inl hkind, c, v, hc, hn, hr r⟩
    · rcases I.env.names p (h1 p hp) with ⟨k, m', w, e1, e2, e3⟩ | ⟨k, c', w, e1, e2, e3⟩
      · exact .inl ⟨k, m', w, e1.sameBut hs hL, e2, hr e3⟩
      · exact .inr ⟨k, c', w, e1, e2.sameBut hs (fun q => h2 p hp (I.env.apart _ _ _ e1 (q ▸ hc))), hr e3⟩
  · intro p hp
    rcases List.mem_cons.mp hp with rfl | hp
    · exact hy
    · exact I.env.nice p (h1 p hp)
  · intro z c' e
    by_cases q : c' = c
    · subst q; exact ⟨_, hn⟩
    · obtain ⟨⟨v', hv'⟩, _⟩ := I.env.cell z c' e
      exact ⟨v', hv'.sameBut hs q⟩

/-- what a frame's stores may turn -/
def ownA (env : Env) : List Addr := env.locals :: env.cells.filterMap fun p => env.cells.lookup p.1
theorem ownA_cell {y : Str} {c : Addr} (h : env.cells.lookup y = some c) : c ∈ ownA env := List.mem_cons_of_mem _ (List.mem_filterMap.mpr ⟨(y, c), mem_of_lookup h, h⟩)
theorem In.ownLive (I : In X A env F s) {b : Addr} (hb : b ∈ ownA env) : ∃ o, s.heap.get? b = some o ∧ ((∃ es ep, o.data = .dict es ep) ∨ ∃ v, o.data = .cell v) ∧ X.G.s1.heap.get? b = none := by
  rcases List.mem_cons.mp hb with q | q
  · obtain ⟨m, o, es, ep, e, d, _⟩ := I.env.loc
    exact ⟨o, by rw [q]; exact e, .inl ⟨_, _, d⟩, by rw [q]; exact I.env.locNew⟩
  · obtain ⟨p, _, q⟩ := List.mem_filterMap.mp q
    obtain ⟨⟨v, o, e, d⟩, n⟩ := I.env.cell _ _ q
    exact ⟨o, e, .inr ⟨_, d⟩, n⟩

/-- the cell that a store into the name turns, if any -/
def cellT (env : Env) (y : Str) : List Addr := if env.kindOf y = some .cell then (env.cells.lookup y).toList else []
theorem mem_cellT {y : Str} {b : Addr} (h : b ∈ cellT env y) : env.kindOf y = some .cell ∧ env.cells.lookup y = some b := by
  unfold cellT at h
  split at h
  · rename_i e; exact ⟨e, Option.mem_toList.mp h⟩
  · cases h
/-- a store, of either kind; T: which cells it may turn -/
def storable (sc : Scope) (y : Str) : Bool := match sc.names.lookup y with
  | some .local => true
  | some .cell => true
  | _ => false
theorem In.store {y : Str} {v : Value} {d : D} (I : In X A env F s) (hk : storable X.sc y = true) {ρ : Env0} (h1 : ∀ p ∈ ρ, p ∈ X.ρ) (h2 : ∀ p ∈ ρ, p.1 ≠ y) (hy : niceName y) (r : Rep (wOf X.σ) s.heap v d) :
    wpAny (model X.G.prog X.G.w) A (storeName env y v) (fun _ s' => Step X.G F (env.locals :: cellT env y) s s' ∧ In (X.setρ ((y, d) :: ρ)) A env F s') (fun _ _ => False) s := by
  unfold storable at hk
  split at hk
  · rename_i e
    exact wpAny_mono (I.storeL e h1 h2 hy r) (fun _ s' ⟨x, i⟩ => ⟨x.mono (fun _ h _ => .inl h) fun b h _ => by rw [List.mem_singleton.mp h]; exact .head _, i⟩) fun _ _ e => e
  · rename_i e
    exact wpAny_mono (I.storeC e h1 h2 hy r) (fun _ s' ⟨c, hc, x, i⟩ => ⟨x.mono (fun _ h _ => .inl h) fun b h _ => by rw [List.mem_singleton.mp h]; unfold cellT; rw [if_pos (by unfold Env.kindOf; rw [I.env.scope]; exact e), hc]; exact .tail _ (.head _), i⟩) fun _ _ e => e
  · cases hk
end
end Mine
end
section
open PySem PySem.W PySem.Calls PyProof.Rows
namespace Mine

abbrev Cx.setσ (X : Cx) (σ : Sig) : Cx := { X with σ := σ }
/-- the frame's objects that stores into these names may turn -/
def ownT (env : Env) (keys : List Str) : List Addr := env.locals :: keys.flatMap fun k => cellT env k

/-- objects that an iterator turns: records that are no code's -/
def Turner (h : Heap) (b : Addr) : Prop := ∃ o fs, h.get? b = some o ∧ o.cls ≠ .none ∧ o.data = .fields fs ∧ ∀ x t, fs[1]? ≠ some (.str x t)

/-- an iterator that hands out n items, each bound by the target -/
structure Turn (G : Gd) (A : Around) (target : Expr) (keys : List Str) (I : Addr) (n : Nat) (bs : Nat → Env0) (fp wr : List Addr) (St : List Addr → Nat → Heap → Prop) : Prop where
  sub : ∀ b ∈ wr, b ∈ fp
  keep : ∀ W i h h', St W i h → (∀ b ∈ fp, ∀ o, h.get? b = some o → h'.get? b = some o) → (∀ {vs ds}, Reps W h vs ds → Reps W h' vs ds) → St W i h'
  grow : ∀ W i h a, St W i h → h.get? a = none → St (a :: W) i h
  live : ∀ W i h, St W i h → ∀ b ∈ fp, ∃ o, h.get? b = some o ∧ o.cls ≠ .none ∧ (∀ es ep, o.data ≠ .dict es ep) ∧ (∀ v, o.data ≠ .cell v)
  turner : ∀ W i h, St W i h → ∀ b ∈ wr, Turner h b
  item : ∀ (X : Cx) env F i s, X.G = G → i < n → St (wOf X.σ) i s.heap → (∀ b ∈ wr, b ∉ wOf X.σ ∧ G.s1.heap.get? b = none) → In X A env F s → (keys.all fun k => storable X.sc k) = true → (∀ p ∈ X.ρ, p.1 ∉ keys) →
    wpAny (model G.prog G.w) A (pyNext (.ref I)) (fun r s₁ => ∃ v, r = some v ∧ wpAny (model G.prog G.w) A (letOwnedTupleGo target (.ref I) v) (fun _ s₂ => wpAny (model G.prog G.w) A (assign target env v)
      (fun _ s₃ => Step G F (wr ++ ownT env keys) s s₃ ∧ St (wOf X.σ) (i + 1) s₃.heap ∧ In (X.setρ (bs i ++ X.ρ)) A env F s₃) (fun _ _ => False) s₂) (fun _ _ => False) s₁) (fun _ _ => False) s
  done : ∀ (X : Cx) env F s, X.G = G → St (wOf X.σ) n s.heap → (∀ b ∈ wr, b ∉ wOf X.σ ∧ G.s1.heap.get? b = none) → In X A env F s →
    wpAny (model G.prog G.w) A (pyNext (.ref I)) (fun r s₁ => r = none ∧ Step G F wr s s₁ ∧ In X A env F s₁) (fun _ _ => False) s
  self : ∀ W i (s : Shared) (Q : Value → Shared → Prop) (E : Value → Shared → Prop), St W i s.heap → Q (.ref I) s → wpAny (model G.prog G.w) A (pyIter (.ref I)) Q E s

theorem grow_of {W : List Addr} {h : Heap} {a : Addr} (hn : h.get? a = Option.none) : ∀ b xs, b ∉ W → PList h b xs → b ∉ a :: W ∧ PList h b xs := fun b xs hw h1 =>
  ⟨fun q => (List.mem_cons.mp q).elim (fun e => by obtain ⟨o, e', _⟩ := h1.1; rw [e, hn] at e'; cases e') hw, h1⟩
theorem Rep.grow {W : List Addr} {h : Heap} {a : Addr} (hn : h.get? a = Option.none) {v : Value} {d : D} (r : Rep W h v d) : Rep (a :: W) h v d := r.mono (grow_of hn) fun _ _ e => e
theorem Reps.grow {W : List Addr} {h : Heap} {a : Addr} (hn : h.get? a = Option.none) {vs : List Value} {ds : List D} (r : Reps W h vs ds) : Reps (a :: W) h vs ds := r.mono (grow_of hn) fun _ _ e => e
theorem Rep.less {W W' : List Addr} {h : Heap} (hs : ∀ a ∈ W', a ∈ W) {v : Value} {d : D} (r : Rep W h v d) : Rep W' h v d := r.mono (fun _ _ hw h1 => ⟨fun q => hw (hs _ q), h1⟩) fun _ _ e => e
theorem Reps.less {W W' : List Addr} {h : Heap} (hs : ∀ a ∈ W', a ∈ W) {vs : List Value} {ds : List D} (r : Reps W h vs ds) : Reps W' h vs ds := r.mono (fun _ _ hw h1 => ⟨fun q => hw (hs _ q), h1⟩) fun _ _ e => e

section
variable {X : Cx} {A : Around} {env : Env} {F O wr : List Addr} {s s' : Shared}

theorem Step.of_turn {G : Gd} {h' : Heap} {tk : Nat} (g : Good G s) (k : ∀ b o, b ∉ wr → s.heap.get? b = some o → h'.get? b = some o) (ht : ∀ b ∈ wr, Turner s.heap b) : Step G F wr s { s with heap := h', toks := tk } := by
  refine ⟨⟨_, _, rfl⟩, fun b o _ _ hb e => k b o hb e, fun b o _ hb e => ⟨o, k b o hb e, rfl, rfl⟩, ?_, fun b o _ hb e o' e' => by have := k b o hb e; rw [show ({ s with heap := h', toks := tk } : Shared).heap = h' from rfl, this] at e'; cases e'; rfl⟩
  rintro ⟨ps, h1, h2, h3⟩
  have hT : G.T ∉ wr := fun q => by
    obtain ⟨o, fs, e, hc, _⟩ := ht _ q
    rw [h1] at e; cases e; exact hc rfl
  refine ⟨ps, k _ _ hT h1, h2, fun pos cv e => ?_⟩
  obtain ⟨q0, c, o, vs, t, rfl, g1, d, r⟩ := h3 pos cv e
  refine ⟨q0, c, o, vs, t, rfl, k _ _ (fun q => ?_) g1, d, r⟩
  obtain ⟨o', fs, e', _, d', hn⟩ := ht _ q
  rw [g1] at e'; cases e'; rw [d] at d'; cases d'; exact hn _ _ r

/-- the state behind a turn of the iterator -/
theorem In.turn {h' : Heap} {tk : Nat} (I : In X A env F s) (k : ∀ b o, b ∉ wr → s.heap.get? b = some o → h'.get? b = some o) (ht : ∀ b ∈ wr, Turner s.heap b) (hw : ∀ b ∈ wr, b ∉ wOf X.σ ∧ X.G.s1.heap.get? b = none) :
    Step X.G F wr s { s with heap := h', toks := tk } ∧ In X A env F { s with heap := h', toks := tk } ∧ (∀ {vs ds}, Reps (wOf X.σ) s.heap vs ds → Reps (wOf X.σ) h' vs ds) := by
  have x : Step X.G F wr s { s with heap := h', toks := tk } := Step.of_turn I.good k ht
  have hk : ∀ b ∈ wr, b ∉ wOf X.σ ∧ ∀ o, s.heap.get? b = some o → (∀ xs n, o.data ≠ .seq xs n) ∧ ∀ vs, o.data = .fields vs → ∀ x t, vs[1]? ≠ some (.str x t) := fun b hb => ⟨(hw b hb).1, fun o e => by
    obtain ⟨o', fs, e', _, d', hn⟩ := ht b hb
    rw [e] at e'; cases e'; rw [d']
    exact ⟨fun _ _ q => Data.noConfusion q, fun vs q x t r => by cases q; exact hn x t r⟩⟩
  have hr := x.rep I.good (W := wOf X.σ) (fun b hb => .inr fun o e => ((hk b hb).2 o e).1) I.sig.noTuple
  have nd : ∀ b ∈ wr, ∀ o, s.heap.get? b = some o → (∀ es ep, o.data ≠ .dict es ep) ∧ ∀ v, o.data ≠ .cell v := fun b hb o e => by
    obtain ⟨o', fs, e', _, d', _⟩ := ht b hb
    rw [e] at e'; cases e'; rw [d']; exact ⟨(fun _ _ q => Data.noConfusion q), (fun _ q => Data.noConfusion q)⟩
  have hloc : ∀ m, s.heap.Ns env.locals m → ({ s with heap := h', toks := tk } : Shared).heap.Ns env.locals m := fun m hm => x.ns I.good (fun q => by
    obtain ⟨o, es, ep, e, d, _⟩ := hm
    exact (nd _ q o e).1 _ _ d) hm
  have hcel : ∀ c v, s.heap.IsCell c v → ({ s with heap := h', toks := tk } : Shared).heap.IsCell c v := fun c v hc => x.cell I.good (fun q => by
    obtain ⟨o, e, d⟩ := hc
    exact (nd _ q o e).2 _ d) hc
  refine ⟨x, ?_, fun r => hr.2 r⟩
  have I' := I.stepO x (fun b hb => (hw b hb).2) hk (fun b hb => .inl fun q => by
    obtain ⟨_, _, o, es, ep, e, d⟩ := I.room.fresh b q
    exact (nd b hb o e).1 _ _ d) (ρ := X.ρ) (fun hr p hp => ?_) I.env.nice (let ⟨m, hm⟩ := I.env.loc; ⟨m, hloc m hm⟩) (fun y c e => let ⟨⟨v, hv⟩, _⟩ := I.env.cell y c e; ⟨v, hcel c v hv⟩)
  · exact I'
  · rcases I.env.names p hp with ⟨k, m', w, e1, e2, e3⟩ | ⟨k, c, w, e1, e2, e3⟩
    · exact .inl ⟨k, m', w, hloc _ e1, e2, hr e3⟩
    · exact .inr ⟨k, c, w, e1, hcel _ _ e2, hr e3⟩

theorem ownT_one {y : Str} : ownT env [y] = env.locals :: cellT env y := by simp [ownT]

/-- a plain iterator and a name -/
theorem Turn.name {G : Gd} {y : Str} {py : Pos} {I : Addr} {fp : List Addr} {n : Nat} {P : Nat → Value → Prop} {St : Nat → Heap → Prop} (W : Walks G.prog G.w A I fp wr n P St) (vs : List Value) (ds : List D) (di : Nat → D)
    (link : ∀ V h i v, i < n → Reps V h vs ds → P i v → Rep V h v (di i)) (hy : niceName y)
    (hfp : ∀ i h, St i h → ∀ b ∈ fp, ∃ o, h.get? b = some o ∧ o.cls ≠ .none ∧ (∀ es ep, o.data ≠ .dict es ep) ∧ (∀ v, o.data ≠ .cell v)) (hwr : ∀ i h, St i h → ∀ b ∈ wr, Turner h b) :
    Turn G A (.Name y py) [y] I n (fun i => [(y, di i)]) fp wr (fun V i h => St i h ∧ Reps V h vs ds) where
  sub := W.sub
  keep := fun V i h h' st k r => ⟨W.frame i h h' st.1 k, r st.2⟩
  grow := fun V i h a st hn => ⟨st.1, st.2.grow hn⟩
  live := fun V i h st => hfp i h st.1
  turner := fun V i h st => hwr i h st.1
  item := by
    rintro X env F i s rfl hi st hw I' hst hρ
    refine W.item i s _ _ hi st.1 fun v h' tk hp st' k => ⟨v, rfl, ?_⟩
    obtain ⟨x, I₁, hr⟩ := I'.turn (tk := tk) k (hwr i _ st.1) hw
    refine wpAny_of_eq (show letOwnedTupleGo (.Name y py) _ v = pure () from rfl) (PySem.wpAny_assign_Name ?_)
    refine wpAny_mono (I₁.store (d := di i) (by simpa using hst) (ρ := X.ρ) (fun _ h => h) (fun p hp q => hρ p hp (by rw [q]; exact .head _)) hy (link _ _ i v hi (hr st.2) hp)) (fun _ s₃ ⟨x₂, I₂⟩ => ?_) fun _ _ e => e
    have hb : ∀ b ∈ fp, b ∉ env.locals :: cellT env y := fun b hb q => by
      obtain ⟨o, e, _, nd, nc⟩ := hfp _ _ st' b hb
      rcases List.mem_cons.mp q with q | q
      · obtain ⟨m, o', es, ep, e', d, _⟩ := I₁.env.loc
        rw [q] at e; erw [e] at e'; cases e'; exact nd _ _ d
      · have q' : env.cells.lookup y = some b := (mem_cellT q).2
        obtain ⟨⟨v', o', e', d⟩, _⟩ := I₁.env.cell y b q'
        erw [e] at e'; cases e'; exact nc _ d
    have hbT : ∀ b ∈ fp, b ≠ X.G.T := fun b hb => by
      obtain ⟨o, e, c, _⟩ := hfp _ _ st' b hb
      exact ne_T I₁.good e c
    have hbF : ∀ b ∈ fp, b ∉ F := fun b hb q => by
      obtain ⟨o, e, c, nd, _⟩ := hfp _ _ st' b hb
      obtain ⟨_, _, o', es, ep, e', d⟩ := I₁.room.fresh b q
      erw [e] at e'; cases e'; exact nd _ _ d
    have hr₂ := x₂.rep I₁.good (W := wOf X.σ) (fun b hb' => .inr fun o e xs n d => ?_) I₁.sig.noTuple
    · refine ⟨(x.mono (fun _ h _ => .inl h) fun b h _ => List.mem_append_left _ h).trans (x₂.mono (fun _ h _ => .inl h) fun b h _ => by rw [ownT_one]; exact List.mem_append_right _ h),
        ⟨W.frame _ _ _ st' fun b hb' o e => x₂.keep b o (hbT b hb') (hbF b hb') (hb b hb') e, hr₂.2 (hr st.2)⟩, I₂⟩
    · rcases List.mem_cons.mp hb' with q | q
      · obtain ⟨m, o', es, ep, e', d', _⟩ := I₁.env.loc
        rw [q] at e; erw [e] at e'; cases e'; rw [d] at d'; cases d'
      · have q' : env.cells.lookup y = some b := (mem_cellT q).2
        obtain ⟨⟨v', o', e', d'⟩, _⟩ := I₁.env.cell y b q'
        erw [e] at e'; cases e'; rw [d] at d'; cases d'
  done := by
    rintro X env F s rfl st hw I'
    refine W.done s _ _ st.1 fun h' tk k => ⟨rfl, ?_⟩
    obtain ⟨x, I₁, hr⟩ := I'.turn (tk := tk) k (hwr n _ st.1) hw
    exact ⟨x, I₁⟩
  self := fun V i s Q E st h => W.self i s Q E st.1 h
end
end Mine
end
section
open PySem PySem.W PySem.Calls PyProof.Rows
namespace Mine

section
variable {A : Around} {env : Env} {F O wr : List Addr}

theorem assignInOrder_cons {t : Value → Sem Unit} {ts : List (Value → Sem Unit)} {x : Value} {xs : List Value} : assignInOrder (t :: ts) (x :: xs) = (do holding xs (t x); assignInOrder ts xs) := rfl

/-- names are stored, one by one -/
theorem assignNamesG (st : Str × Pos → Value → Sem Unit) (hst : ∀ (M : Model) k v Q E s, wpAny M A (storeName env k.1 v) Q E s → wpAny M A (st k v) Q E s) : ∀ (ks : List (Str × Pos)) (vs : List Value) (ds : List D) (X : Cx) (s : Shared), In X A env F s → Reps (wOf X.σ) s.heap vs ds → ks.length = ds.length →
    (ks.all fun k => storable X.sc k.1) = true → (ks.map (·.1)).Nodup → (∀ k ∈ ks, niceName k.1) → (∀ p ∈ X.ρ, p.1 ∉ ks.map (·.1)) →
    wpAny (model X.G.prog X.G.w) A (assignInOrder (ks.map st) vs)
      (fun _ s' => Step X.G F (ownT env (ks.map (·.1))) s s' ∧ In (X.setρ (((ks.map (·.1)).zip ds).reverse ++ X.ρ)) A env F s') (fun _ _ => False) s
  | [], _, _, X, s, I, _, _, _, _, _, _ => by
    refine wpAny_pure ⟨Step.refl, ?_⟩
    exact I
  | k :: ks, _, _, X, s, I, .cons (v := v) (vs := vs) (d := d) (ds := ds) r rs, hl, hs, hn, hy, hρ => by
    have hs' : (storable X.sc k.1 && ks.all fun k => storable X.sc k.1) = true := hs
    rw [Bool.and_eq_true] at hs'
    have hn' := List.nodup_cons.mp hn
    show wpAny _ A (holding vs (st k v) >>= fun _ => assignInOrder (ks.map st) vs) _ _ s
    refine wpAny_bind (wpAny_holding (hst _ _ _ _ _ _ (wpAny_mono (I.store (d := d) hs'.1 (ρ := X.ρ) (fun _ h => h) (fun p hp q => hρ p hp (by rw [q]; exact .head _)) (hy k (.head _)) r) (fun _ s₁ ⟨x₁, I₁⟩ => ?_) fun _ _ e => e)))
    have hO : ∀ b ∈ env.locals :: cellT env k.1, ∀ o, s.heap.get? b = some o → ∀ xs n, o.data ≠ .seq xs n := fun b hb o e xs n d' => by
      rcases List.mem_cons.mp hb with q | q
      · obtain ⟨m, o', es, ep, e', d'', _⟩ := I.env.loc
        rw [q] at e; rw [e] at e'; cases e'; rw [d'] at d''; cases d''
      · obtain ⟨⟨v', o', e', d''⟩, _⟩ := I.env.cell k.1 b (mem_cellT q).2
        rw [e] at e'; cases e'; rw [d'] at d''; cases d''
    have hr := x₁.rep I.good (W := wOf X.σ) (fun b hb => .inr (hO b hb)) I.sig.noTuple
    refine wpAny_mono (assignNamesG st hst ks vs ds (X.setρ ((k.1, d) :: X.ρ)) s₁ I₁ (hr.2 rs) (Nat.succ.inj hl) hs'.2 hn'.2 (fun k' h' => hy k' (.tail _ h')) (fun p hp q => ?_)) (fun _ s₂ ⟨x₂, I₂⟩ => ⟨?_, ?_⟩) fun _ _ e => e
    · rcases List.mem_cons.mp hp with rfl | hp
      · exact hn'.1 q
      · exact hρ p hp (.tail _ q)
    · have e1 : ownT env ((k :: ks).map (·.1)) = env.locals :: (cellT env k.1 ++ ks.flatMap fun k => cellT env k.1) := by simp [ownT, List.flatMap_map]
      have e2 : ownT env (ks.map (·.1)) = env.locals :: (ks.flatMap fun k => cellT env k.1) := by simp [ownT, List.flatMap_map]
      rw [e1]
      refine (x₁.mono (fun _ h _ => .inl h) fun b h _ => ?_).trans (x₂.mono (fun _ h _ => .inl h) fun b h _ => ?_)
      · rcases List.mem_cons.mp h with q | q
        · rw [q]; exact .head _
        · exact .tail _ (List.mem_append_left _ q)
      · rw [e2] at h
        rcases List.mem_cons.mp h with q | q
        · rw [q]; exact .head _
        · exact .tail _ (List.mem_append_right _ q)
    · have e3 : (((k :: ks).map (·.1)).zip (d :: ds)).reverse ++ X.ρ = ((ks.map (·.1)).zip ds).reverse ++ ((k.1, d) :: X.ρ) := by simp
      rw [e3]; exact I₂

theorem assignNames (ks : List (Str × Pos)) (vs : List Value) (ds : List D) (X : Cx) (s : Shared) (I : In X A env F s) (r : Reps (wOf X.σ) s.heap vs ds) (hl : ks.length = ds.length)
    (hs : (ks.all fun k => storable X.sc k.1) = true) (hn : (ks.map (·.1)).Nodup) (hy : ∀ k ∈ ks, niceName k.1) (hρ : ∀ p ∈ X.ρ, p.1 ∉ ks.map (·.1)) :
    wpAny (model X.G.prog X.G.w) A (assignInOrder (ks.map fun k => assign (.Name k.1 k.2) env) vs)
      (fun _ s' => Step X.G F (ownT env (ks.map (·.1))) s s' ∧ In (X.setρ (((ks.map (·.1)).zip ds).reverse ++ X.ρ)) A env F s') (fun _ _ => False) s :=
  assignNamesG (fun k => assign (.Name k.1 k.2) env) (fun _ _ _ _ _ _ h => PySem.wpAny_assign_Name h) ks vs ds X s I r hl hs hn hy hρ

theorem assignEach_names (ks : List (Str × Pos)) : assignEach (ks.map fun k => Expr.Name k.1 k.2) env = ks.map fun k => (false, assign (.Name k.1 k.2) env) := by
  induction ks with
  | nil => rfl
  | cons k ks ih => show (false, assign (.Name k.1 k.2) env) :: assignEach (ks.map fun k => Expr.Name k.1 k.2) env = _; rw [ih]; rfl

/-- a target of names takes a tuple -/
theorem assignTup {X : Cx} {s : Shared} {ks : List (Str × Pos)} {k0 : Nat} {pos : Pos} {t : Addr} {vs : List Value} {ds : List D} (I : In X A env F s) (ht : s.heap.IsTuple t vs.toArray) (r : Reps (wOf X.σ) s.heap vs ds)
    (hl : ks.length = ds.length) (hs : (ks.all fun k => storable X.sc k.1) = true) (hn : (ks.map (·.1)).Nodup) (hy : ∀ k ∈ ks, niceName k.1) (hρ : ∀ p ∈ X.ρ, p.1 ∉ ks.map (·.1)) :
    wpAny (model X.G.prog X.G.w) A (assign (.Tuple (ks.map fun k => Expr.Name k.1 k.2) k0 pos) env (.ref t))
      (fun _ s' => Step X.G F (ownT env (ks.map (·.1))) s s' ∧ In (X.setρ (((ks.map (·.1)).zip ds).reverse ++ X.ρ)) A env F s') (fun _ _ => False) s := by
  have hlen : ks.length = vs.length := hl.trans r.len.symm
  refine PySem.wpAny_assign_Tuple I.room.handled ht (by rw [assignEach_names]; simpa using hlen) (by rw [assignEach_names]; simp) fun h' hk => ?_
  have x : Step X.G F [] s { s with heap := h', toks := s.toks } := Step.of_keep fun b o e => hk b o (Nat.ne_of_lt (Heap.lt_size e)) e
  rw [assignEach_names, List.map_map]
  exact wpAny_mono (assignNames ks vs ds X _ (I.step x) (I.reps x r) hl hs hn hy hρ) (fun _ s' ⟨y, I'⟩ => ⟨x.weak.trans y, I'⟩) fun _ _ e => e
/-- a target of names takes a list -/
theorem assignLst {X : Cx} {s : Shared} {ks : List (Str × Pos)} {k0 : Nat} {pos : Pos} {t : Addr} {vs : List Value} {ds : List D} (I : In X A env F s) (ht : s.heap.IsList t vs.toArray) (r : Reps (wOf X.σ) s.heap vs ds)
    (hl : ks.length = ds.length) (hs : (ks.all fun k => storable X.sc k.1) = true) (hn : (ks.map (·.1)).Nodup) (hy : ∀ k ∈ ks, niceName k.1) (hρ : ∀ p ∈ X.ρ, p.1 ∉ ks.map (·.1)) :
    wpAny (model X.G.prog X.G.w) A (assign (.Tuple (ks.map fun k => Expr.Name k.1 k.2) k0 pos) env (.ref t))
      (fun _ s' => Step X.G F (ownT env (ks.map (·.1))) s s' ∧ In (X.setρ (((ks.map (·.1)).zip ds).reverse ++ X.ρ)) A env F s') (fun _ _ => False) s := by
  have hlen : ks.length = vs.length := hl.trans r.len.symm
  rw [PyProof.Rows.assign_Tuple]
  refine wpAny_bind (wpAny_standAt ?_)
  unfold unpack
  rw [assignEach_names]
  rw [show (List.map (fun k : Str × Pos => (false, assign (.Name k.1 k.2) env)) ks).length = vs.toArray.size by simpa using hlen, show (List.map (fun k : Str × Pos => (false, assign (.Name k.1 k.2) env)) ks).findIdx? (·.1) = none by simp]
  refine wpAny_bind (wpAny_holding (kun_itemsOf I.room.handled ht fun h' hk => ?_))
  have x : Step X.G F [] s { s with heap := h', toks := s.toks } := Step.of_keep fun b o e => hk b o (Nat.ne_of_lt (Heap.lt_size e)) e
  rw [List.map_map]
  exact wpAny_mono (assignNames ks vs ds X _ (I.step x) (I.reps x r) hl hs hn hy hρ) (fun _ s' ⟨y, I'⟩ => ⟨x.weak.trans y, I'⟩) fun _ _ e => e
end
end Mine
end
section
open PySem PySem.W PySem.Calls PyProof.Rows
namespace Mine

section
variable {A : Around} {env : Env} {F O wr fp : List Addr}

/-- what a store into the frame leaves -/
theorem turn_keep {X : Cx} {s s' : Shared} {keys : List Str} (I : In X A env F s) (x : Step X.G F (ownT env keys) s s')
    (hfp : ∀ b ∈ fp, ∃ o, s.heap.get? b = some o ∧ o.cls ≠ .none ∧ (∀ es ep, o.data ≠ .dict es ep) ∧ (∀ v, o.data ≠ .cell v)) :
    (∀ b ∈ fp, ∀ o, s.heap.get? b = some o → s'.heap.get? b = some o) ∧ (∀ {vs ds}, Reps (wOf X.σ) s.heap vs ds → Reps (wOf X.σ) s'.heap vs ds) := by
  have own : ∀ b ∈ ownT env keys, ∃ o, s.heap.get? b = some o ∧ ((∃ es ep, o.data = .dict es ep) ∨ ∃ v, o.data = .cell v) := fun b hb => by
    rcases List.mem_cons.mp hb with q | q
    · obtain ⟨m, o', es, ep, e', d, _⟩ := I.env.loc
      exact ⟨o', by rw [q]; exact e', .inl ⟨_, _, d⟩⟩
    · obtain ⟨k, _, q⟩ := List.mem_flatMap.mp q
      obtain ⟨⟨v', o', e', d⟩, _⟩ := I.env.cell k b (mem_cellT q).2
      exact ⟨o', e', .inr ⟨_, d⟩⟩
  refine ⟨fun b hb o e => ?_, fun r => ?_⟩
  · obtain ⟨o', e', c, nd, nc⟩ := hfp b hb
    rw [e] at e'; cases e'
    refine x.keep b o (ne_T I.good e c) (fun q => ?_) (fun q => ?_) e
    · obtain ⟨_, _, o', es, ep, e', d⟩ := I.room.fresh b q
      rw [e] at e'; cases e'; exact nd _ _ d
    · obtain ⟨o', e', h⟩ := own b q
      rw [e] at e'; cases e'
      rcases h with ⟨_, _, d⟩ | ⟨_, d⟩
      · exact nd _ _ d
      · exact nc _ d
  · refine (x.rep I.good (W := wOf X.σ) (fun b hb => .inr fun o e xs n d => ?_) I.sig.noTuple).2 r
    obtain ⟨o', e', h⟩ := own b hb
    rw [e] at e'; cases e'; rw [d] at h
    rcases h with ⟨_, _, h⟩ | ⟨_, h⟩ <;> cases h

abbrev bsOf (ks : List (Str × Pos)) (ds : List D) : Env0 := ((ks.map (·.1)).zip ds).reverse

/-- a plain iterator over tuples and a target of names -/
theorem Turn.tup {G : Gd} {ks : List (Str × Pos)} {k0 : Nat} {pos : Pos} {I : Addr} {n : Nat} {P : Nat → Value → Prop} {St : Nat → Heap → Prop} (W : Walks G.prog G.w A I fp wr n P St) (vs : List Value) (ds : List D) (di : Nat → List D)
    (link : ∀ V h i v, i < n → Reps V h vs ds → P i v → Rep V h v (.tup (di i)) ∧ (di i).length = ks.length) (hn : (ks.map (·.1)).Nodup) (hy : ∀ k ∈ ks, niceName k.1)
    (hgo : ∀ i (s : Shared) v (Q : Unit → Shared → Prop) E, St (i + 1) s.heap → Q () s → wpAny (model G.prog G.w) A (letOwnedTupleGo (.Tuple (ks.map fun k => Expr.Name k.1 k.2) k0 pos) (.ref I) (.ref v)) Q E s)
    (hfp : ∀ i h, St i h → ∀ b ∈ fp, ∃ o, h.get? b = some o ∧ o.cls ≠ .none ∧ (∀ es ep, o.data ≠ .dict es ep) ∧ (∀ v, o.data ≠ .cell v)) (hwr : ∀ i h, St i h → ∀ b ∈ wr, Turner h b) :
    Turn G A (.Tuple (ks.map fun k => Expr.Name k.1 k.2) k0 pos) (ks.map (·.1)) I n (fun i => bsOf ks (di i)) fp wr (fun V i h => St i h ∧ Reps V h vs ds) where
  sub := W.sub
  keep := fun V i h h' st k r => ⟨W.frame i h h' st.1 k, r st.2⟩
  grow := fun V i h a st hn => ⟨st.1, st.2.grow hn⟩
  live := fun V i h st => hfp i h st.1
  turner := fun V i h st => hwr i h st.1
  item := by
    rintro X env F i s rfl hi st hw I' hst hρ
    refine W.item i s _ _ hi st.1 fun v h' tk hp st' k => ⟨v, rfl, ?_⟩
    obtain ⟨x, I₁, hr⟩ := I'.turn (tk := tk) k (hwr i _ st.1) hw
    have hl := link _ _ i v hi (hr st.2) hp
    obtain ⟨hl1, hl2⟩ := hl
    cases hl1 with
    | tup ht hrs =>
      refine hgo i _ _ _ _ st' ?_
      refine wpAny_mono (assignTup (ks := ks) I₁ ht hrs hl2.symm (by rw [List.all_map] at hst; exact hst) hn hy hρ) (fun _ s₃ ⟨x₂, I₂⟩ => ?_) fun _ _ e => e
      obtain ⟨k2, r2⟩ := turn_keep I₁ x₂ (hfp _ _ st')
      exact ⟨(x.mono (fun _ h _ => .inl h) fun b h _ => List.mem_append_left _ h).trans (x₂.mono (fun _ h _ => .inl h) fun b h _ => List.mem_append_right _ h), ⟨W.frame _ _ _ st' k2, r2 (hr st.2)⟩, I₂⟩
  done := by
    rintro X env F s rfl st hw I'
    refine W.done s _ _ st.1 fun h' tk k => ⟨rfl, ?_⟩
    obtain ⟨x, I₁, hr⟩ := I'.turn (tk := tk) k (hwr n _ st.1) hw
    exact ⟨x, I₁⟩
  self := fun V i s Q E st h => W.self i s Q E st.1 h

/-- an iterator that makes its tuples (enumerate) and a target of names -/
theorem Turn.made {G : Gd} {ks : List (Str × Pos)} {k0 : Nat} {pos : Pos} {I : Addr} {n : Nat} {Pt : Nat → Array Value → Prop} {St : Nat → Heap → Prop} {Mid : Nat → Addr → Heap → Prop} (W : WalksT G.prog G.w A I fp wr n Pt St Mid) (vs : List Value) (ds : List D) (di : Nat → List D)
    (link : ∀ V h i vals, i < n → Reps V h vs ds → Pt i vals → Reps V h vals.toList (di i) ∧ (di i).length = ks.length) (hn : (ks.map (·.1)).Nodup) (hy : ∀ k ∈ ks, niceName k.1)
    (hfp : ∀ i h, St i h → ∀ b ∈ fp, ∃ o, h.get? b = some o ∧ o.cls ≠ .none ∧ (∀ es ep, o.data ≠ .dict es ep) ∧ (∀ v, o.data ≠ .cell v)) (hwr : ∀ i h, St i h → ∀ b ∈ wr, Turner h b) (hwm : ∀ i T h, Mid i T h → ∀ b ∈ wr, Turner h b) :
    Turn G A (.Tuple (ks.map fun k => Expr.Name k.1 k.2) k0 pos) (ks.map (·.1)) I n (fun i => bsOf ks (di i)) fp wr (fun V i h => St i h ∧ Reps V h vs ds) where
  sub := W.sub
  keep := fun V i h h' st k r => ⟨W.frame i h h' st.1 k, r st.2⟩
  grow := fun V i h a st hn => ⟨st.1, st.2.grow hn⟩
  live := fun V i h st => hfp i h st.1
  turner := fun V i h st => hwr i h st.1
  item := by
    rintro X env F i s rfl hi st hw I' hst hρ
    refine W.item i s _ _ hi st.1 fun T vals h' tk hp hT ht hm k => ⟨_, rfl, ?_⟩
    obtain ⟨x, I₁, hr⟩ := I'.turn (tk := tk) k (hwr i _ st.1) hw
    refine W.go _ _ _ i T _ _ _ hm fun h'' st' k' => ?_
    obtain ⟨x', I₂, hr'⟩ := I₁.turn (tk := tk) k' (hwm i T _ hm) hw
    obtain ⟨hl1, hl2⟩ := link _ _ i vals hi (hr' (hr st.2)) hp
    have hTw : T ∉ wr := W.apart i T _ hm
    have ht' : h''.IsTuple T vals := by obtain ⟨o, e, r⟩ := ht; exact ⟨o, k' T o hTw e, r⟩
    have ht2 : h''.IsTuple T vals.toList.toArray := by simpa using ht'
    refine wpAny_mono (assignTup (ks := ks) I₂ ht2 hl1 hl2.symm (by rw [List.all_map] at hst; exact hst) hn hy hρ) (fun _ s₃ ⟨x₂, I₃⟩ => ?_) fun _ _ e => e
    obtain ⟨k2, r2⟩ := turn_keep I₂ x₂ (hfp _ _ st')
    exact ⟨((x.trans x').mono (fun _ h _ => .inl h) fun b h _ => List.mem_append_left _ h).trans (x₂.mono (fun _ h _ => .inl h) fun b h _ => List.mem_append_right _ h), ⟨W.frame _ _ _ st' k2, r2 (hr' (hr st.2))⟩, I₃⟩
  done := by
    rintro X env F s rfl st hw I'
    refine W.done s _ _ st.1 fun h' tk k => ⟨rfl, ?_⟩
    obtain ⟨x, I₁, hr⟩ := I'.turn (tk := tk) k (hwr n _ st.1) hw
    exact ⟨x, I₁⟩
  self := fun V i s Q E st h => W.self i s Q E st.1 h
end

/-- from a value: its iterator, behind the call of iter -/
def Iters (X : Cx) (target : Expr) (keys : List Str) (d : D) (n : Nat) (bs : Nat → Env0) : Prop :=
  ∀ A env F s v, In X A env F s → Rep (wOf X.σ) s.heap v d → wpAny (model X.G.prog X.G.w) A (pyIter v) (fun it s' => Step X.G F [] s s' ∧ ∃ I fp wr St, it = .ref I ∧ Turn X.G A target keys I n bs fp wr St ∧ St (wOf X.σ) 0 s'.heap ∧
    (∀ b ∈ wr, s.heap.get? b = none)) (fun _ _ => False) s

section
variable {X : Cx}
theorem live_list {h : Heap} {I l : Addr} {i : Nat} {xs : Array Value} (hi : h.IsListIter I l i) (hl : h.IsList l xs) : ∀ b ∈ [I, l], ∃ o, h.get? b = some o ∧ o.cls ≠ .none ∧ (∀ es ep, o.data ≠ .dict es ep) ∧ (∀ v, o.data ≠ .cell v) := by
  intro b hb
  rcases List.mem_cons.mp hb with rfl | hb
  · obtain ⟨o, e, c, d⟩ := hi; exact ⟨o, e, (by rw [c]; exact fun q => Value.noConfusion q), (by rw [d]; exact fun _ _ q => Data.noConfusion q), (by rw [d]; exact fun _ q => Data.noConfusion q)⟩
  · rw [List.mem_singleton.mp hb]
    obtain ⟨o, e, c, n, d⟩ := hl; exact ⟨o, e, (by rw [c]; exact fun q => Value.noConfusion q), (by rw [d]; exact fun _ _ q => Data.noConfusion q), (by rw [d]; exact fun _ q => Data.noConfusion q)⟩
theorem turner_list {h : Heap} {I l : Addr} {i : Nat} (hi : h.IsListIter I l i) : ∀ b ∈ [I], Turner h b := by
  intro b hb
  rw [List.mem_singleton.mp hb]
  obtain ⟨o, e, c, d⟩ := hi
  exact ⟨o, _, e, (by rw [c]; exact fun q => Value.noConfusion q), d, fun x t q => by simp at q⟩
theorem live_tuple {h : Heap} {I l : Addr} {i : Nat} {xs : Array Value} (hi : h.IsTupleIter I l i) (hl : h.IsTuple l xs) : ∀ b ∈ [I, l], ∃ o, h.get? b = some o ∧ o.cls ≠ .none ∧ (∀ es ep, o.data ≠ .dict es ep) ∧ (∀ v, o.data ≠ .cell v) := by
  intro b hb
  rcases List.mem_cons.mp hb with rfl | hb
  · obtain ⟨o, e, c, d⟩ := hi; exact ⟨o, e, (by rw [c]; exact fun q => Value.noConfusion q), (by rw [d]; exact fun _ _ q => Data.noConfusion q), (by rw [d]; exact fun _ q => Data.noConfusion q)⟩
  · rw [List.mem_singleton.mp hb]
    obtain ⟨o, e, c, n, d⟩ := hl; exact ⟨o, e, (by rw [c]; exact fun q => Value.noConfusion q), (by rw [d]; exact fun _ _ q => Data.noConfusion q), (by rw [d]; exact fun _ q => Data.noConfusion q)⟩
theorem turner_tuple {h : Heap} {I l : Addr} {i : Nat} (hi : h.IsTupleIter I l i) : ∀ b ∈ [I], Turner h b := by
  intro b hb
  rw [List.mem_singleton.mp hb]
  obtain ⟨o, e, c, d⟩ := hi
  exact ⟨o, _, e, (by rw [c]; exact fun q => Value.noConfusion q), d, fun x t q => by simp at q⟩

theorem get_item {W : List Addr} {h : Heap} {vs : List Value} {ds : List D} (r : Reps W h vs ds) {i : Nat} {v : Value} (hi : i < ds.length) (e : vs.toArray[i]? = some v) (dflt : D) : Rep W h v (ds.getD i dflt) := by
  have e' : ds[i]? = some (ds.getD i dflt) := by rw [List.getD_eq_getElem?_getD, List.getElem?_eq_getElem hi]; rfl
  obtain ⟨w, e1, r1⟩ := r.get e'
  have : v = w := by
    have e2 : vs[i]? = some v := by simpa using e
    rw [e1] at e2; exact (Option.some.inj e2).symm
  rw [this]; exact r1

end
end Mine
end
section
local macro_rules | `(tactic| omega) => `(tactic| lia)
open PySem PySem.W PySem.Calls PyProof.Rows
namespace Mine

/-- the scope of a comprehension as its code sees it -/
def relab (csc sc : Scope) : Scope := { csc with names := csc.names.map fun (n, k) => if (k == .free && sc.kind == .function && sc.names.lookup n == some .cell) then (n, .cell) else (n, k) }
theorem relabel_eq {csc : Scope} {env : Env} : relabel csc env = relab csc env.scope := rfl

theorem lookup_relab {csc sc : Scope} {x : Str} : (relab csc sc).names.lookup x = (csc.names.lookup x).map fun k => if (k == .free && sc.kind == .function && sc.names.lookup x == some .cell) then .cell else k := by
  unfold relab
  simp only
  induction csc.names with
  | nil => rfl
  | cons p r ih =>
    obtain ⟨n, k⟩ := p
    rw [List.map_cons, List.lookup_cons, List.lookup_cons]
    by_cases h : x = n
    · subst h
      by_cases h2 : (k == NameKind.free && sc.kind == .function && sc.names.lookup x == some .cell) = true
      · simp only [h2, if_true, beq_self_eq_true, Option.map_some]
      · simp only [Bool.not_eq_true] at h2; simp only [h2, Bool.false_eq_true, if_false, beq_self_eq_true, Option.map_some]
    · have hb : (x == n) = false := by simpa using h
      have : (x == (if (k == NameKind.free && sc.kind == .function && sc.names.lookup n == some .cell) = true then (n, NameKind.cell) else (n, k)).1) = false := by split <;> exact hb
      rw [hb]
      simp only
      rw [← ih]
      split
      · rename_i heq; rw [this] at heq; cases heq
      · rfl

/-- the free names have cells -/
theorem closure_ok {env : Env} : ∀ (names : List (Str × NameKind)) (acc : List (Str × Addr)), (∀ p ∈ names, p.2 = .free → ∃ c, env.cells.lookup p.1 = some c) → (∀ p ∈ acc, env.cells.lookup p.1 = some p.2) →
    ∃ cl, (forIn names acc fun (x : Str × NameKind) (cs : List (Str × Addr)) => (if (x.2 == .free) = true then (do let a ← cellOf env x.1; pure (ForInStep.yield ((x.1, a) :: cs))) else pure (ForInStep.yield cs) : Sem (ForInStep (List (Str × Addr))))) = pure cl ∧
      (∀ p ∈ cl, env.cells.lookup p.1 = some p.2) ∧ (∀ p ∈ names, p.2 = .free → ∃ c, (p.1, c) ∈ cl) ∧ ∀ p ∈ acc, p ∈ cl
  | [], acc, _, h => ⟨acc, (by rw [List.forIn_nil]), h, (fun _ q => absurd q List.not_mem_nil), (fun _ q => q)⟩
  | (x, k) :: r, acc, hf, h => by
    by_cases hk : k = .free
    · subst hk
      obtain ⟨c, hc⟩ := hf (x, .free) (.head _) rfl
      obtain ⟨cl, e, h1, h2, h3⟩ := closure_ok r ((x, c) :: acc) (fun p hp => hf p (.tail _ hp)) (fun p hp => by
        rcases List.mem_cons.mp hp with rfl | hp
        · exact hc
        · exact h p hp)
      refine ⟨cl, ?_, h1, fun p hp hq => ?_, fun p hp => h3 p (.tail _ hp)⟩
      · rw [List.forIn_cons]
        have : cellOf env x = pure c := by unfold cellOf; rw [hc]
        simp only [beq_self_eq_true, if_true, this]
        exact e
      · rcases List.mem_cons.mp hp with rfl | hp
        · exact ⟨c, h3 _ (.head _)⟩
        · exact h2 p hp hq
    · have hb : (k == NameKind.free) = false := by simpa using hk
      obtain ⟨cl, e, h1, h2, h3⟩ := closure_ok r acc (fun p hp => hf p (.tail _ hp)) h
      refine ⟨cl, ?_, h1, fun p hp hq => ?_, h3⟩
      · rw [List.forIn_cons]
        simp only [hb, Bool.false_eq_true, if_false]
        exact e
      · rcases List.mem_cons.mp hp with rfl | hp
        · exact absurd hq hk
        · exact h2 p hp hq
theorem closureFor_ok {scope : Scope} {env : Env} (hf : ∀ p ∈ scope.names, p.2 = .free → ∃ c, env.cells.lookup p.1 = some c) :
    ∃ cl, closureFor scope env = pure cl ∧ (∀ p ∈ cl, env.cells.lookup p.1 = some p.2) ∧ (∀ p ∈ scope.names, p.2 = .free → ∃ c, (p.1, c) ∈ cl) := by
  obtain ⟨cl, e, h1, h2, _⟩ := closure_ok scope.names [] hf (fun _ q => absurd q List.not_mem_nil)
  refine ⟨cl, ?_, h1, h2⟩
  unfold closureFor
  simp only [bind_pure_comp]
  simp only [bind_pure_comp] at e
  rw [e]
  rfl

/-- the cells behind a comprehension's start: the outer ones, and its own -/
structure CellsAt (h : Heap) (lo : Nat) (own : List Str) (cl cs : List (Str × Addr)) : Prop where
  mem : ∀ p ∈ cs, p ∈ cl ∨ (lo ≤ p.2 ∧ h.IsCell p.2 none ∧ p.1 ∈ own)
  apart : ∀ x y c, (x, c) ∈ cs → (y, c) ∈ cs → x = y
  old : ∀ x, x ∉ own → cs.lookup x = cl.lookup x
  new : ∀ x, x ∈ own → ∀ c, cs.lookup x = some c → lo ≤ c

theorem CellsAt.go {lo : Nat} {cl : List (Str × Addr)} : ∀ (names : List (Str × NameKind)) (h : Heap) (own : List Str) (cs : List (Str × Addr)), CellsAt h lo own cl cs → lo ≤ h.objs.size → (∀ p ∈ cl, p.2 < lo) →
    CellsAt (pushCells h names) lo (own ++ (names.filter (·.2 == .cell)).map (·.1)) cl (cellsFrom h.objs.size names cs)
  | [], h, own, cs, x, _, _ => by simpa [pushCells, cellsFrom] using x
  | (n, k) :: r, h, own, cs, x, hlo, hcl => by
    unfold pushCells cellsFrom
    by_cases hk : (k == NameKind.cell) = true
    · rw [if_pos hk, if_pos hk]
      have hlt : ∀ p ∈ cs, p.2 < h.objs.size := fun p hp => by
        rcases x.mem p hp with q | ⟨_, q, _⟩
        · exact Nat.lt_of_lt_of_le (hcl p q) hlo
        · exact q.lt
      have := CellsAt.go (lo := lo) (cl := cl) r (h.push { cls := .type "cell", data := .cell none }) (own ++ [n]) ((n, h.objs.size) :: cs) ⟨?_, ?_, ?_, ?_⟩ (by rw [Heap.size_push]; omega) hcl
      · rw [Heap.size_push] at this
        simpa [List.filter_cons, hk] using this
      · intro p hp
        rcases List.mem_cons.mp hp with rfl | hp
        · exact .inr ⟨hlo, ⟨_, Heap.get?_push_size _ rfl, rfl⟩, by simp⟩
        · rcases x.mem p hp with q | ⟨q1, q2, q3⟩
          · exact .inl q
          · exact .inr ⟨q1, q2.keeps fun b o e => Heap.get?_push_of_some _ e, List.mem_append_left _ q3⟩
      · intro a b c ha hb
        rcases List.mem_cons.mp ha with ea | ha
        · rcases List.mem_cons.mp hb with eb | hb
          · rw [(Prod.mk.inj ea).1, (Prod.mk.inj eb).1]
          · exact absurd (hlt _ hb) (by rw [(Prod.mk.inj ea).2]; exact Nat.lt_irrefl _)
        · rcases List.mem_cons.mp hb with eb | hb
          · exact absurd (hlt _ ha) (by rw [(Prod.mk.inj eb).2]; exact Nat.lt_irrefl _)
          · exact x.apart a b c ha hb
      · intro z hz
        have h1 : z ∉ own := fun q => hz (List.mem_append_left _ q)
        have h2 : (z == n) = false := by
          have : z ≠ n := fun q => hz (by rw [q]; simp)
          simpa using this
        rw [List.lookup_cons, h2]
        exact x.old z h1
      · intro z hz c hc
        rw [List.lookup_cons] at hc
        cases h2 : z == n with
        | true => rw [h2] at hc; cases hc; exact hlo
        | false =>
          rw [h2] at hc
          have h3 : z ≠ n := by simpa using h2
          rcases List.mem_append.mp hz with q | q
          · exact x.new z q c hc
          · exact absurd (List.mem_singleton.mp q) h3
    · rw [if_neg hk, if_neg hk]
      have hk' : (k == NameKind.cell) = false := by simpa using hk
      have := CellsAt.go r h own cs x hlo hcl
      simpa [List.filter_cons, hk'] using this

theorem wpAny_newCompEnv {M : Model} {A : Around} {E : Value → Shared → Prop} {s : Shared} {scope : Scope} {globals b : Addr} {cl : List (Str × Addr)} {qual : Str} {func : Option Addr} {code : Value} {outer : Env} {Q : Env → Shared → Prop}
    (h : Q (newEnv scope s.heap.objs.size globals (cellsFrom (s.heap.objs.size + 1) scope.names cl) qual func code (some outer) b) { s with heap := pushCells (s.heap.push { cls := .type "dict", data := .dict #[] }) scope.names }) :
    wpAny M A (newFunctionEnv scope globals cl [] qual func code (some outer) b) Q E s := by
  simp only [newFunctionEnv, Option.isSome_some, if_true]
  refine wpAny_bind (wpAny_alloc ?_)
  refine wpAny_bind (wpAny_layCells _ (fun name kind cells => by cases hkc : kind == NameKind.cell <;> simp [hkc]) _ _ _ _ ?_)
  rw [show ({ s with heap := s.heap.push { cls := .type "dict", data := .dict #[] } } : Shared).heap.objs.size = s.heap.objs.size + 1 from Heap.size_push ..]
  refine wpAny_bind ?_
  rw [List.forIn_nil]
  exact wpAny_pure (wpAny_pure h)
end Mine
end
section
local macro_rules | `(tactic| omega) => `(tactic| lia)
open PySem PySem.W PySem.Calls PyProof.Rows
namespace Mine

theorem Good.fresh {G : Gd} {s : Shared} (g : Good G s) {b : Addr} (h : s.heap.get? b = none) : G.s1.heap.get? b = none := by
  cases e : G.s1.heap.get? b with
  | none => rfl
  | some o =>
    by_cases hb : b = G.T
    · subst hb
      obtain ⟨ps, h1, _⟩ := g.tab
      rw [h] at h1; cases h1
    · rw [g.keep b o hb e] at h; cases h
theorem fresh_ge {h : Heap} {a : Addr} (ha : h.objs.size ≤ a) : h.get? a = none := Heap.get?_none_of_le ha

theorem OwnAt.grow {W : List Addr} {h : Heap} {a b : Addr} {w : Own} (x : OwnAt W h b w) (hn : h.get? a = none) : OwnAt (a :: W) h b w := by
  cases x with
  | list h1 r => exact .list h1 (r.grow hn)
  | iter h1 hw h2 r =>
    refine .iter h1 (fun q => ?_) h2 (r.grow hn)
    rcases List.mem_cons.mp q with e | q
    · obtain ⟨o, e', _⟩ := h2.1; rw [e, hn] at e'; cases e'
    · exact hw q
  | fn e c d k hw r =>
    refine .fn e c d k (fun q => ?_) r
    rcases List.mem_cons.mp q with e | q
    · obtain ⟨c, o, vs, t, e0, e', _⟩ := r; cases e0; rw [e, hn] at e'; cases e'
    · exact hw q

theorem Reps.keeps {W : List Addr} {h h' : Heap} (k : ∀ b o, h.get? b = some o → h'.get? b = some o) {vs : List Value} {ds : List D} (r : Reps W h vs ds) : Reps W h' vs ds :=
  r.mono (fun a xs hw hl => ⟨hw, hl.keeps k⟩) (fun a xs ht => by obtain ⟨o, e, q⟩ := ht; exact ⟨o, k a o e, q⟩)
theorem OwnAt.keeps {W : List Addr} {h h' : Heap} {b : Addr} {w : Own} (x : OwnAt W h b w) (k : ∀ b o, h.get? b = some o → h'.get? b = some o) : OwnAt W h' b w := by
  cases x with
  | list h1 r => exact .list (h1.keeps k) (r.keeps k)
  | iter h1 hw h2 r =>
    obtain ⟨o, e, q⟩ := h1
    exact .iter ⟨o, k _ _ e, q⟩ hw (h2.keeps k) (r.keeps k)
  | fn e c d h hw r => exact .fn (k _ _ e) c d h hw (r.keeps k)

def compOk (csc sc : Scope) : Bool := csc.kind == .function && sc.kind == .function && csc.names.all fun p => match p.2 with
  | .free => (sc.names.lookup p.1 == some .cell || sc.names.lookup p.1 == some .free) && csc.names.lookup p.1 == some .free
  | .local => csc.names.lookup p.1 == some .local
  | .cell => csc.names.lookup p.1 == some .cell
  | _ => true

theorem lookup_mem {α β : Type} [BEq α] [LawfulBEq α] : ∀ {l : List (α × β)} {n : α} {c : β}, l.lookup n = some c → (n, c) ∈ l
  | (k, v) :: r, n, c, h => by
    rw [List.lookup_cons] at h
    cases hb : n == k with
    | true => rw [hb] at h; cases h; rw [beq_iff_eq.mp hb]; exact .head _
    | false => rw [hb] at h; exact .tail _ (lookup_mem h)
theorem lookup_of_mem {α β : Type} [BEq α] [LawfulBEq α] : ∀ {l : List (α × β)} {n : α} {c : β}, (n, c) ∈ l → ∃ c', l.lookup n = some c'
  | (k, v) :: r, n, c, h => by
    rw [List.lookup_cons]
    cases hb : n == k with
    | true => exact ⟨_, rfl⟩
    | false =>
      rcases List.mem_cons.mp h with e | h
      · cases e; simp at hb
      · exact lookup_of_mem h

/-- the state in which a comprehension's loop begins -/
theorem In.comp {X : Cx} {A : Around} {env : Env} {F : List Addr} {s : Shared} (I : In X A env F s) {csc : Scope} (hc : compOk csc X.sc = true) {ρ : Env0} (hρ : ∀ p ∈ ρ, p ∈ X.ρ ∧ csc.names.lookup p.1 = some .free) :
    ∃ cl, closureFor csc env = pure cl ∧ ∀ (s₄ : Shared) (cs : List (Str × Addr)), cs = cellsFrom (s.heap.objs.size + 2) csc.names cl →
      s₄ = { s with heap := pushCells ((s.heap.push { cls := .type "list", data := .seq ([] : List Value).toArray }).push { cls := .type "dict", data := .dict #[] }) csc.names } →
      Step X.G F [] s s₄ ∧ In ⟨X.G, X.n, relab csc X.sc, X.cd, ρ, (s.heap.objs.size, .list []) :: X.σ⟩ A (compEnvC csc cs (s.heap.objs.size + 1) env) F s₄ ∧
      (∀ y c, csc.names.lookup y = some .cell → cs.lookup y = some c → s.heap.get? c = none) ∧ ∀ b o, s.heap.get? b = some o → s₄.heap.get? b = some o := by
  unfold compOk at hc
  rw [Bool.and_eq_true, Bool.and_eq_true] at hc
  obtain ⟨⟨hk1, hk2⟩, hall⟩ := hc
  have hkc : csc.kind = .function := by simpa using hk1
  have hkX : X.sc.kind = .function := I.env.kind
  have hall' := List.all_eq_true.mp hall
  have hfree : ∀ p ∈ csc.names, p.2 = .free → (X.sc.names.lookup p.1 = some .cell ∨ X.sc.names.lookup p.1 = some .free) ∧ csc.names.lookup p.1 = some .free := fun p hp hq => by
    have := hall' p hp
    rw [hq] at this
    simpa using this
  have hcell : ∀ x, (x, NameKind.cell) ∈ csc.names → csc.names.lookup x = some .cell := fun x hx => by
    have := hall' _ hx
    simpa using this
  obtain ⟨cl, hcl, hcl1, hcl2⟩ := closureFor_ok (scope := csc) (env := env) fun p hp hq => I.env.has p.1 (hfree p hp hq).1
  refine ⟨cl, hcl, ?_⟩
  rintro s₄ cs rfl rfl
  have hget : ∀ b o, s.heap.get? b = some o → (pushCells ((s.heap.push { cls := .type "list", data := .seq ([] : List Value).toArray }).push { cls := .type "dict", data := .dict #[] }) csc.names).get? b = some o :=
    fun b o e => pushCells_keeps _ _ b o (Heap.get?_push_of_some _ (Heap.get?_push_of_some _ e))
  have hsz : ((s.heap.push { cls := .type "list", data := .seq ([] : List Value).toArray }).push { cls := .type "dict", data := .dict #[] }).objs.size = s.heap.objs.size + 2 := by rw [Heap.size_push, Heap.size_push]
  have x : Step X.G F [] s { s with heap := pushCells ((s.heap.push { cls := .type "list", data := .seq ([] : List Value).toArray }).push { cls := .type "dict", data := .dict #[] }) csc.names } := Step.of_keep (tk := s.toks) hget
  have I1 := I.step x
  have hlcl : ∀ p ∈ cl, p.2 < s.heap.objs.size := fun p hp => by obtain ⟨⟨v, hv⟩, _⟩ := I.env.cell _ _ (hcl1 p hp); exact hv.lt
  have CA := CellsAt.go (lo := s.heap.objs.size + 2) (cl := cl) csc.names ((s.heap.push { cls := .type "list", data := .seq ([] : List Value).toArray }).push { cls := .type "dict", data := .dict #[] }) [] cl
    ⟨fun p hp => .inl hp, fun a b c ha hb => I.env.apart a b c (hcl1 _ ha) (hcl1 _ hb), fun _ _ => rfl, fun _ h => absurd h List.not_mem_nil⟩ (by rw [hsz]; exact Nat.le_refl _) (fun p hp => Nat.lt_of_lt_of_le (hlcl p hp) (by omega))
  rw [hsz, List.nil_append] at CA
  have hnew : s.heap.get? s.heap.objs.size = none := fresh_ge (Nat.le_refl _)
  have hDlist : PList (pushCells ((s.heap.push { cls := .type "list", data := .seq ([] : List Value).toArray }).push { cls := .type "dict", data := .dict #[] }) csc.names) s.heap.objs.size ([] : List Value).toArray :=
    ⟨⟨_, pushCells_keeps _ _ _ _ (Heap.get?_push_of_some _ (Heap.get?_push_size _ rfl)), rfl, 0, rfl⟩, ⟨_, pushCells_keeps _ _ _ _ (Heap.get?_push_of_some _ (Heap.get?_push_size _ rfl)), rfl⟩⟩
  have hC : (pushCells ((s.heap.push { cls := .type "list", data := .seq ([] : List Value).toArray }).push { cls := .type "dict", data := .dict #[] }) csc.names).Ns (s.heap.objs.size + 1) (fun _ => none) := by
    have := (Heap.Ns.new (s.heap.push { cls := .type "list", data := .seq ([] : List Value).toArray }) (.type "dict")).keeps (pushCells_keeps csc.names _)
    rwa [Heap.size_push] at this
  have hrep : ∀ {v d}, Rep (wOf X.σ) s.heap v d → Rep (s.heap.objs.size :: wOf X.σ) (pushCells ((s.heap.push { cls := .type "list", data := .seq ([] : List Value).toArray }).push { cls := .type "dict", data := .dict #[] }) csc.names) v d := fun r =>
    (r.grow hnew).mono (fun a xs hw hl => ⟨hw, hl.keeps hget⟩) (fun a xs ht => by obtain ⟨o, e, q⟩ := ht; exact ⟨o, hget a o e, q⟩)
  have hcsmem : ∀ y c, (cellsFrom (s.heap.objs.size + 2) csc.names cl).lookup y = some c → (y, c) ∈ cellsFrom (s.heap.objs.size + 2) csc.names cl := fun y c e => lookup_mem e
  refine ⟨x, ⟨I1.good, I1.room, ⟨?_, ?_, I.env.globals, I.env.builtins, I.env.code, ?_, fun p hp => I.env.nice p (hρ p hp).1, ⟨_, hC⟩, I.good.fresh (fresh_ge (Nat.le_succ _)), ?_, ?_, ?_⟩, ⟨?_, ?_⟩, fun a ha => (List.mem_cons.mp ha).elim (fun q => by rw [q]; exact I.good.fresh hnew) (I.own a)⟩, ?_, hget⟩
  · show relabel csc env = _
    rw [relabel_eq, I.env.scope]
  · exact hkc
  · intro p hp
    obtain ⟨hp1, hp2⟩ := hρ p hp
    have hm : (p.1, NameKind.free) ∈ csc.names := lookup_mem hp2
    obtain ⟨hX, _⟩ := hfree _ hm rfl
    have hnotown : p.1 ∉ (csc.names.filter (·.2 == .cell)).map (·.1) := by
      intro q
      obtain ⟨⟨a, k⟩, hq, e⟩ := List.mem_map.mp q
      simp only [List.mem_filter] at hq
      have hk : k = .cell := by simpa using hq.2
      subst hk
      have e' : a = p.1 := e
      rw [e'] at hq
      have := hcell _ hq.1
      rw [hp2] at this; cases this
    obtain ⟨c, hc'⟩ := hcl2 _ hm rfl
    obtain ⟨c', hc''⟩ := lookup_of_mem hc'
    have he : env.cells.lookup p.1 = some c' := hcl1 (p.1, c') (lookup_mem hc'')
    rcases I.env.names p hp1 with ⟨k, _⟩ | ⟨k, c2, v, e1, e2, e3⟩
    · exfalso
      unfold Env.kindOf at k
      rw [I.env.scope] at k
      rcases hX with q | q <;> rw [k] at q <;> cases q
    · rw [he] at e1; cases e1
      refine .inr ⟨?_, c', v, ?_, e2.keeps hget, hrep e3⟩
      · show (relabel csc env).names.lookup p.1 = some .cell ∨ (relabel csc env).names.lookup p.1 = some .free
        rw [relabel_eq, I.env.scope, lookup_relab, hp2]
        rcases hX with q | q
        · left; rw [q]; simp [hkX]
        · right; rw [q]; simp
      · show (cellsFrom (s.heap.objs.size + 2) csc.names cl).lookup p.1 = some c'
        rw [CA.old _ hnotown]; exact hc''
  · intro z hz
    show ∃ c, (cellsFrom (s.heap.objs.size + 2) csc.names cl).lookup z = some c
    rw [lookup_relab] at hz
    have hz' : csc.names.lookup z = some .cell ∨ csc.names.lookup z = some .free := by
      cases hq : csc.names.lookup z with
      | none => rw [hq] at hz; simp at hz
      | some k =>
        rw [hq] at hz
        cases k <;> simp at hz ⊢
    refine Option.isSome_iff_exists.mp (cellsFrom_some csc.names _ cl ?_)
    rcases hz' with q | q
    · exact .inl q
    · obtain ⟨c, hc'⟩ := hcl2 _ (lookup_mem q) rfl
      exact .inr (Option.isSome_iff_exists.mpr (lookup_of_mem hc'))
  · intro z c hz
    rcases CA.mem _ (hcsmem z c hz) with q | ⟨q1, q2, _⟩
    · obtain ⟨⟨v, hv⟩, hn⟩ := I.env.cell _ _ (hcl1 _ q)
      exact ⟨⟨v, hv.keeps hget⟩, hn⟩
    · exact ⟨⟨none, q2⟩, I.good.fresh (fresh_ge (Nat.le_trans (Nat.le_add_right _ 2) q1))⟩
  · intro a b c ha hb
    exact CA.apart a b c (hcsmem _ _ ha) (hcsmem _ _ hb)
  · intro p hp
    rcases List.mem_cons.mp hp with rfl | hp
    · exact .list hDlist .nil
    · exact ((I.sig.at_ p hp).grow hnew).keeps hget
  · exact List.nodup_cons.mpr ⟨new_notin I.sig, I.sig.nodup⟩
  · intro y c hy hc'
    have : y ∈ (csc.names.filter (·.2 == .cell)).map (·.1) := List.mem_map.mpr ⟨(y, .cell), List.mem_filter.mpr ⟨lookup_mem hy, by simp⟩, rfl⟩
    exact fresh_ge (Nat.le_trans (Nat.le_add_right _ 2) (CA.new y this c hc'))
end Mine
end
section
local macro_rules | `(tactic| omega) => `(tactic| lia)
open PySem PySem.W PySem.Calls PyProof.Rows
namespace Mine

section
variable {X : Cx} {A : Around} {env : Env} {F : List Addr} {s : Shared}

/-- fewer facts of names -/
theorem In.weak (I : In X A env F s) {ρ : Env0} (h : ∀ p ∈ ρ, p ∈ X.ρ) : In (X.setρ ρ) A env F s :=
  ⟨I.good, I.room, ⟨I.env.scope, I.env.kind, I.env.globals, I.env.builtins, I.env.code, fun p hp => I.env.names p (h p hp), fun p hp => I.env.nice p (h p hp), I.env.loc, I.env.locNew, I.env.has, I.env.cell, I.env.apart⟩, I.sig, I.own⟩

/-- an owned list is turned -/
theorem In.setOwn {a : Addr} {h' : Heap} {tk : Nat} {vs' : List Value} {ds' : List D} (I : In X A env F s) (ha : a ∈ wOf X.σ) (hl : ∃ xs, s.heap.IsList a xs) (hs : Heap.ExtBut a s.heap h') (hn : PList h' a vs'.toArray)
    (hr : (∀ {vs ds}, Reps (wOf X.σ) s.heap vs ds → Reps (wOf X.σ) h' vs ds) → Reps (wOf X.σ) h' vs' ds') {σ : Sig} (hw : wOf σ = wOf X.σ) (hσ : ∀ p ∈ σ, (p ∈ X.σ ∧ p.1 ≠ a) ∨ p = (a, .list ds')) :
    Step X.G F [a] s { s with heap := h', toks := tk } ∧ In (X.setσ σ) A env F { s with heap := h', toks := tk } := by
  obtain ⟨xs, o, e, c, n, d⟩ := hl
  have hT : a ≠ X.G.T := ne_T I.good e (by rw [c]; exact fun q => Value.noConfusion q)
  have x : Step X.G F [a] s { s with heap := h', toks := tk } := Step.of_but hs hT (fun o' e' vs => by rw [e] at e'; cases e'; rw [d]; exact fun q => Data.noConfusion q)
  have hrep := x.rep I.good (W := wOf X.σ) (fun b hb => .inl (by rw [List.mem_singleton.mp hb]; exact ha)) I.sig.noTuple
  have hF : a ∉ F := fun q => by
    obtain ⟨_, _, o', es, ep, e', d'⟩ := I.room.fresh a q
    rw [e] at e'; cases e'; rw [d] at d'; cases d'
  have hloc : ∀ m, s.heap.Ns env.locals m → ({ s with heap := h', toks := tk } : Shared).heap.Ns env.locals m := fun m hm => x.ns I.good (fun q => by
    obtain ⟨o', es, ep, e', d', _⟩ := hm
    rw [List.mem_singleton.mp q, e] at e'; cases e'; rw [d] at d'; cases d') hm
  have hcel : ∀ c v, s.heap.IsCell c v → ({ s with heap := h', toks := tk } : Shared).heap.IsCell c v := fun c v hc => x.cell I.good (fun q => by
    obtain ⟨o', e', d'⟩ := hc
    rw [List.mem_singleton.mp q, e] at e'; cases e'; rw [d] at d'; cases d') hc
  refine ⟨x, ⟨I.good.step I.room.freshF (fun b hb => by rw [List.mem_singleton.mp hb]; exact I.own a ha) x, I.room.step x (fun b hb => .inl (by rw [List.mem_singleton.mp hb]; exact hF)),
    ⟨I.env.scope, I.env.kind, I.env.globals, I.env.builtins, I.env.code, fun p hp => ?_, I.env.nice, (let ⟨m, hm⟩ := I.env.loc; ⟨m, hloc m hm⟩), I.env.locNew, I.env.has, fun y c e => (let ⟨⟨v, hv⟩, q⟩ := I.env.cell y c e; ⟨⟨v, hcel c v hv⟩, q⟩), I.env.apart⟩,
    ⟨fun p hp => ?_, by rw [hw]; exact I.sig.nodup⟩, fun b hb => I.own b (by rw [← hw]; exact hb)⟩⟩
  · show NameAt (wOf σ) env h' p.1 p.2
    rw [hw]
    rcases I.env.names p hp with ⟨k, m', w, e1, e2, e3⟩ | ⟨k, c, w, e1, e2, e3⟩
    · exact .inl ⟨k, m', w, hloc _ e1, e2, hrep.1 e3⟩
    · exact .inr ⟨k, c, w, e1, hcel _ _ e2, hrep.1 e3⟩
  · show OwnAt (wOf σ) h' p.1 p.2
    rw [hw]
    rcases hσ p hp with ⟨hp, hne⟩ | rfl
    · exact x.ownAt I.good I.room.dicts (fun r => hrep.2 r) (fun q => hne (List.mem_singleton.mp q)) (fun l hl q => absurd (by rw [List.mem_singleton.mp q]; exact ha) hl) (I.sig.at_ p hp)
    · exact .list hn (hr fun r => hrep.2 r)

theorem SigOk.head {σ : Sig} {h : Heap} {a : Addr} {w : Own} (S : SigOk ((a, w) :: σ) h) : OwnAt (wOf ((a, w) :: σ)) h a w := S.at_ (a, w) (.head _)

theorem mapSeq_dict {f : Array Value → Array Value} {o : Obj} : (Obj.mapSeq f o).dict = o.dict := by
  obtain ⟨c, d, dt, sl⟩ := o; cases dt <;> rfl
theorem plist_update {h : Heap} {a : Addr} {xs : Array Value} (x : PList h a xs) (f : Array Value → Array Value) : PList (h.update a (Obj.mapSeq f)) a (f xs) := by
  obtain ⟨⟨o, ho, hc, n, hd⟩, nd⟩ := x
  obtain ⟨n', hd'⟩ := Obj.data_mapSeq hd f
  have e := Heap.get?_update_self (Obj.mapSeq f) ho (Obj.isFreed_of_seq hd')
  exact ⟨⟨_, e, (Obj.cls_mapSeq ..).trans hc, n', hd'⟩, ⟨_, e, mapSeq_dict.trans (nd.of ho)⟩⟩
theorem plist_append {prog : Program} {w : World} {E : Value → Shared → Prop} {l : Addr} {items : Array Value} {x : Value} {Q : Value → Shared → Prop} (hl : PList s.heap l items)
    (hQ : ∀ h', PList h' l (items.push x) → Heap.SameBut l s.heap h' → Q .none { s with heap := h' }) (hsz : items.size ≤ sizeLine) : wpAny (model prog w) A (call (.builtin "list.append") [.ref l, x]) Q E s := by
  obtain ⟨o, ho, hc, n, hd⟩ := id hl.1
  refine wpAny_call_entry slot_list_append hl.1.typeIs entry_list_append ?_ (args_list_append _ _)
  show wpAny _ _ (updateSeq l (·.push x) >>= fun _ => ret .none) _ _ s
  exact wpAny_bind (wpAny_updateSeq ho hd (wpAny_pure ⟨.none, rfl, hQ _ (plist_update hl _) (Heap.SameBut.update ..)⟩))
/-- append to the newest owned list -/
theorem In.append {G : Gd} {n : Nat} {sc : Scope} {cd : Value} {ρ : Env0} {σ : Sig} {a : Addr} {ds : List D} {d : D} {v : Value} (I : In ⟨G, n, sc, cd, ρ, (a, .list ds) :: σ⟩ A env F s) (r : Rep (a :: wOf σ) s.heap v d) (hz : ds.length ≤ 1000000) :
    wpAny (model G.prog G.w) A (call (.builtin "list.append") [.ref a, v]) (fun r s' => r = .none ∧ Step G F [a] s s' ∧ In ⟨G, n, sc, cd, ρ, (a, .list (ds ++ [d])) :: σ⟩ A env F s') (fun _ _ => False) s := by
  cases I.sig.head with
  | list hl rs =>
    rename_i vs
    refine plist_append hl (fun h' hn hs => ⟨rfl, ?_⟩) (by rw [List.size_toArray, rs.len, sizeLine_eq]; omega)
    have hn' : PList h' a (vs ++ [v]).toArray := by simpa using hn
    have hnd := List.nodup_cons.mp I.sig.nodup
    exact I.setOwn (tk := s.toks) (σ := (a, .list (ds ++ [d])) :: σ) (.head _) ⟨_, hl.1⟩ hs.extBut hn' (fun k => k (Reps.append (Reps.one r) rs)) rfl (fun p hp => by
        rcases List.mem_cons.mp hp with rfl | hp
        · exact .inr rfl
        · exact .inl ⟨.tail _ hp, fun q => hnd.1 (by rw [← q]; exact List.mem_map.mpr ⟨p, hp, rfl⟩)⟩)
end

/-- the tests of a comprehension -/
def Tests (X : Cx) (ifs : List Expr) (b : Bool) : Prop :=
  ∀ A env F s, In X A env F s → wpAny (model X.G.prog X.G.w) A (forIn ifs true fun c r => if r = true then do let ok ← isTrue c env (eval c env); pure (ForInStep.yield ok) else pure (ForInStep.yield r))
    (fun ok s' => Step X.G F [] s s' ∧ ok = b) (fun _ _ => False) s
theorem Tests.nil {X : Cx} : Tests X [] true := fun _ _ _ _ _ => wpAny_tests_nil ⟨Step.refl, rfl⟩
theorem Tests.one {X : Cx} {c : Expr} {b : Bool} (h : Tv X c b) : Tests X [c] b := fun A env F s I => wpAny_tests_one (h A env F s I)

section
variable {prog : Program} {w : World} {A : Around} {R : Result → Shared → Prop} {s : Shared}
theorem codeAny_compLoopG {elt target iter : Expr} {ifs : List Expr} {scope : Scope} {pos : Pos} {it acc : Value} {env : Env} (I : Nat → Shared → Prop)
    (turn : ∀ n s, I n s → wpAny (model prog w) A (pyNext it) (fun r s₁ => match r with
      | none => R (.ok .next) s₁
      | some v => wpAny (model prog w) A (letOwnedTupleGo target it v) (fun _ s₁' => wpAny (model prog w) A (assign target env v) (fun _ s₂ =>
          wpAny (model prog w) A (forIn ifs true fun c r => if r = true then do let ok ← isTrue c env (eval c env); pure (ForInStep.yield ok) else pure (ForInStep.yield r)) (fun ok s₃ =>
            if ok = true then wpAny (model prog w) A (eval elt env) (fun x s₄ => wpAny (model prog w) A (call (.builtin "list.append") [acc, x]) (fun _ s₅ => ∃ m, m < n ∧ I m s₅) (fun _ _ => False) s₄) (fun _ _ => False) s₃
            else ∃ m, m < n ∧ I m s₃) (fun _ _ => False) s₂) (fun _ _ => False) s₁') (fun _ _ => False) s₁) (fun _ _ => False) s)
    (n : Nat) (h : I n s) : codeAny (model prog w) A (.compLoop (.ListComp elt [⟨target, iter, ifs, 0⟩] scope pos) 0 it acc env) R s := by
  refine codeAny_loop rfl I (fun n s hI => ?_) n h
  show wpAny _ A ((compTurn (.ListComp elt [⟨target, iter, ifs, 0⟩] scope pos) 0 it acc env).onRaise (fun x => do noteFrame x env; theTreesLotGoes x)) _ _ s
  refine wpAny_noted ?_
  rw [compTurn_list]
  refine wpAny_bind (wpAny_standAt (wpAny_bind (wpAny_mono (turn n s hI) (fun r s₁ h₁ => ?_) fun _ _ h' => h'.elim)))
  cases r with
  | none => exact wpAny_pure h₁
  | some v =>
    refine wpAny_bind (wpAny_mono h₁ (fun _ s₁' h₁' => ?_) fun _ _ h' => h'.elim)
    refine wpAny_bind (wpAny_mono h₁' (fun _ s₂ h₂ => ?_) fun _ _ h' => h'.elim)
    refine wpAny_bind (wpAny_mono h₂ (fun ok s₃ h₃ => ?_) fun _ _ h' => h'.elim)
    cases ok with
    | false => exact wpAny_pure ⟨rfl, h₃⟩
    | true =>
      exact wpAny_bind (wpAny_bind (wpAny_mono h₃ (fun x s₄ h₄ => wpAny_bind (wpAny_mono h₄ (fun _ s₅ h₅ => wpAny_pure (wpAny_pure ⟨rfl, h₅⟩)) fun _ _ h' => h'.elim)) fun _ _ h' => h'.elim))
end
end Mine
end
section
local macro_rules | `(tactic| omega) => `(tactic| lia)
open PySem PySem.W PySem.Calls PyProof.Rows
namespace Mine

/-- an iterable's expression: the iterator that it comes to -/
def IterEx (X : Cx) (e target : Expr) (keys : List Str) (n : Nat) (bs : Nat → Env0) : Prop :=
  ∀ A env F s, In X A env F s → wpAny (model X.G.prog X.G.w) A (eval e env) (fun v s₁ => Step X.G F [] s s₁ ∧ wpAny (model X.G.prog X.G.w) A (pyIter v) (fun it s₂ => Step X.G F [] s₁ s₂ ∧
    ∃ I fp wr St, it = .ref I ∧ Turn X.G A target keys I n bs fp wr St ∧ St (wOf X.σ) 0 s₂.heap ∧ (∀ b ∈ wr, s.heap.get? b = none) ∧ (∀ b ∈ fp, b ∉ wOf X.σ)) (fun _ _ => False) s₁) (fun _ _ => False) s

theorem keepO {X : Cx} {A : Around} {env : Env} {F O fp : List Addr} {s s' : Shared} (I : In X A env F s) (x : Step X.G F O s s')
    (hfp : ∀ b ∈ fp, ∃ o, s.heap.get? b = some o ∧ o.cls ≠ .none ∧ (∀ es ep, o.data ≠ .dict es ep) ∧ (∀ v, o.data ≠ .cell v)) (hO : ∀ b ∈ O, b ∉ fp) : ∀ b ∈ fp, ∀ o, s.heap.get? b = some o → s'.heap.get? b = some o := fun b hb o e => by
  obtain ⟨o', e', c, nd, nc⟩ := hfp b hb
  rw [e] at e'; cases e'
  refine x.keep b o (ne_T I.good e c) (fun q => ?_) (fun q => hO b q hb) e
  obtain ⟨_, _, o', es, ep, e', d⟩ := I.room.fresh b q
  rw [e] at e'; cases e'; exact nd _ _ d

theorem In.notW {X : Cx} {A : Around} {env : Env} {F : List Addr} {s : Shared} (I : In X A env F s) {b : Addr} (h : s.heap.get? b = none) : b ∉ wOf X.σ := fun q => by
  obtain ⟨o, e, _⟩ := I.W_live q
  rw [h] at e; cases e
theorem Step.noneAt {G : Gd} {F O : List Addr} {s s' : Shared} (g : Good G s) (x : Step G F O s s') {b : Addr} (h : s'.heap.get? b = none) (hO : b ∉ O) : s.heap.get? b = none := by
  cases e : s.heap.get? b with
  | none => rfl
  | some o =>
    by_cases hT : b = G.T
    · subst hT
      obtain ⟨ps, h1, _⟩ := x.tab g.tab
      rw [h] at h1; cases h1
    · obtain ⟨o', e', _⟩ := x.data b o hT hO e
      rw [h] at e'; cases e'

theorem range_step {α : Type} (t : Nat → Bool) (f : Nat → α) (i : Nat) : (((List.range (i + 1)).filter t).map f) = (((List.range i).filter t).map f) ++ if t i then [f i] else [] := by
  rw [List.range_succ, List.filter_append, List.map_append]
  cases h : t i <;> simp [h]

theorem list_bound (t : Nat → Bool) (f : Nat → D) (i : Nat) : (((List.range i).filter t).map f).length ≤ i := by
  rw [List.length_map]
  exact Nat.le_trans (List.length_filter_le _ _) (by rw [List.length_range]; exact Nat.le_refl _)

theorem ownT_sub {env : Env} {keys keys' : List Str} (h : ∀ k ∈ keys, k ∈ keys') : ∀ b ∈ ownT env keys, b ∈ ownT env keys' := fun b hb => by
  rcases List.mem_cons.mp hb with q | q
  · rw [q]; exact .head _
  · obtain ⟨k, hk, q⟩ := List.mem_flatMap.mp q
    exact .tail _ (List.mem_flatMap.mpr ⟨k, h k hk, q⟩)

/-- a comprehension, up to its loop -/
theorem compCore {X : Cx} {A : Around} {env : Env} {F : List Addr} {s : Shared} {elt target iter : Expr} {ifs : List Expr} {rest : List Comprehension} {csc : Scope} {pos p0 : Pos} {keys keysAll : List Str} {n : Nat} {bs : Nat → Env0} {ρ : Env0} {res : List D} {use : Option (Value → Sem Unit)} {Q : Value → Shared → Prop}
    (I : In X A env F s) (hc : compOk csc X.sc = true) (hit : IterEx X iter target keys n bs) (hk : (keysAll.all fun k => storable (relab csc X.sc) k && (csc.names.lookup k == some .local || csc.names.lookup k == some .cell)) = true)
    (hρ : ∀ p ∈ ρ, p ∈ X.ρ ∧ csc.names.lookup p.1 = some .free) (hs : ∀ env x, foldedSetIterable iter env x = pure x)
    (loop : ∀ cenv s Dd I₀ fp wr St R, In ⟨X.G, X.n, relab csc X.sc, X.cd, ρ, (Dd, .list []) :: X.σ⟩ A cenv F s → Turn X.G A target keys I₀ n bs fp wr St → St (Dd :: wOf X.σ) 0 s.heap →
      (∀ b ∈ wr, b ∉ wOf ((Dd, Own.list []) :: X.σ) ∧ X.G.s1.heap.get? b = none) → Dd ∉ fp → (keysAll.all fun k => storable (relab csc X.sc) k) = true →
      (∀ s', Step X.G F (Dd :: (wr ++ ownT cenv keysAll)) s s' → In ⟨X.G, X.n, relab csc X.sc, X.cd, ρ, (Dd, .list res) :: X.σ⟩ A cenv F s' → R (.ok .next) s') →
      codeAny (model X.G.prog X.G.w) A (.compLoop (.ListComp elt (⟨target, iter, ifs, 0⟩ :: rest) csc pos) 0 (.ref I₀) (.ref Dd) cenv) R s)
    (fin : ∀ s' C Dd, Step X.G F [] s s' → Rep (wOf X.σ) s'.heap (.ref Dd) (.list res) → s.heap.get? C = none → (∃ m, s'.heap.Ns C m) → compPost (model X.G.prog X.G.w) A (fun _ _ => False) use Q (.ref Dd) C (.ok .next) s') :
    wpAny (model X.G.prog X.G.w) A (comprehension (.ListComp elt (⟨target, iter, ifs, 0⟩ :: rest) csc pos) csc env p0 (newList []) false (eval iter env) use) Q (fun _ _ => False) s := by
  have hc0 := hc
  unfold compOk at hc0
  rw [Bool.and_eq_true, Bool.and_eq_true] at hc0
  have hkc : csc.kind = .function := by simpa using hc0.1.1
  have hnames : ∀ x ∈ csc.names, x.2 = .local → csc.names.lookup x.1 = some .local := fun x hx hl => by
    have := List.all_eq_true.mp hc0.2 x hx
    rw [hl] at this
    simpa using this
  have hk' := List.all_eq_true.mp hk
  have hst : (keysAll.all fun k => storable (relab csc X.sc) k) = true := List.all_eq_true.mpr fun k hk => (Bool.and_eq_true_iff.mp (hk' k hk)).1
  obtain ⟨cl, hcl, _⟩ := I.comp hc hρ
  refine wpAny_comprehension_free rfl (hs env) hcl hkc hnames (wpAny_mono (hit A env F s I) (fun v s₁ h₁ => wpAny_mono h₁.2 (fun it s₂ h₂ => ?_) fun _ _ e => e.elim) fun _ _ e => e.elim)
  obtain ⟨x₁, _⟩ := h₁
  obtain ⟨x₂, I₀, fp, wr, St, rfl, T, st, hfr, _⟩ := h₂
  have x₁₂ : Step X.G F [] s s₂ := x₁.trans x₂
  have I₂ := I.step x₁₂
  obtain ⟨cl', hcl', hcomp⟩ := I₂.comp hc hρ
  have : cl' = cl := by rw [hcl] at hcl'; exact (Sem.pure.inj hcl').symm
  subst this
  refine wpAny_newList (wpAny_newCompEnv ?_) (Nat.zero_le _)
  obtain ⟨x₄, I₄, hown, hget⟩ := hcomp _ _ rfl rfl
  have hsz : ({ s₂ with heap := s₂.heap.push { cls := .type "list", data := .seq ([] : List Value).toArray } } : Shared).heap.objs.size = s₂.heap.objs.size + 1 := Heap.size_push ..
  rw [hsz]
  generalize hDd : s₂.heap.objs.size = Dd at *
  generalize hcs : cellsFrom (Dd + 1 + 1) csc.names cl' = cs at *
  generalize hH4 : pushCells ((s₂.heap.push { cls := .type "list", data := .seq ([] : List Value).toArray }).push { cls := .type "dict", data := .dict #[] }) csc.names = H4 at *
  have hDn : s₂.heap.get? Dd = none := fresh_ge (by rw [hDd]; exact Nat.le_refl _)
  have hlive2 := T.live _ _ _ st
  have hDfp : Dd ∉ fp := fun q => by obtain ⟨o, e, _⟩ := hlive2 _ q; rw [hDn] at e; cases e
  have hwrn : ∀ b ∈ wr, b ∉ wOf ((Dd, Own.list []) :: X.σ) ∧ X.G.s1.heap.get? b = none := fun b hb => by
    have h0 := hfr b hb
    refine ⟨fun q => ?_, I.good.fresh h0⟩
    rcases List.mem_cons.mp q with q | q
    · have q' : b = Dd := q
      rw [← q'] at hDfp; exact hDfp (T.sub b hb)
    · exact I.notW h0 q
  have st4 : St (Dd :: wOf X.σ) 0 H4 := T.keep _ _ _ _ (T.grow _ _ _ _ st hDn) (fun b _ o e => hget b o e) (fun r => r.keeps hget)
  let cenv := compEnvC csc cs (Dd + 1) env
  let O : List Addr := Dd :: (wr ++ ownT cenv keysAll)
  have fin' : ∀ s', Step X.G F O { s₂ with heap := H4 } s' → In ⟨X.G, X.n, relab csc X.sc, X.cd, ρ, (Dd, .list res) :: X.σ⟩ A cenv F s' → compPost (model X.G.prog X.G.w) A (fun _ _ => False) use Q (.ref Dd) (Dd + 1) (.ok .next) s' := by
    intro s' xO I'
    have hs2 : ∀ b, s₂.heap.get? b = none → s.heap.get? b = none := fun b hb => Step.noneAt I.good x₁₂ hb List.not_mem_nil
    have hOf : ∀ b ∈ O, s.heap.get? b = none := fun b hb => by
      rcases List.mem_cons.mp hb with rfl | hb
      · exact hs2 _ hDn
      · rcases List.mem_append.mp hb with hb | hb
        · exact hfr b hb
        · rcases List.mem_cons.mp hb with hb | hb
          · rw [hb]; exact hs2 _ (fresh_ge (by rw [hDd]; exact Nat.le_succ _))
          · obtain ⟨k, hk0, q⟩ := List.mem_flatMap.mp hb
            obtain ⟨q1, q2⟩ := mem_cellT q
            have h2 := (Bool.and_eq_true_iff.mp (hk' k hk0)).2
            rw [Bool.or_eq_true] at h2
            rcases h2 with h2 | h2
            · exfalso
              have h3 : csc.names.lookup k = some .local := by simpa using h2
              unfold Env.kindOf at q1
              rw [show cenv.scope = relab csc X.sc from I₄.env.scope, lookup_relab, h3] at q1
              simp at q1
            · exact hs2 _ (hown k b (by simpa using h2) q2)
    refine fin s' (Dd + 1) Dd ?_ ?_ (hs2 _ (fresh_ge (by rw [hDd]; exact Nat.le_succ _))) I'.env.loc
    · exact ((x₁₂.weak.trans x₄.weak).trans xO).mono (fun _ h _ => .inl h) fun b hb hne => absurd (hOf b hb) hne
    · cases I'.sig.head with
      | list hl rs => exact .list (I₂.notW hDn) hl (rs.less fun a ha => .tail _ ha)
  have L := loop cenv _ Dd I₀ fp wr St _ I₄ T st4 hwrn hDfp hst fin'
  exact codeAny_compStart_list L (T.self _ 0 _ _ _ st4 L)

theorem Ev.of_comp {X : Cx} {elt target iter : Expr} {ifs : List Expr} {rest : List Comprehension} {csc : Scope} {pos : Pos} {res : List D}
    (h : ∀ A env F s (p0 : Pos) (use : Option (Value → Sem Unit)) Q, In X A env F s → (∀ s' C Dd, Step X.G F [] s s' → Rep (wOf X.σ) s'.heap (.ref Dd) (.list res) → s.heap.get? C = none → (∃ m, s'.heap.Ns C m) → compPost (model X.G.prog X.G.w) A (fun _ _ => False) use Q (.ref Dd) C (.ok .next) s') →
      wpAny (model X.G.prog X.G.w) A (comprehension (.ListComp elt (⟨target, iter, ifs, 0⟩ :: rest) csc pos) csc env p0 (newList []) false (eval iter env) use) Q (fun _ _ => False) s) :
    Ev X (.ListComp elt (⟨target, iter, ifs, 0⟩ :: rest) csc pos) (.list res) := by
  intro A env F s I
  rw [eval_ListComp]
  refine h A env F s _ none _ I fun s' C Dd x r hC ⟨m, hm⟩ => ⟨m, hm, fun h' hs' => ?_⟩
  have I' := I.step x
  obtain ⟨oC, esC, epC, eC, dC, _⟩ := id hm
  have xC : Step X.G F [C] s' { s' with heap := h' } := Step.of_but (tk := s'.toks) hs'.extBut (ne_T' I'.good eC (by rw [dC]; exact fun _ q => Data.noConfusion q)) (fun o e vs => by rw [eC] at e; cases e; rw [dC]; exact fun q => Data.noConfusion q)
  refine ⟨(x.weak.trans xC).mono (fun _ h _ => .inl h) fun b hb hne => by rw [List.mem_singleton.mp hb] at hne; exact absurd hC hne, ?_⟩
  exact (xC.rep I'.good (W := wOf X.σ) (fun b hb => .inr fun o e xs n d => by rw [List.mem_singleton.mp hb, eC] at e; cases e; rw [dC] at d; cases d) I'.sig.noTuple).1 r

abbrev CompWp (X : Cx) (e : Expr) (csc : Scope) (iter : Expr) (res : List D) : Prop :=
  ∀ A env F s (p0 : Pos) (use : Option (Value → Sem Unit)) Q, In X A env F s → (∀ s' C Dd, Step X.G F [] s s' → Rep (wOf X.σ) s'.heap (.ref Dd) (.list res) → s.heap.get? C = none → (∃ m, s'.heap.Ns C m) → compPost (model X.G.prog X.G.w) A (fun _ _ => False) use Q (.ref Dd) C (.ok .next) s') →
      wpAny (model X.G.prog X.G.w) A (comprehension e csc env p0 (newList []) false (eval iter env) use) Q (fun _ _ => False) s

theorem CompWp.one {X : Cx} {elt target iter : Expr} {ifs : List Expr} {csc : Scope} {pos : Pos} {keys : List Str} {n : Nat} {bs : Nat → Env0} {ρ : Env0} {t : Nat → Bool} {f : Nat → D}
    (hc : compOk csc X.sc = true) (hit : IterEx X iter target keys n bs) (hk : (keys.all fun k => storable (relab csc X.sc) k && (csc.names.lookup k == some .local || csc.names.lookup k == some .cell)) = true)
    (hρ : ∀ p ∈ ρ, p ∈ X.ρ ∧ csc.names.lookup p.1 = some .free) (hkρ : ∀ p ∈ ρ, p.1 ∉ keys)
    (hT : ∀ i, i < n → ∀ σ, Tests ⟨X.G, X.n, relab csc X.sc, X.cd, bs i ++ ρ, σ⟩ ifs (t i))
    (hE : ∀ i, i < n → t i = true → ∀ σ, Ev ⟨X.G, X.n, relab csc X.sc, X.cd, bs i ++ ρ, σ⟩ elt (f i)) (hn : n ≤ 1000000)
    (hs : ∀ env x, foldedSetIterable iter env x = pure x := by intro _ _; rfl) :
    CompWp X (.ListComp elt [⟨target, iter, ifs, 0⟩] csc pos) csc iter (((List.range n).filter t).map f) := by
  intro A env F s p0 use Q I fin
  refine compCore I hc hit hk hρ hs ?_ fin
  intro cenv sL Dd I₀ fp wr St R I₄ T st4 hwrn hDfp hst hR
  let res : Nat → List D := fun i => ((List.range i).filter t).map f
  let X' : Nat → Cx := fun i => ⟨X.G, X.n, relab csc X.sc, X.cd, ρ, (Dd, .list (res i)) :: X.σ⟩
  let O : List Addr := Dd :: (wr ++ ownT cenv keys)
  let J : Nat → Shared → Prop := fun i s' => Step X.G F O sL s' ∧ In (X' i) A cenv F s' ∧ St (Dd :: wOf X.σ) i s'.heap
  refine codeAny_compLoopG (fun m s' => ∃ i, i ≤ n ∧ m = n - i ∧ J i s') ?_ n ⟨0, Nat.zero_le _, rfl, Step.refl, I₄, st4⟩
  rintro m s' ⟨i, hin, rfl, xJ, IJ, stJ⟩
  by_cases hi : i < n
  · refine wpAny_mono (T.item (X' i) cenv F i s' rfl hi stJ hwrn IJ hst (fun p hp => hkρ p hp)) (fun r s₅ h₅ => ?_) fun _ _ e => e
    obtain ⟨v, rfl, h₅⟩ := h₅
    refine wpAny_mono h₅ (fun _ s₆ h₆ => wpAny_mono h₆ (fun _ s₇ ⟨x₇, st₇, I₇⟩ => ?_) fun _ _ e => e) fun _ _ e => e
    have hlive7 := T.live _ _ _ st₇
    refine wpAny_mono (hT i hi _ A cenv F s₇ I₇) (fun ok s₈ ⟨x₈, hok⟩ => ?_) fun _ _ e => e
    subst hok
    have I₈ := I₇.step x₈
    have st₈ : St (Dd :: wOf X.σ) (i + 1) s₈.heap := T.keep _ _ _ _ st₇ (keepO I₇ x₈ hlive7 fun b hb => absurd hb List.not_mem_nil) (fun r => I₇.reps x₈ r)
    have x78 : Step X.G F O sL s₈ := xJ.trans ((x₇.mono (fun _ h _ => .inl h) fun b hb _ => .tail _ hb).trans x₈.weak)
    by_cases ht : t i = true
    · rw [if_pos ht]
      refine wpAny_mono (hE i hi ht _ A cenv F s₈ I₈) (fun v' s₉ ⟨x₉, r₉⟩ => ?_) fun _ _ e => e
      have I₉ := I₈.step x₉
      have hlive8 := T.live _ _ _ st₈
      have st₉ : St (Dd :: wOf X.σ) (i + 1) s₉.heap := T.keep _ _ _ _ st₈ (keepO I₈ x₉ hlive8 fun b hb => absurd hb List.not_mem_nil) (fun r => I₈.reps x₉ r)
      refine wpAny_mono (In.append I₉ r₉ (Nat.le_trans (list_bound t f i) (by omega))) (fun _ s₀ ⟨_, x₀, I₀'⟩ => ?_) fun _ _ e => e
      have hlive9 := T.live _ _ _ st₉
      refine ⟨n - (i + 1), by omega, i + 1, by omega, rfl, (x78.trans x₉.weak).trans (x₀.mono (fun _ h _ => .inl h) fun b hb _ => by rw [List.mem_singleton.mp hb]; exact .head _), ?_, ?_⟩
      · have e : res (i + 1) = res i ++ [f i] := by show (((List.range (i + 1)).filter t).map f) = _; rw [range_step, if_pos ht]
        show In ⟨X.G, X.n, relab csc X.sc, X.cd, ρ, (Dd, .list (res (i + 1))) :: X.σ⟩ A cenv F s₀
        rw [e]
        exact I₀'.weak fun p hp => List.mem_append_right _ hp
      · refine T.keep _ _ _ _ st₉ (keepO I₉ x₀ hlive9 fun b hb => by rw [List.mem_singleton.mp hb]; exact hDfp) (fun r => ?_)
        exact (x₀.rep I₉.good (W := Dd :: wOf X.σ) (fun b hb => .inl (by rw [List.mem_singleton.mp hb]; exact .head _)) I₉.sig.noTuple).2 r
    · rw [if_neg ht]
      refine ⟨n - (i + 1), by omega, i + 1, by omega, rfl, x78, ?_, st₈⟩
      have e : res (i + 1) = res i := by show (((List.range (i + 1)).filter t).map f) = _; rw [range_step, if_neg ht, List.append_nil]
      show In ⟨X.G, X.n, relab csc X.sc, X.cd, ρ, (Dd, .list (res (i + 1))) :: X.σ⟩ A cenv F s₈
      rw [e]
      exact I₈.weak fun p hp => List.mem_append_right _ hp
  · have : i = n := by omega
    subst this
    refine wpAny_mono (T.done (X' i) cenv F s' rfl stJ hwrn IJ) (fun r s₅ ⟨hr, x₅, I₅⟩ => ?_) fun _ _ e => e
    subst hr
    exact hR _ (xJ.trans (x₅.mono (fun _ h _ => .inl h) fun b hb _ => .tail _ (List.mem_append_left _ hb))) I₅
end Mine
end
section
local macro_rules | `(tactic| omega) => `(tactic| lia)
open PySem PySem.W PySem.Calls PyProof.Rows
namespace Mine

theorem compTurn_in (elt t0 i0 t1 i1 : Expr) (scope : Scope) (pos : Pos) (it acc : Value) (env : Env) :
    compTurn (.ListComp elt [⟨t0, i0, [], 0⟩, ⟨t1, i1, [], 0⟩] scope pos) 1 it acc env = (standAt i1.pos >>= fun _ => pyNext it >>= fun r => match r with
      | none => pure (.done .next)
      | some v => letOwnedTupleGo t1 it v >>= fun _ => assign t1 env v >>= fun _ =>
        (eval elt env >>= fun x => call (.builtin "list.append") [acc, x] >>= fun _ => pure ()) >>= fun _ =>
          again (.compLoop (.ListComp elt [⟨t0, i0, [], 0⟩, ⟨t1, i1, [], 0⟩] scope pos) 1 it acc env)) := by rfl
theorem compTurn_out (elt t0 i0 t1 i1 : Expr) (scope : Scope) (pos : Pos) (it acc : Value) (env : Env) :
    compTurn (.ListComp elt [⟨t0, i0, [], 0⟩, ⟨t1, i1, [], 0⟩] scope pos) 0 it acc env = (standAt i0.pos >>= fun _ => pyNext it >>= fun r => match r with
      | none => pure (.done .next)
      | some v => letOwnedTupleGo t0 it v >>= fun _ => assign t0 env v >>= fun _ =>
        (eval i1 env >>= fun x => standAt i1.pos >>= fun _ => foldedSetIterable i1 env x >>= fun x => holding [x] (pyIter x) >>= fun it1 =>
          runOwn (.compStart (.ListComp elt [⟨t0, i0, [], 0⟩, ⟨t1, i1, [], 0⟩] scope pos) 1 it1 acc env) env >>= fun _ =>
          again (.compLoop (.ListComp elt [⟨t0, i0, [], 0⟩, ⟨t1, i1, [], 0⟩] scope pos) 0 it acc env))) := by rfl

section
variable {prog : Program} {w : World} {A : Around} {R : Result → Shared → Prop} {s : Shared}
theorem codeAny_compStart_in {elt t0 i0 t1 i1 : Expr} {scope : Scope} {pos : Pos} {it acc : Value} {env : Env}
    (h0 : codeAny (model prog w) A (.compLoop (.ListComp elt [⟨t0, i0, [], 0⟩, ⟨t1, i1, [], 0⟩] scope pos) 1 it acc env) R s)
    (h : wpAny (model prog w) A (pyIter it) (fun it' s' => codeAny (model prog w) A (.compLoop (.ListComp elt [⟨t0, i0, [], 0⟩, ⟨t1, i1, [], 0⟩] scope pos) 1 it' acc env) R s') (notedBy (model prog w) A env fun x s' => R (.error x) s') s) :
    codeAny (model prog w) A (.compStart (.ListComp elt [⟨t0, i0, [], 0⟩, ⟨t1, i1, [], 0⟩] scope pos) 1 it acc env) R s := by
  refine codeAny_of_tree ?_
  show wpAny _ A ((compStart (.ListComp elt [⟨t0, i0, [], 0⟩, ⟨t1, i1, [], 0⟩] scope pos) 1 it acc env).onRaise (fun x => do noteFrame x env; standAt theWindowsPlace)) _ _ s
  refine wpAny_notedAt ?_
  unfold compStart
  show wpAny _ _ (ask >>= _) _ _ s
  refine wpAny_bind (wpAny_askSetting (wpAny_ite ?_))
  split
  · first
      | exact wpAny_bind (wpAny_pure (wpAny_pure (And.intro rfl h0)))
      | exact wpAny_pure (And.intro rfl h0)
  · first
      | exact wpAny_bind (wpAny_rule (wpAny_bind (wpAny_standAt (wpAny_bind (wpAny_mono h (fun it' s' h' => wpAny_pure (And.intro rfl h')) fun _ _ x => x)))))
      | (refine wpAny_bind (wpAny_rule ?_); show wpAny _ _ (standAt i1.pos >>= _) _ _ s; exact wpAny_bind (wpAny_standAt (wpAny_bind (wpAny_mono h (fun it' s' h' => wpAny_pure (And.intro rfl h')) fun _ _ x => x))))

theorem codeAny_compLoopIn {elt t0 i0 t1 i1 : Expr} {scope : Scope} {pos : Pos} {it acc : Value} {env : Env} (I : Nat → Shared → Prop)
    (turn : ∀ n s, I n s → wpAny (model prog w) A (pyNext it) (fun r s₁ => match r with
      | none => R (.ok .next) s₁
      | some v => wpAny (model prog w) A (letOwnedTupleGo t1 it v) (fun _ s₁' => wpAny (model prog w) A (assign t1 env v) (fun _ s₂ =>
          wpAny (model prog w) A (eval elt env) (fun x s₄ => wpAny (model prog w) A (call (.builtin "list.append") [acc, x]) (fun _ s₅ => ∃ m, m < n ∧ I m s₅) (fun _ _ => False) s₄) (fun _ _ => False) s₂) (fun _ _ => False) s₁') (fun _ _ => False) s₁) (fun _ _ => False) s)
    (n : Nat) (h : I n s) : codeAny (model prog w) A (.compLoop (.ListComp elt [⟨t0, i0, [], 0⟩, ⟨t1, i1, [], 0⟩] scope pos) 1 it acc env) R s := by
  refine codeAny_loop rfl I (fun n s hI => ?_) n h
  show wpAny _ A ((compTurn (.ListComp elt [⟨t0, i0, [], 0⟩, ⟨t1, i1, [], 0⟩] scope pos) 1 it acc env).onRaise (fun x => do noteFrame x env; theTreesLotGoes x)) _ _ s
  refine wpAny_noted ?_
  rw [compTurn_in]
  refine wpAny_bind (wpAny_standAt (wpAny_bind (wpAny_mono (turn n s hI) (fun r s₁ h₁ => ?_) fun _ _ h' => h'.elim)))
  cases r with
  | none => exact wpAny_pure h₁
  | some v =>
    refine wpAny_bind (wpAny_mono h₁ (fun _ s₁' h₁' => ?_) fun _ _ h' => h'.elim)
    refine wpAny_bind (wpAny_mono h₁' (fun _ s₂ h₂ => ?_) fun _ _ h' => h'.elim)
    exact wpAny_bind (wpAny_bind (wpAny_mono h₂ (fun x s₄ h₄ => wpAny_bind (wpAny_mono h₄ (fun _ s₅ h₅ => wpAny_pure (wpAny_pure ⟨rfl, h₅⟩)) fun _ _ h' => h'.elim)) fun _ _ h' => h'.elim))

theorem mark_none (A : Around) : A.mark none = A := rfl
theorem codeAny_compLoopOut {elt t0 i0 t1 i1 : Expr} {scope : Scope} {pos : Pos} {it acc : Value} {env : Env} (I : Nat → Shared → Prop) (hs : ∀ x, foldedSetIterable i1 env x = pure x)
    (turn : ∀ n s, I n s → wpAny (model prog w) A (pyNext it) (fun r s₁ => match r with
      | none => R (.ok .next) s₁
      | some v => wpAny (model prog w) A (letOwnedTupleGo t0 it v) (fun _ s₁' => wpAny (model prog w) A (assign t0 env v) (fun _ s₂ =>
          wpAny (model prog w) A (eval i1 env) (fun x s₃ => wpAny (model prog w) A (pyIter x) (fun it1 s₄ =>
            codeAny (model prog w) A (.compStart (.ListComp elt [⟨t0, i0, [], 0⟩, ⟨t1, i1, [], 0⟩] scope pos) 1 it1 acc env) (fun r s₅ => match r with | .ok _ => ∃ m, m < n ∧ I m s₅ | .error _ => False) s₄) (fun _ _ => False) s₃) (fun _ _ => False) s₂) (fun _ _ => False) s₁') (fun _ _ => False) s₁) (fun _ _ => False) s)
    (n : Nat) (h : I n s) : codeAny (model prog w) A (.compLoop (.ListComp elt [⟨t0, i0, [], 0⟩, ⟨t1, i1, [], 0⟩] scope pos) 0 it acc env) R s := by
  refine codeAny_loop rfl I (fun n s hI => ?_) n h
  show wpAny _ A ((compTurn (.ListComp elt [⟨t0, i0, [], 0⟩, ⟨t1, i1, [], 0⟩] scope pos) 0 it acc env).onRaise (fun x => do noteFrame x env; theTreesLotGoes x)) _ _ s
  refine wpAny_noted ?_
  rw [compTurn_out]
  refine wpAny_bind (wpAny_standAt (wpAny_bind (wpAny_mono (turn n s hI) (fun r s₁ h₁ => ?_) fun _ _ h' => h'.elim)))
  cases r with
  | none => exact wpAny_pure h₁
  | some v =>
    refine wpAny_bind (wpAny_mono h₁ (fun _ s₁' h₁' => ?_) fun _ _ h' => h'.elim)
    refine wpAny_bind (wpAny_mono h₁' (fun _ s₂ h₂ => ?_) fun _ _ h' => h'.elim)
    refine wpAny_bind (wpAny_mono h₂ (fun x s₃ h₃ => ?_) fun _ _ h' => h'.elim)
    refine wpAny_bind (wpAny_standAt (wpAny_bind (wpAny_of_eq (hs x) (wpAny_bind (wpAny_holding (wpAny_mono h₃ (fun it1 s₄ h₄ => ?_) fun _ _ h' => h'.elim))))))
    refine wpAny_bind (wpAny_runOwn (codeAny_mono h₄ fun r s₅ h₅ => ?_))
    cases r with
    | ok f => exact wpAny_pure ⟨rfl, h₅⟩
    | error e => exact h₅.elim
end

theorem flat_step {α : Type} (k : Nat → Nat) (f : Nat → Nat → α) (i : Nat) : (List.range (i + 1)).flatMap (fun i => (List.range (k i)).map (f i)) = (List.range i).flatMap (fun i => (List.range (k i)).map (f i)) ++ (List.range (k i)).map (f i) := by
  rw [List.range_succ, List.flatMap_append]; simp
theorem flat_bound (k : Nat → Nat) (f : Nat → Nat → D) (N : Nat) : ∀ i, (∀ j, j < i → k j ≤ N) → ((List.range i).flatMap (fun i => (List.range (k i)).map (f i))).length ≤ i * N
  | 0, _ => by simp
  | i + 1, h => by
    rw [flat_step, List.length_append, List.length_map, List.length_range, Nat.add_mul, Nat.one_mul]
    exact Nat.add_le_add (flat_bound k f N i fun j hj => h j (Nat.lt_succ_of_lt hj)) (h i (Nat.lt_succ_self _))

theorem CompWp.two {X : Cx} {elt t0 i0 t1 i1 : Expr} {csc : Scope} {pos : Pos} {keys0 keys1 : List Str} {n : Nat} {k : Nat → Nat} {bs0 : Nat → Env0} {bs1 : Nat → Nat → Env0} {ρ : Env0} {f : Nat → Nat → D}
    (hc : compOk csc X.sc = true) (hit : IterEx X i0 t0 keys0 n bs0) (hk : ((keys0 ++ keys1).all fun k => storable (relab csc X.sc) k && (csc.names.lookup k == some .local || csc.names.lookup k == some .cell)) = true)
    (hρ : ∀ p ∈ ρ, p ∈ X.ρ ∧ csc.names.lookup p.1 = some .free) (hkρ : ∀ p ∈ ρ, p.1 ∉ keys0) (hkρ1 : ∀ i, i < n → ∀ p ∈ bs0 i ++ ρ, p.1 ∉ keys1)
    (hit1 : ∀ i, i < n → ∀ σ, IterEx ⟨X.G, X.n, relab csc X.sc, X.cd, bs0 i ++ ρ, σ⟩ i1 t1 keys1 (k i) (bs1 i))
    (hE : ∀ i, i < n → ∀ j, j < k i → ∀ σ, Ev ⟨X.G, X.n, relab csc X.sc, X.cd, bs1 i j ++ (bs0 i ++ ρ), σ⟩ elt (f i j)) (hn : n ≤ 1000) (hn1 : ∀ i, i < n → k i ≤ 900)
    (hs : ∀ env x, foldedSetIterable i0 env x = pure x := by intro _ _; rfl) (hs1 : ∀ env x, foldedSetIterable i1 env x = pure x := by intro _ _; rfl) :
    CompWp X (.ListComp elt [⟨t0, i0, [], 0⟩, ⟨t1, i1, [], 0⟩] csc pos) csc i0 ((List.range n).flatMap fun i => (List.range (k i)).map (f i)) := by
  intro A env F s p0 use Q I fin
  refine compCore I hc hit hk hρ hs ?_ fin
  intro cenv sL Dd I₀ fp wr St R I₄ T st4 hwrn hDfp hst hR
  rw [List.all_append, Bool.and_eq_true] at hst
  let res : Nat → List D := fun i => (List.range i).flatMap fun i => (List.range (k i)).map (f i)
  let X' : Nat → Cx := fun i => ⟨X.G, X.n, relab csc X.sc, X.cd, ρ, (Dd, .list (res i)) :: X.σ⟩
  let O : List Addr := Dd :: (wr ++ ownT cenv (keys0 ++ keys1))
  let J : Nat → Shared → Prop := fun i s' => Step X.G F O sL s' ∧ In (X' i) A cenv F s' ∧ St (Dd :: wOf X.σ) i s'.heap
  refine codeAny_compLoopOut (fun m s' => ∃ i, i ≤ n ∧ m = n - i ∧ J i s') (hs1 _) ?_ n ⟨0, Nat.zero_le _, rfl, Step.refl, I₄, st4⟩
  rintro m s' ⟨i, hin, rfl, xJ, IJ, stJ⟩
  by_cases hi : i < n
  · refine wpAny_mono (T.item (X' i) cenv F i s' rfl hi stJ hwrn IJ hst.1 (fun p hp => hkρ p hp)) (fun r s₅ h₅ => ?_) fun _ _ e => e
    obtain ⟨v, rfl, h₅⟩ := h₅
    refine wpAny_mono h₅ (fun _ s₆ h₆ => wpAny_mono h₆ (fun _ s₇ ⟨x₇, st₇, I₇⟩ => ?_) fun _ _ e => e) fun _ _ e => e
    refine wpAny_mono (hit1 i hi _ A cenv F s₇ I₇) (fun v s₈ ⟨x₈, h₈⟩ => wpAny_mono h₈ (fun it1 s₉ ⟨x₉, I1, fp1, wr1, St1, e1, T1, st1, hfr1, hfp1⟩ => ?_) fun _ _ e => e) fun _ _ e => e
    subst e1
    have x79 : Step X.G F [] s₇ s₉ := x₈.trans x₉
    have I₉ := I₇.step x79
    have hlive7 := T.live _ _ _ st₇
    have st₉ : St (Dd :: wOf X.σ) (i + 1) s₉.heap := T.keep _ _ _ _ st₇ (keepO I₇ x79 hlive7 fun b hb => absurd hb List.not_mem_nil) (fun r => I₇.reps x79 r)
    have hD1 : Dd ∉ fp1 := fun q => hfp1 _ q (.head _)
    have hwr1 : ∀ b ∈ wr1, b ∉ Dd :: wOf X.σ ∧ X.G.s1.heap.get? b = none := fun b hb => ⟨hfp1 b (T1.sub b hb), I₇.good.fresh (hfr1 b hb)⟩
    have hwfp : ∀ b ∈ wr1, b ∉ fp := fun b hb q => by
      obtain ⟨o, e, _⟩ := hlive7 b q
      rw [hfr1 b hb] at e; cases e
    let X1 : Nat → Cx := fun j => ⟨X.G, X.n, relab csc X.sc, X.cd, bs0 i ++ ρ, (Dd, .list (res i ++ (List.range j).map (f i))) :: X.σ⟩
    let O1 : List Addr := Dd :: (wr1 ++ ownT cenv keys1)
    let J1 : Nat → Shared → Prop := fun j s' => Step X.G F O1 s₉ s' ∧ In (X1 j) A cenv F s' ∧ St (Dd :: wOf X.σ) (i + 1) s'.heap ∧ St1 (Dd :: wOf X.σ) j s'.heap
    have start : J1 0 s₉ := ⟨Step.refl, (by show In ⟨X.G, X.n, relab csc X.sc, X.cd, bs0 i ++ ρ, (Dd, .list (res i ++ [])) :: X.σ⟩ A cenv F s₉; rw [List.append_nil]; exact I₉), st₉, st1⟩
    have L : codeAny (model X.G.prog X.G.w) A (.compLoop (.ListComp elt [⟨t0, i0, [], 0⟩, ⟨t1, i1, [], 0⟩] csc pos) 1 (.ref I1) (.ref Dd) cenv) (fun r s₅ => match r with | .ok _ => ∃ m, m < n - i ∧ ∃ i, i ≤ n ∧ m = n - i ∧ J i s₅ | .error _ => False) s₉ := by
      refine codeAny_compLoopIn (fun m s' => ∃ j, j ≤ k i ∧ m = k i - j ∧ J1 j s') ?_ (k i) ⟨0, Nat.zero_le _, rfl, start⟩
      rintro m s' ⟨j, hjn, rfl, y, IJ1, stA, stB⟩
      by_cases hj : j < k i
      · refine wpAny_mono (T1.item (X1 j) cenv F j s' rfl hj stB hwr1 IJ1 hst.2 (hkρ1 i hi)) (fun r a₁ h₁ => ?_) fun _ _ e => e
        obtain ⟨v, rfl, h₁⟩ := h₁
        have hliveA := T.live _ _ _ stA
        refine wpAny_mono h₁ (fun _ a₂ h₂ => wpAny_mono h₂ (fun _ a₃ ⟨z₃, st₃, I₃⟩ => ?_) fun _ _ e => e) fun _ _ e => e
        have hown1 : ∀ b ∈ wr1 ++ ownT cenv keys1, b ∉ fp := fun b hb => by
          rcases List.mem_append.mp hb with hb | hb
          · exact hwfp b hb
          · intro q
            obtain ⟨o, e, _, nd, nc⟩ := hliveA b q
            rcases List.mem_cons.mp hb with q1 | q1
            · obtain ⟨m, o', es, ep, e', d, _⟩ := IJ1.env.loc
              rw [q1] at e; rw [e] at e'; cases e'; exact nd _ _ d
            · obtain ⟨kk, _, q1⟩ := List.mem_flatMap.mp q1
              obtain ⟨⟨v', o', e', d⟩, _⟩ := IJ1.env.cell kk b (mem_cellT q1).2
              rw [e] at e'; cases e'; exact nc _ d
        have rep3 : ∀ {vs ds}, Reps (Dd :: wOf X.σ) s'.heap vs ds → Reps (Dd :: wOf X.σ) a₃.heap vs ds := fun r => by
          refine (z₃.rep IJ1.good (W := Dd :: wOf X.σ) (fun b hb => .inr fun o e xs nn d => ?_) IJ1.sig.noTuple).2 r
          rcases List.mem_append.mp hb with hb | hb
          · obtain ⟨o', fs, e', _, d', _⟩ := T1.turner _ _ _ stB b hb
            rw [e] at e'; cases e'; rw [d] at d'; cases d'
          · rcases List.mem_cons.mp hb with q1 | q1
            · obtain ⟨m, o', es, ep, e', d', _⟩ := IJ1.env.loc
              rw [q1] at e; rw [e] at e'; cases e'; rw [d] at d'; cases d'
            · obtain ⟨kk, _, q1⟩ := List.mem_flatMap.mp q1
              obtain ⟨⟨v', o', e', d'⟩, _⟩ := IJ1.env.cell kk b (mem_cellT q1).2
              rw [e] at e'; cases e'; rw [d] at d'; cases d'
        have stA3 : St (Dd :: wOf X.σ) (i + 1) a₃.heap := T.keep _ _ _ _ stA (keepO IJ1 z₃ hliveA hown1) (fun r => rep3 r)
        refine wpAny_mono (hE i hi j hj _ A cenv F a₃ I₃) (fun v' a₄ ⟨z₄, r₄⟩ => ?_) fun _ _ e => e
        have I₄ := I₃.step z₄
        have stA4 : St (Dd :: wOf X.σ) (i + 1) a₄.heap := T.keep _ _ _ _ stA3 (keepO I₃ z₄ (T.live _ _ _ stA3) fun b hb => absurd hb List.not_mem_nil) (fun r => I₃.reps z₄ r)
        have stB4 : St1 (Dd :: wOf X.σ) (j + 1) a₄.heap := T1.keep _ _ _ _ st₃ (keepO I₃ z₄ (T1.live _ _ _ st₃) fun b hb => absurd hb List.not_mem_nil) (fun r => I₃.reps z₄ r)
        refine wpAny_mono (In.append I₄ r₄ ?_) (fun _ a₅ ⟨_, z₅, I₅⟩ => ?_) fun _ _ e => e
        · rw [List.length_append, List.length_map, List.length_range]
          have b1 := flat_bound k f 900 i fun j hj => hn1 j (by omega)
          have b2 := hn1 i hi
          have b3 : (res i).length ≤ i * 900 := b1
          have b4 : i * 900 ≤ 1000 * 900 := Nat.mul_le_mul_right _ (by omega)
          omega
        · have rep5 : ∀ {vs ds}, Reps (Dd :: wOf X.σ) a₄.heap vs ds → Reps (Dd :: wOf X.σ) a₅.heap vs ds := fun r => (z₅.rep I₄.good (W := Dd :: wOf X.σ) (fun b hb => .inl (by rw [List.mem_singleton.mp hb]; exact .head _)) I₄.sig.noTuple).2 r
          refine ⟨k i - (j + 1), by omega, j + 1, by omega, rfl, ((y.trans (z₃.mono (fun _ h _ => .inl h) fun b hb _ => .tail _ hb)).trans z₄.weak).trans (z₅.mono (fun _ h _ => .inl h) fun b hb _ => by rw [List.mem_singleton.mp hb]; exact .head _), ?_, ?_, ?_⟩
          · show In ⟨X.G, X.n, relab csc X.sc, X.cd, bs0 i ++ ρ, (Dd, .list (res i ++ (List.range (j + 1)).map (f i))) :: X.σ⟩ A cenv F a₅
            rw [List.range_succ, List.map_append, ← List.append_assoc]
            exact I₅.weak fun p hp => List.mem_append_right _ hp
          · exact T.keep _ _ _ _ stA4 (keepO I₄ z₅ (T.live _ _ _ stA4) fun b hb => by rw [List.mem_singleton.mp hb]; exact hDfp) (fun r => rep5 r)
          · exact T1.keep _ _ _ _ stB4 (keepO I₄ z₅ (T1.live _ _ _ stB4) fun b hb => by rw [List.mem_singleton.mp hb]; exact hD1) (fun r => rep5 r)
      · have hj' : j = k i := by omega
        subst hj'
        refine wpAny_mono (T1.done (X1 (k i)) cenv F s' rfl stB hwr1 IJ1) (fun r a₁ ⟨hr, z₁, I₁⟩ => ?_) fun _ _ e => e
        subst hr
        refine ⟨n - (i + 1), by omega, i + 1, by omega, rfl, ?_, ?_, ?_⟩
        · refine xJ.trans ((x₇.mono (fun _ h _ => .inl h) fun b hb _ => ?_).trans ((((x79.weak).trans y).trans (z₁.mono (fun _ h _ => .inl h) fun b hb _ => .tail _ (List.mem_append_left _ hb))).mono (fun _ h _ => .inl h) fun b hb hne => ?_))
          · refine .tail _ ?_
            rcases List.mem_append.mp hb with hb | hb
            · exact List.mem_append_left _ hb
            · exact List.mem_append_right _ (ownT_sub (fun k hk => List.mem_append_left _ hk) b hb)
          · rcases List.mem_cons.mp hb with rfl | hb
            · exact .head _
            · rcases List.mem_append.mp hb with hb | hb
              · exact absurd (hfr1 b hb) hne
              · exact .tail _ (List.mem_append_right _ (ownT_sub (fun k hk => List.mem_append_right _ hk) b hb))
        · show In ⟨X.G, X.n, relab csc X.sc, X.cd, ρ, (Dd, .list (res (i + 1))) :: X.σ⟩ A cenv F a₁
          rw [show res (i + 1) = res i ++ (List.range (k i)).map (f i) from flat_step k f i]
          exact I₁.weak fun p hp => List.mem_append_right _ hp
        · refine T.keep _ _ _ _ stA (keepO IJ1 z₁ (T.live _ _ _ stA) hwfp) (fun r => ?_)
          refine (z₁.rep IJ1.good (W := Dd :: wOf X.σ) (fun b hb => .inr fun o e xs nn d => ?_) IJ1.sig.noTuple).2 r
          obtain ⟨o', fs, e', _, d', _⟩ := T1.turner _ _ _ stB b hb
          rw [e] at e'; cases e'; rw [d] at d'; cases d'
    exact codeAny_compStart_in L (T1.self _ 0 _ _ _ st1 L)
  · have : i = n := by omega
    subst this
    refine wpAny_mono (T.done (X' i) cenv F s' rfl stJ hwrn IJ) (fun r s₅ ⟨hr, x₅, I₅⟩ => ?_) fun _ _ e => e
    subst hr
    exact hR _ (xJ.trans (x₅.mono (fun _ h _ => .inl h) fun b hb _ => .tail _ (List.mem_append_left _ hb))) I₅
end Mine
end
section
open PySem PySem.W PySem.Calls PyProof.Rows
namespace Mine

/-- the standing part without a frame's names -/
structure GIn (G : Gd) (n : Nat) (σ : Sig) (A : Around) (F : List Addr) (s : Shared) : Prop where
  good : Good G s
  room : Room G n A F s.heap
  sig : SigOk σ s.heap
  own : ∀ a ∈ wOf σ, G.s1.heap.get? a = none
theorem In.g {X : Cx} {A : Around} {env : Env} {F : List Addr} {s : Shared} (I : In X A env F s) : GIn X.G X.n X.σ A F s := ⟨I.good, I.room, I.sig, I.own⟩

/-- a call with data gives a datum and changes nothing -/
def Calls (G : Gd) (n : Nat) (σ : Sig) (f : Value) (ds : List D) (d : D) : Prop :=
  ∀ A F s vs, GIn G n σ A F s → Reps (wOf σ) s.heap vs ds → wpAny (model G.prog G.w) A (call f vs) (fun v s' => Step G F [] s s' ∧ Rep (wOf σ) s'.heap v d) (fun _ _ => False) s
def KeepV (G : Gd) (n : Nat) (σ : Sig) (f : Value) : Prop := ∀ A F s, GIn G n σ A F s → ∃ k, (k = Keeper.frame ∨ k = Keeper.machine ∨ k = Keeper.boundFrame) ∧ Looks (model G.prog G.w) s.heap (keeperOf f) k
theorem keepB {G : Gd} {n : Nat} {σ : Sig} {id : String} : KeepV G n σ (.builtin id) := fun _ _ _ _ => ⟨.machine, .inr (.inl rfl), Looks.of_pure rfl⟩
theorem keepT {G : Gd} {n : Nat} {σ : Sig} {T : String} : KeepV G n σ (.type T) := fun _ _ _ _ => ⟨.machine, .inr (.inl rfl), Looks.of_pure rfl⟩
theorem keepF {G : Gd} {n : Nat} {σ : Sig} {f : Value} (h : keepIn G.K f = true) : KeepV G n σ f := fun _ _ s g => keeps_K h s.heap g.good.K
theorem keepL {G : Gd} {n : Nat} {σ : Sig} {a : Addr} {o : Obj} (h : (a, Own.fn o) ∈ σ) : KeepV G n σ (.ref a) := fun _ _ s g => by
  have := g.sig.at_ _ h
  cases this with
  | fn e c d _ _ _ =>
    obtain ⟨oc, od, dt, sl⟩ := o
    simp only at d; subst d
    exact ⟨.frame, .inl rfl, (Looks.ld (part := none) e).andThen .now⟩

section
variable {X : Cx}

/-- expressions none of which is starred -/
def plainEs : List Expr → Bool
  | [] => true
  | .Starred _ _ :: _ => false
  | _ :: r => plainEs r
theorem starEach_of {e : Expr} {es : List Expr} (env : Env) (h : plainEs (e :: es) = true) : starEach (e :: es) env = (false, eval e env) :: starEach es env ∧ plainEs es = true := by
  cases e <;> first | exact ⟨rfl, h⟩ | (simp [plainEs] at h)
theorem any_star (env : Env) (pos : Pos) : ∀ (es : List Expr), plainEs es = true → (backTo pos (starEach es env)).any (·.1) = false
  | [], _ => rfl
  | e :: es, h => by
    obtain ⟨h1, h2⟩ := starEach_of env h
    rw [h1]
    show (false || (backTo pos (starEach es env)).any (·.1)) = false
    rw [any_star env pos es h2]; rfl

theorem callWith_ok {A : Around} {env : Env} {F : List Addr} {s : Shared} {f : Value} {first : List Value} {e : Expr} {es : List Expr} {ds : List D} {pos : Pos} {Q : Value → Shared → Prop} (I : In X A env F s) (ha : Evs X (e :: es) ds) (hp : plainEs (e :: es) = true) (hk : KeepV X.G X.n X.σ f)
    (h : ∀ vs s', Step X.G F [] s s' → Reps (wOf X.σ) s'.heap vs ds → wpAny (model X.G.prog X.G.w) A (call f (first ++ vs)) Q (fun _ _ => False) s') :
    wpAny (model X.G.prog X.G.w) A (callWith pos f first (backTo pos (starEach (e :: es) env)) []) Q (fun _ _ => False) s := by
  obtain ⟨h1, h2⟩ := starEach_of env hp
  have q := ha A env F s pos I
  rw [h1] at q ⊢
  refine callWith_of (P := fun h => ∃ k, (k = Keeper.frame ∨ k = Keeper.machine ∨ k = Keeper.boundFrame) ∧ Looks (model X.G.prog X.G.w) h (keeperOf f) k) (by show ((false || (backTo pos (starEach es env)).any (·.1)) || false) = false; rw [any_star env pos es h2]; rfl) (fun _ q => q) (evalArgs_plain (wpAny_mono q (fun vs s' ⟨x, r⟩ => ⟨hk A F s' (I.step x).g, ?_⟩) fun _ _ e => e))
  exact h vs s' x r
theorem callWith_ok0 {A : Around} {env : Env} {F : List Addr} {s : Shared} {f : Value} {first : List Value} {pos : Pos} {Q : Value → Shared → Prop} (I : In X A env F s) (hk : KeepV X.G X.n X.σ f)
    (h : wpAny (model X.G.prog X.G.w) A (call f (first ++ [])) Q (fun _ _ => False) s) :
    wpAny (model X.G.prog X.G.w) A (callWith pos f first (backTo pos (starEach [] env)) []) Q (fun _ _ => False) s :=
  callWith_of (P := fun h => ∃ k, (k = Keeper.frame ∨ k = Keeper.machine ∨ k = Keeper.boundFrame) ∧ Looks (model X.G.prog X.G.w) h (keeperOf f) k) rfl (fun _ q => q) (evalArgs_nil3 ⟨hk A F s I.g, h⟩)

def notAttr : Expr → Bool
  | .Attribute .. => false
  | _ => true
theorem eval_Call {fe : Expr} {args : List Expr} {pos : Pos} {env : Env} (h : notAttr fe = true) : eval (.Call fe args [] pos) env = (do callWith pos (← eval fe env) [] (backTo pos (starEach args env)) (backToKw pos (keywordEach [] env))) := by
  cases fe <;> first | rfl | (simp [notAttr] at h)

theorem Ev.call {fe e : Expr} {es : List Expr} {f : Value} {ds : List D} {d : D} {pos : Pos} (hf : Ev X fe (.fn f)) (ha : Evs X (e :: es) ds) (hc : Calls X.G X.n X.σ f ds d) (hk : KeepV X.G X.n X.σ f) (hn : notAttr fe = true := by rfl) (hp : plainEs (e :: es) = true := by rfl) :
    Ev X (.Call fe (e :: es) [] pos) d := by
  intro A env F s I
  rw [eval_Call hn]
  refine wpAny_bind (wpAny_mono (hf A env F s I) (fun v s₁ ⟨x₁, r⟩ => ?_) fun _ _ e => e)
  obtain rfl := r.fnI
  refine callWith_ok (I.step x₁) ha hp hk fun vs s₂ x₂ rs => ?_
  exact wpAny_mono (hc A F s₂ _ ((I.step x₁).step x₂).g rs) (fun v s₃ ⟨x₃, r₃⟩ => ⟨(x₁.trans x₂).trans x₃, r₃⟩) fun _ _ e => e
theorem Ev.call0 {fe : Expr} {f : Value} {d : D} {pos : Pos} (hf : Ev X fe (.fn f)) (hc : Calls X.G X.n X.σ f [] d) (hk : KeepV X.G X.n X.σ f) (hn : notAttr fe = true := by rfl) :
    Ev X (.Call fe [] [] pos) d := by
  intro A env F s I
  rw [eval_Call hn]
  refine wpAny_bind (wpAny_mono (hf A env F s I) (fun v s₁ ⟨x₁, r⟩ => ?_) fun _ _ e => e)
  obtain rfl := r.fnI
  refine callWith_ok0 (I.step x₁) hk ?_
  exact wpAny_mono (hc A F s₁ _ (I.step x₁).g .nil) (fun v s₃ ⟨x₃, r₃⟩ => ⟨x₁.trans x₃, r₃⟩) fun _ _ e => e

/-- the method of a datum: a built-in with the datum first -/
def Meth (X : Cx) (d : D) (name : Str) (id : String) : Prop :=
  ∀ A env F s v pl (Q : Value × List Value → Shared → Prop), In X A env F s → Rep (wOf X.σ) s.heap v d → (∀ tk, Q (.builtin id, [v]) { s with toks := tk }) → wpAny (model X.G.prog X.G.w) A (getMethod v name pl) Q (fun _ _ => False) s

def MethEq (o : Expr) (name : Str) (apos pos : Pos) (args : List Expr) : Prop := ∀ env, ∃ pl, eval (.Call (.Attribute o name apos) args [] pos) env = (do
      let ov ← eval o env
      standAt apos.atName
      let (f, first) ← holding [ov] (getMethod ov name pl)
      callWith pos f first (backTo pos (starEach args env)) [])
theorem Ev.meth {o e : Expr} {name : Str} {apos pos : Pos} {es : List Expr} {id : String} {d0 : D} {ds : List D} {d : D} (ho : Ev X o d0) (hm : Meth X d0 name id) (ha : Evs X (e :: es) ds) (hc : Calls X.G X.n X.σ (.builtin id) (d0 :: ds) d)
    (hq : MethEq o name apos pos (e :: es) := by intro _; exact ⟨_, rfl⟩) (hp : plainEs (e :: es) = true := by rfl) : Ev X (.Call (.Attribute o name apos) (e :: es) [] pos) d := by
  intro A env F s I
  obtain ⟨pl, hq⟩ := hq env
  refine MethodCall_ (pl := pl) (wpAny_mono (ho A env F s I) (fun v s₁ ⟨x₁, r⟩ => ?_) fun _ _ e => e) hq
  refine hm A env F s₁ v pl _ (I.step x₁) r fun tk => ?_
  have x₂ : Step X.G F [] s { s₁ with toks := tk } := x₁.trans Step.toks
  refine callWith_ok (I.step x₂) ha hp keepB fun vs s₃ x₃ rs => ?_
  exact wpAny_mono (hc A F s₃ _ ((I.step x₂).step x₃).g (.cons ((I.step x₂).rep x₃ r) rs)) (fun v s₄ ⟨x₄, r₄⟩ => ⟨(x₂.trans x₃).trans x₄, r₄⟩) fun _ _ e => e
theorem Ev.meth0 {o : Expr} {name : Str} {apos pos : Pos} {id : String} {d0 : D} {d : D} (ho : Ev X o d0) (hm : Meth X d0 name id) (hc : Calls X.G X.n X.σ (.builtin id) [d0] d)
    (hq : MethEq o name apos pos [] := by intro _; exact ⟨_, rfl⟩) : Ev X (.Call (.Attribute o name apos) [] [] pos) d := by
  intro A env F s I
  obtain ⟨pl, hq⟩ := hq env
  refine MethodCall_ (pl := pl) (wpAny_mono (ho A env F s I) (fun v s₁ ⟨x₁, r⟩ => ?_) fun _ _ e => e) hq
  refine hm A env F s₁ v pl _ (I.step x₁) r fun tk => ?_
  have x₂ : Step X.G F [] s { s₁ with toks := tk } := x₁.trans Step.toks
  refine callWith_ok0 (I.step x₂) keepB ?_
  exact wpAny_mono (hc A F _ _ (I.step x₂).g (.cons r .nil)) (fun v s₄ ⟨x₄, r₄⟩ => ⟨x₂.trans x₄, r₄⟩) fun _ _ e => e

-- texts' methods
theorem Meth.join {x : Str} : Meth X (.str x) "join" "str.join" := by intro A env F s _ pl Q I r h; obtain ⟨_, rfl⟩ := r.strI; exact GM.join (h s.toks)
theorem Meth.split {x : Str} : Meth X (.str x) "split" "str.split" := by intro A env F s _ pl Q I r h; obtain ⟨_, rfl⟩ := r.strI; exact GM.split (h s.toks)
theorem Meth.startswith {x : Str} : Meth X (.str x) "startswith" "str.startswith" := by intro A env F s _ pl Q I r h; obtain ⟨_, rfl⟩ := r.strI; exact GM.startswith (h s.toks)
theorem Meth.endswith {x : Str} : Meth X (.str x) "endswith" "str.endswith" := by intro A env F s _ pl Q I r h; obtain ⟨_, rfl⟩ := r.strI; exact GM.endswith (h s.toks)
theorem Meth.find {x : Str} : Meth X (.str x) "find" "str.find" := by intro A env F s _ pl Q I r h; obtain ⟨_, rfl⟩ := r.strI; exact GM.find (h s.toks)
end

section
variable {G : Gd} {n : Nat} {σ : Sig}
theorem Reps.twoStr {W : List Addr} {h : Heap} {vs : List Value} {x y : Str} (r : Reps W h vs [.str x, .str y]) : ∃ t u, vs = [.str x t, .str y u] := by
  obtain ⟨_, _, rfl, a, b⟩ := r.twoI
  obtain ⟨t, rfl⟩ := a.strI
  obtain ⟨u, rfl⟩ := b.strI
  exact ⟨t, u, rfl⟩
theorem Calls.startswith {x y : Str} : Calls G n σ (.builtin "str.startswith") [.str x, .str y] (.bool (Txt.startswith x y)) := by
  intro A F s _ g r; obtain ⟨_, _, rfl⟩ := r.twoStr; exact SC.startswith ⟨Step.refl, .bool _⟩
theorem Calls.endswith {x y : Str} : Calls G n σ (.builtin "str.endswith") [.str x, .str y] (.bool (Txt.endswith x y)) := by
  intro A F s _ g r; obtain ⟨_, _, rfl⟩ := r.twoStr; exact SC.endswith ⟨Step.refl, .bool _⟩
end
end Mine
end
section
open PySem PySem.W PySem.Calls PyProof.Rows
namespace Mine

inductive Out where
  | next (ρ : Env0) (σ : Sig) (V : List Addr)
  | brk (ρ : Env0) (σ : Sig) (V : List Addr)
  | cont (ρ : Env0) (σ : Sig) (V : List Addr)
  | ret (d : D) (σ : Sig)

abbrev Cx.at_ (X : Cx) (ρ : Env0) (σ : Sig) : Cx := { X with ρ := ρ, σ := σ }

/-- behind a piece of a body: the frame's own and the objects V may have turned -/
structure Moved (X : Cx) (V : List Addr) (env : Env) (F : List Addr) (s s' : Shared) (V' : List Addr) : Prop where
  step : Step X.G F (ownA env ++ V) s s'
  new : ∀ a ∈ V', a ∈ V ∨ s.heap.get? a = none

def OutOk (X : Cx) (V : List Addr) (A : Around) (env : Env) (F : List Addr) (s s' : Shared) (Φ : Out → Prop) : Flow → Prop
  | .next => ∃ ρ σ V', Moved X V env F s s' V' ∧ In (X.at_ ρ σ) A env F s' ∧ Φ (.next ρ σ V')
  | .brk => ∃ ρ σ V', Moved X V env F s s' V' ∧ In (X.at_ ρ σ) A env F s' ∧ Φ (.brk ρ σ V')
  | .cont => ∃ ρ σ V', Moved X V env F s s' V' ∧ In (X.at_ ρ σ) A env F s' ∧ Φ (.cont ρ σ V')
  | .ret v => ∃ ρ σ d, Moved X V env F s s' [] ∧ In (X.at_ ρ σ) A env F s' ∧ Rep (wOf σ) s'.heap v d ∧ Φ (.ret d σ)

def St (X : Cx) (V : List Addr) (ss : List Stmt) (Φ : Out → Prop) : Prop :=
  ∀ A env F s, In X A env F s → wpAny (model X.G.prog X.G.w) A (execs ss env) (fun fl s' => OutOk X V A env F s s' Φ fl) (fun _ _ => False) s
def St1 (X : Cx) (V : List Addr) (st : Stmt) (Φ : Out → Prop) : Prop :=
  ∀ A env F s, In X A env F s → wpAny (model X.G.prog X.G.w) A (exec st env) (fun fl s' => OutOk X V A env F s s' Φ fl) (fun _ _ => False) s

/-- go on with the rest -/
def go (X : Cx) (rest : List Stmt) (Φ : Out → Prop) : Out → Prop
  | .next ρ σ V => St (X.at_ ρ σ) V rest Φ
  | o => Φ o

section
variable {X : Cx} {V : List Addr} {A : Around} {env : Env} {F : List Addr} {s s' s'' : Shared} {Φ Φ' : Out → Prop}

theorem Moved.trans {ρ : Env0} {σ : Sig} {V' V'' : List Addr} (x : Moved X V env F s s' V') (I : In X A env F s) (I' : In (X.at_ ρ σ) A env F s') (y : Moved (X.at_ ρ σ) V' env F s' s'' V'') : Moved X V env F s s'' V'' := by
  refine ⟨?_, fun a ha => ?_⟩
  · have y2 : Step X.G F (ownA env ++ V ++ V') s' s'' := y.step.mono (fun _ h _ => .inl h) fun b hb _ => by
      rcases List.mem_append.mp hb with h | h
      · exact List.mem_append_left _ (List.mem_append_left _ h)
      · exact List.mem_append_right _ h
    have x2 : Step X.G F (ownA env ++ V ++ V') s s' := x.step.mono (fun _ h _ => .inl h) fun b hb _ => List.mem_append_left _ hb
    refine (x2.trans y2).mono (fun _ h _ => .inl h) fun b hb hne => ?_
    rcases List.mem_append.mp hb with h | h
    · exact h
    · exact (x.new b h).elim (fun q => List.mem_append_right _ q) fun q => absurd q hne
  · rcases y.new a ha with h | h
    · exact x.new a h
    · by_cases q : a ∈ ownA env ++ V
      · rcases List.mem_append.mp q with q | q
        · obtain ⟨o, e, _⟩ := I'.ownLive q
          rw [h] at e; cases e
        · exact .inl q
      · exact .inr (Step.noneAt I.good x.step h q)

theorem OutOk.mono {fl : Flow} (h : OutOk X V A env F s s' Φ fl) (k : ∀ o, Φ o → Φ' o) : OutOk X V A env F s s' Φ' fl := by
  cases fl with
  | next => obtain ⟨ρ, σ, V', a, b, c⟩ := h; exact ⟨ρ, σ, V', a, b, k _ c⟩
  | brk => obtain ⟨ρ, σ, V', a, b, c⟩ := h; exact ⟨ρ, σ, V', a, b, k _ c⟩
  | cont => obtain ⟨ρ, σ, V', a, b, c⟩ := h; exact ⟨ρ, σ, V', a, b, k _ c⟩
  | ret v => obtain ⟨ρ, σ, d, a, b, c, e⟩ := h; exact ⟨ρ, σ, d, a, b, c, k _ e⟩
theorem OutOk.after {ρ : Env0} {σ : Sig} {V' : List Addr} {fl : Flow} (x : Moved X V env F s s' V') (I : In X A env F s) (I' : In (X.at_ ρ σ) A env F s') (h : OutOk (X.at_ ρ σ) V' A env F s' s'' Φ fl) : OutOk X V A env F s s'' Φ fl := by
  cases fl with
  | next => obtain ⟨ρ, σ, V', a, b, c⟩ := h; exact ⟨ρ, σ, V', x.trans I I' a, b, c⟩
  | brk => obtain ⟨ρ, σ, V', a, b, c⟩ := h; exact ⟨ρ, σ, V', x.trans I I' a, b, c⟩
  | cont => obtain ⟨ρ, σ, V', a, b, c⟩ := h; exact ⟨ρ, σ, V', x.trans I I' a, b, c⟩
  | ret v => obtain ⟨ρ, σ, d, a, b, c, e⟩ := h; exact ⟨ρ, σ, d, x.trans I I' a, b, c, e⟩

theorem St.nil (h : Φ (.next X.ρ X.σ V)) : St X V [] Φ := fun A env F s I => wpAny_execs_nil ⟨X.ρ, X.σ, V, ⟨Step.refl, fun _ h => .inl h⟩, I, h⟩
theorem St.cons {st : Stmt} {rest : List Stmt} (h : St1 X V st (go X rest Φ)) : St X V (st :: rest) Φ := fun A env F s I => by
  refine wpAny_execs_cons (wpAny_mono (h A env F s I) (fun fl s' h' => ?_) fun _ _ e => e)
  cases fl with
  | next =>
    obtain ⟨ρ, σ, V', a, b, c⟩ := h'
    exact wpAny_mono (c A env F s' b) (fun fl s'' o => o.after a I b) fun _ _ e => e
  | brk => exact h'
  | cont => exact h'
  | ret v => exact h'
theorem St1.mono {st : Stmt} (h : St1 X V st Φ) (k : ∀ o, Φ o → Φ' o) : St1 X V st Φ' := fun A env F s I => wpAny_mono (h A env F s I) (fun fl s' o => o.mono k) fun _ _ e => e
theorem St.mono {ss : List Stmt} (h : St X V ss Φ) (k : ∀ o, Φ o → Φ' o) : St X V ss Φ' := fun A env F s I => wpAny_mono (h A env F s I) (fun fl s' o => o.mono k) fun _ _ e => e

theorem Moved.own {O : List Addr} (x : Step X.G F O s s') (hO : ∀ b ∈ O, s.heap.get? b ≠ none → b ∈ ownA env ++ V) : Moved X V env F s s' V := ⟨x.mono (fun _ h _ => .inl h) hO, fun _ h => .inl h⟩
theorem Moved.pure (x : Step X.G F [] s s') : Moved X V env F s s' V := Moved.own x fun _ h => absurd h List.not_mem_nil
theorem Moved.nilV {V' : List Addr} (x : Moved X V env F s s' V') : Moved X V env F s s' [] := ⟨x.step, fun _ h => absurd h List.not_mem_nil⟩
theorem ownT_own {keys : List Str} : ∀ b ∈ ownT env keys, b ∈ ownA env := fun b hb => by
  rcases List.mem_cons.mp hb with q | q
  · rw [q]; exact .head _
  · obtain ⟨k, _, q⟩ := List.mem_flatMap.mp q
    exact ownA_cell (mem_cellT q).2

/-- a name is assigned -/
theorem St1.assign {y : Str} {py pos : Pos} {e : Expr} {d : D} {ρ : Env0} (he : Ev X e d) (hk : storable X.sc y = true) (h1 : ∀ p ∈ ρ, p ∈ X.ρ) (h2 : ∀ p ∈ ρ, p.1 ≠ y) (hy : niceName y) (h : Φ (.next ((y, d) :: ρ) X.σ V))
    (hs : ∀ env, env.scope = X.sc → swapsWith e (some (.Name y py)) pos.line env = pure false) : St1 X V (.Assign [.Name y py] e pos) Φ := by
  intro A env F s I
  refine wpAny_Assign_Name (wpAny_mono (he A env F s I) (fun v s₁ ⟨x₁, r⟩ => ?_) fun _ _ e => e) (hs env I.env.scope)
  refine wpAny_mono ((I.step x₁).store hk h1 h2 hy r) (fun _ s₂ ⟨x₂, I₂⟩ => ⟨_, _, V, Moved.own (x₁.weak.trans x₂) fun b hb _ => List.mem_append_left _ ?_, I₂, h⟩) fun _ _ e => e
  rcases List.mem_cons.mp hb with q | q
  · rw [q]; exact .head _
  · exact ownA_cell (mem_cellT q).2
theorem St1.ret {e : Expr} {pos : Pos} {d : D} (he : Ev X e d) (h : Φ (.ret d X.σ)) : St1 X V (.Return (some e) pos) Φ := fun A env F s I =>
  wpAny_Return_some (wpAny_mono (he A env F s I) (fun v s₁ ⟨x₁, r⟩ => ⟨X.ρ, X.σ, d, (Moved.pure x₁).nilV, I.step x₁, r, h⟩) fun _ _ e => e)
theorem St1.ifs {c : Expr} {body orelse : List Stmt} {pos : Pos} {b : Bool} (hc : Tv X c b) (ht : b = true → St X V body Φ) (hf : b = false → St X V orelse Φ) : St1 X V (.If c body orelse pos) Φ := by
  intro A env F s I
  refine wpAny_If (wpAny_mono (hc A env F s I) (fun b' s₁ ⟨x₁, e⟩ => ?_) fun _ _ e => e)
  subst e
  cases b' with
  | true => exact wpAny_mono (ht rfl A env F s₁ (I.step x₁)) (fun fl s₂ o => OutOk.after (V' := V) (Moved.pure x₁) I (I.step x₁) o) fun _ _ e => e
  | false => exact wpAny_mono (hf rfl A env F s₁ (I.step x₁)) (fun fl s₂ o => OutOk.after (V' := V) (Moved.pure x₁) I (I.step x₁) o) fun _ _ e => e
theorem St1.skip {c : Expr} {body : List Stmt} {pos : Pos} (hc : Tv X c false) (h : Φ (.next X.ρ X.σ V)) : St1 X V (.If c body [] pos) Φ := St1.ifs hc (fun q => nomatch q) fun _ => St.nil h
theorem St1.brk {pos : Pos} (h : Φ (.brk X.ρ X.σ V)) : St1 X V (.Break pos) Φ := fun A env F s I => wpAny_Break ⟨_, _, V, ⟨Step.refl, fun _ h => .inl h⟩, I, h⟩
theorem St1.assert {c : Expr} {msg : Option Expr} {pos : Pos} (hc : Tv X c true) (h : Φ (.next X.ρ X.σ V)) : St1 X V (.Assert c msg pos) Φ := fun A env F s I =>
  wpAny_Assert_holds (wpAny_mono (hc A env F s I) (fun b' s₁ ⟨x₁, e⟩ => ⟨e, X.ρ, X.σ, V, Moved.pure x₁, I.step x₁, h⟩) fun _ _ e => e)
/-- an augmented assignment -/
theorem St1.aug {y : Str} {py pos : Pos} {op : Operator} {e : Expr} {d0 d1 d : D} {ρ : Env0} (h0 : (y, d0) ∈ X.ρ) (he : Ev X e d1) (ho : Bin X (inplaceOp op) d0 d1 d) (hk : storable X.sc y = true) (h1 : ∀ p ∈ ρ, p ∈ X.ρ) (h2 : ∀ p ∈ ρ, p.1 ≠ y) (hy : niceName y)
    (h : Φ (.next ((y, d) :: ρ) X.σ V)) : St1 X V (.AugAssign (.Name y py) op e pos) Φ := by
  intro A env F s I
  refine wpAny_AugAssign_Name ?_
  have hn := (Ev.name (pos := py) h0) A env F s I
  rw [eval_Name _ _ _ hy.1] at hn
  have hl : wpAny (model X.G.prog X.G.w) A (loadName env y) (fun v s' => Step X.G F [] s s' ∧ Rep (wOf X.σ) s'.heap v d0) (fun _ _ => False) s := by
    have hk' : env.scope.kind = .function := by rw [I.env.scope]; exact I.env.kind
    rcases I.env.names _ h0 with ⟨k, m, v, a1, a2, a3⟩ | ⟨k | k, c, v, a1, a2, a3⟩
    · exact wpAny_loadName_local hk' k a1 a2 ⟨Step.refl, a3⟩
    · exact wpAny_loadName_cell hk' k a1 a2 ⟨Step.refl, a3⟩
    · exact wpAny_loadName_free hk' k a1 a2 ⟨Step.refl, a3⟩ hy.2
  refine wpAny_mono hl (fun v₀ s₁ ⟨x₁, r₁⟩ => ?_) fun _ _ e => e
  refine wpAny_mono (he A env F s₁ (I.step x₁)) (fun v₁ s₂ ⟨x₂, r₂⟩ => ?_) fun _ _ e => e
  have I₂ := (I.step x₁).step x₂
  refine wpAny_mono (ho A env F s₂ _ _ I₂ ((I.step x₁).rep x₂ r₁) r₂) (fun v s₃ ⟨x₃, r₃⟩ => ?_) fun _ _ e => e
  refine wpAny_mono ((I₂.step x₃).store hk h1 h2 hy r₃) (fun _ s₄ ⟨x₄, I₄⟩ => ⟨_, _, V, Moved.own (((x₁.trans x₂).trans x₃).weak.trans x₄) fun b hb _ => List.mem_append_left _ ?_, I₄, h⟩) fun _ _ e => e
  rcases List.mem_cons.mp hb with q | q
  · rw [q]; exact .head _
  · exact ownA_cell (mem_cellT q).2

/-- while, by an invariant and a measure -/
theorem St1.while_ {test : Expr} {body orelse : List Stmt} {pos : Pos} (Inv : Nat → Env0 → Sig → List Addr → Prop) (n0 : Nat) (h0 : Inv n0 X.ρ X.σ V)
    (turn : ∀ n ρ σ V', Inv n ρ σ V' → ∃ b, Tv (X.at_ ρ σ) test b ∧ (b = true → St (X.at_ ρ σ) V' body (fun o => match o with
        | .next ρ' σ' V'' | .cont ρ' σ' V'' => ∃ m ρ'', m < n ∧ (∀ p ∈ ρ'', p ∈ ρ') ∧ Inv m ρ'' σ' V''
        | .brk ρ' σ' V'' => Φ (.next ρ' σ' V'')
        | .ret d σ' => Φ (.ret d σ'))) ∧ (b = false → St (X.at_ ρ σ) V' orelse Φ)) : St1 X V (.While test body orelse pos) Φ := by
  intro A env F s I
  refine wpAny_While ?_
  refine codeAny_whileLoop (fun n s' => ∃ ρ σ V', Inv n ρ σ V' ∧ Moved X V env F s s' V' ∧ In (X.at_ ρ σ) A env F s') ?_ n0 ⟨X.ρ, X.σ, V, h0, ⟨Step.refl, fun _ h => .inl h⟩, I⟩
  rintro n s' ⟨ρ, σ, V', hI, hM, I'⟩
  obtain ⟨b, hb, ht, hf⟩ := turn n ρ σ V' hI
  refine wpAny_mono (hb A env F s' I') (fun b' s₁ ⟨x₁, e⟩ => ?_) fun _ _ e => e.elim
  subst e
  have hM₁ : Moved X V env F s s₁ V' := hM.trans I I' (Moved.pure x₁)
  have I₁ := I'.step x₁
  cases b' with
  | true =>
    refine wpAny_mono (ht rfl A env F s₁ I₁) (fun fl s₂ o => ?_) fun _ _ e => e.elim
    cases fl with
    | next =>
      obtain ⟨ρ', σ', V'', a, b, m, ρ'', hm, hρ, hI'⟩ := o
      exact ⟨m, hm, ρ'', σ', V'', hI', hM₁.trans I I₁ a, b.weak hρ⟩
    | cont =>
      obtain ⟨ρ', σ', V'', a, b, m, ρ'', hm, hρ, hI'⟩ := o
      exact ⟨m, hm, ρ'', σ', V'', hI', hM₁.trans I I₁ a, b.weak hρ⟩
    | brk =>
      obtain ⟨ρ', σ', V'', a, b, c⟩ := o
      exact ⟨ρ', σ', V'', hM₁.trans I I₁ a, b, c⟩
    | ret v =>
      obtain ⟨ρ', σ', d, a, b, c, e⟩ := o
      exact ⟨ρ', σ', d, hM₁.trans I I₁ a, b, c, e⟩
  | false =>
    refine wpAny_mono (hf rfl A env F s₁ I₁) (fun fl s₂ o => ?_) fun _ _ e => e.elim
    exact OutOk.after hM₁ I I₁ o
end
end Mine
end
section
local macro_rules | `(tactic| omega) => `(tactic| lia)
open PySem PySem.W PySem.Calls PyProof.Rows
namespace Mine

section
variable {prog : Program} {w : World} {A : Around} {R : Result → Shared → Prop} {s : Shared}
theorem codeAny_forLoopG {target it body orelse env} (I : Nat → Shared → Prop)
    (turn : ∀ n s, I n s → wpAny (model prog w) A (pyNext it) (fun r s₁ => match r with
      | none => wpAny (model prog w) A (execs orelse env) (fun f s₃ => R (.ok f) s₃) (fun _ _ => False) s₁
      | some v => wpAny (model prog w) A (letOwnedTupleGo target it v) (fun _ s₁' => wpAny (model prog w) A (assign target env v) (fun _ s₂ => wpAny (model prog w) A (execs body env) (fun f s₃ => match f with
          | .next | .cont => ∃ m, m < n ∧ I m s₃
          | .brk => R (.ok .next) s₃
          | .ret v => R (.ok (.ret v)) s₃) (fun _ _ => False) s₂) (fun _ _ => False) s₁') (fun _ _ => False) s₁) (fun _ _ => False) s)
    (n : Nat) (h : I n s) : codeAny (model prog w) A (.forLoop target it body orelse env) R s := by
  refine codeAny_loop' rfl I (fun n s hI => ?_) n h
  show wpAny _ A ((forTurn target it body orelse env).onRaise (fun x => do noteFrame x env; theTreesLotGoes x)) _ _ s
  refine wpAny_noted ?_
  simp only [forTurn]
  refine wpAny_bind (wpAny_standAt (wpAny_bind (wpAny_onRaise (wpAny_mono (turn n s hI) (fun r s₁ h₁ => ?_) fun _ _ h' => h'.elim))))
  cases r with
  | none => exact wpAny_pure (.inr ⟨rfl, codeAny_block (wpAny_mono h₁ (fun _ _ q => q) fun _ _ q => q.elim)⟩)
  | some v =>
    refine wpAny_bind (wpAny_mono h₁ (fun _ s₁' h₁' => ?_) fun _ _ h' => h'.elim)
    refine wpAny_bind (wpAny_mono h₁' (fun _ s₂ h₂ => wpAny_bind (wpAny_mono h₂ (fun f s₃ h₃ => ?_) fun _ _ h' => h'.elim)) fun _ _ h' => h'.elim)
    cases f with
    | next => exact wpAny_pure (.inl ⟨rfl, h₃⟩)
    | cont => exact wpAny_pure (.inl ⟨rfl, h₃⟩)
    | brk => exact wpAny_pure h₃
    | ret v => exact wpAny_pure h₃
end

section
variable {X : Cx} {V : List Addr} {Φ : Out → Prop}

/-- for, by an invariant over the number of turns -/
theorem St1.for_ {target iter : Expr} {body orelse : List Stmt} {pos : Pos} {keys : List Str} {n : Nat} {bs : Nat → Env0} {ρ₀ : Env0} (hit : IterEx X iter target keys n bs) (hk : (keys.all fun k => storable X.sc k) = true)
    (hV : ∀ a ∈ V, a ∈ wOf X.σ) (Inv : Nat → Env0 → Sig → Prop) (hρ₀ : ∀ p ∈ ρ₀, p ∈ X.ρ) (h0 : Inv 0 ρ₀ X.σ)
    (turn : ∀ i ρ σ, i < n → wOf σ = wOf X.σ → Inv i ρ σ → (∀ p ∈ ρ, p.1 ∉ keys) ∧ St (X.at_ (bs i ++ ρ) σ) V body (fun o => match o with
        | .next ρ' σ' V' | .cont ρ' σ' V' => ∃ ρ'', (∀ p ∈ ρ'', p ∈ ρ') ∧ wOf σ' = wOf X.σ ∧ V' = V ∧ Inv (i + 1) ρ'' σ'
        | .brk ρ' σ' V' => Φ (.next ρ' σ' V')
        | .ret d σ' => Φ (.ret d σ')))
    (fin : ∀ ρ σ, wOf σ = wOf X.σ → Inv n ρ σ → St (X.at_ ρ σ) V orelse Φ)
    (hs : ∀ env x, foldedSetIterable iter env x = pure x := by intro _ _; rfl) : St1 X V (.For target iter body orelse pos) Φ := by
  intro A env F s I
  refine wpAny_For ?_ (hs env)
  refine wpAny_mono (hit A env F s I) (fun v s₁ h₁ => wpAny_mono h₁.2 (fun it s₂ h₂ => ?_) fun _ _ e => e.elim) fun _ _ e => e.elim
  obtain ⟨x₁, _⟩ := h₁
  obtain ⟨x₂, I₀, fp, wr, Sr, rfl, T, st, hfr, hfp⟩ := h₂
  have x₁₂ : Step X.G F [] s s₂ := x₁.trans x₂
  have I₂ := I.step x₁₂
  have hwr : ∀ b ∈ wr, b ∉ wOf X.σ ∧ X.G.s1.heap.get? b = none := fun b hb => ⟨hfp b (T.sub b hb), I.good.fresh (hfr b hb)⟩
  refine codeAny_forLoopG (fun m s' => ∃ i ρ σ, i ≤ n ∧ m = n - i ∧ wOf σ = wOf X.σ ∧ Inv i ρ σ ∧ Moved X V env F s s' V ∧ In (X.at_ ρ σ) A env F s' ∧ Sr (wOf X.σ) i s'.heap) ?_ n
    ⟨0, ρ₀, X.σ, Nat.zero_le _, rfl, rfl, h0, Moved.pure x₁₂, I₂.weak hρ₀, st⟩
  rintro m s' ⟨i, ρ, σ, hin, rfl, hσ, hI, hM, IJ, stJ⟩
  have hwrσ : ∀ b ∈ wr, b ∉ wOf σ ∧ X.G.s1.heap.get? b = none := fun b hb => by rw [hσ]; exact hwr b hb
  have stJ' : Sr (wOf σ) i s'.heap := by rw [hσ]; exact stJ
  by_cases hi : i < n
  · obtain ⟨hkρ, hbody⟩ := turn i ρ σ hi hσ hI
    refine wpAny_mono (T.item (X.at_ ρ σ) env F i s' rfl hi stJ' hwrσ IJ hk hkρ) (fun r s₅ h₅ => ?_) fun _ _ e => e.elim
    obtain ⟨v, rfl, h₅⟩ := h₅
    refine wpAny_mono h₅ (fun _ s₆ h₆ => wpAny_mono h₆ (fun _ s₇ ⟨x₇, st₇, I₇⟩ => ?_) fun _ _ e => e) fun _ _ e => e
    have M₇ : Moved X V env F s s₇ V := by
      refine ⟨(hM.step.mono (fun _ h _ => .inl h) fun b hb _ => List.mem_append_left wr hb).trans (x₇.mono (fun _ h _ => .inl h) fun b hb _ => ?_) |>.mono (fun _ h _ => .inl h) fun b hb hne => ?_, fun _ h => .inl h⟩
      · rcases List.mem_append.mp hb with hb | hb
        · exact List.mem_append_right _ hb
        · exact List.mem_append_left _ (List.mem_append_left _ (ownT_own b hb))
      · rcases List.mem_append.mp hb with hb | hb
        · exact hb
        · exact absurd (hfr b hb) hne
    have st₇' : Sr (wOf X.σ) (i + 1) s₇.heap := by rw [← hσ]; exact st₇
    have hlive7 := T.live _ _ _ st₇'
    -- what the body leaves of the source
    have after : ∀ s₈ V', Moved (X.at_ (bs i ++ ρ) σ) V env F s₇ s₈ V' → Sr (wOf X.σ) (i + 1) s₈.heap := fun s₈ V' M => by
      refine T.keep _ _ _ _ st₇' (keepO I₇ M.step hlive7 fun b hb q => ?_) (fun r => ?_)
      · obtain ⟨o, e, _, nd, nc⟩ := hlive7 b q
        rcases List.mem_append.mp hb with hb | hb
        · obtain ⟨o', e', h, _⟩ := I₇.ownLive hb
          rw [e] at e'; cases e'
          rcases h with ⟨_, _, h⟩ | ⟨_, h⟩
          · exact nd _ _ h
          · exact nc _ h
        · exact hfp b q (hV b hb)
      · refine (M.step.rep I₇.good (W := wOf X.σ) (fun b hb => ?_) (by rw [← hσ]; exact I₇.sig.noTuple)).2 r
        rcases List.mem_append.mp hb with hb | hb
        · refine .inr fun o e xs k d => ?_
          obtain ⟨o', e', h, _⟩ := I₇.ownLive hb
          rw [e] at e'; cases e'; rw [d] at h
          rcases h with ⟨_, _, h⟩ | ⟨_, h⟩ <;> cases h
        · exact .inl (hV b hb)
    refine wpAny_mono (hbody A env F s₇ I₇) (fun fl s₈ o => ?_) fun _ _ e => e
    have nx : ∀ ρ' σ' V', Moved (X.at_ (bs i ++ ρ) σ) V env F s₇ s₈ V' → In (X.at_ ρ' σ') A env F s₈ → (∃ ρ'', (∀ p ∈ ρ'', p ∈ ρ') ∧ wOf σ' = wOf X.σ ∧ V' = V ∧ Inv (i + 1) ρ'' σ') →
        ∃ m, m < n - i ∧ ∃ i ρ σ, i ≤ n ∧ m = n - i ∧ wOf σ = wOf X.σ ∧ Inv i ρ σ ∧ Moved X V env F s s₈ V ∧ In (X.at_ ρ σ) A env F s₈ ∧ Sr (wOf X.σ) i s₈.heap := by
      rintro ρ' σ' V' M I₈ ⟨ρ'', hρ, hσ', rfl, hI'⟩
      exact ⟨n - (i + 1), by omega, i + 1, ρ'', σ', by omega, rfl, hσ', hI', M₇.trans I I₇ M, I₈.weak hρ, after s₈ _ M⟩
    cases fl with
    | next => obtain ⟨ρ', σ', V', a, b, c⟩ := o; exact nx ρ' σ' V' a b c
    | cont => obtain ⟨ρ', σ', V', a, b, c⟩ := o; exact nx ρ' σ' V' a b c
    | brk => obtain ⟨ρ', σ', V', a, b, c⟩ := o; exact ⟨ρ', σ', V', M₇.trans I I₇ a, b, c⟩
    | ret v => obtain ⟨ρ', σ', d, a, b, c, e⟩ := o; exact ⟨ρ', σ', d, M₇.trans I I₇ a, b, c, e⟩
  · have : i = n := by omega
    subst this
    refine wpAny_mono (T.done (X.at_ ρ σ) env F s' rfl stJ' hwrσ IJ) (fun r s₅ ⟨hr, x₅, I₅⟩ => ?_) fun _ _ e => e.elim
    subst hr
    have M₅ : Moved X V env F s s₅ V := by
      refine ⟨((hM.step.mono (fun _ h _ => .inl h) fun b hb _ => List.mem_append_left wr hb).trans (x₅.mono (fun _ h _ => .inl h) fun b hb _ => List.mem_append_right _ hb)).mono (fun _ h _ => .inl h) fun b hb hne => ?_, fun _ h => .inl h⟩
      rcases List.mem_append.mp hb with hb | hb
      · exact hb
      · exact absurd (hfr b hb) hne
    exact wpAny_mono (fin ρ σ hσ hI A env F s₅ I₅) (fun fl s₆ o => OutOk.after M₅ I I₅ o) fun _ _ e => e.elim

/-- several names take a tuple or a list -/
def seqD : D → Option (List D)
  | .list ds => some ds
  | .tup ds => some ds
  | _ => none
theorem St1.assignTup {ks : List (Str × Pos)} {k0 : Nat} {tpos pos : Pos} {e : Expr} {d : D} {ds : List D} {ρ : Env0} (he : Ev X e d) (hd : seqD d = some ds) (hl : ks.length = ds.length) (hk : (ks.all fun k => storable X.sc k.1) = true) (hn : (ks.map (·.1)).Nodup) (hy : ∀ k ∈ ks, niceName k.1)
    (h1 : ∀ p ∈ ρ, p ∈ X.ρ) (h2 : ∀ p ∈ ρ, p.1 ∉ ks.map (·.1)) (h : Φ (.next (bsOf ks ds ++ ρ) X.σ V))
    (hs : ∀ env, env.scope = X.sc → swapsWithSole [.Tuple (ks.map fun k => Expr.Name k.1 k.2) k0 tpos] e pos.line env = pure false)
    (hw : ∀ env, env.scope = X.sc → swappedStores [.Tuple (ks.map fun k => Expr.Name k.1 k.2) k0 tpos] e env = pure none) : St1 X V (.Assign [.Tuple (ks.map fun k => Expr.Name k.1 k.2) k0 tpos] e pos) Φ := by
  intro A env F s I
  refine Assign_Tuple (wpAny_mono (he A env F s I) (fun v s₁ ⟨x₁, r⟩ => ?_) fun _ _ e => e) (hs env I.env.scope) (hw env I.env.scope)
  have I₁ := (I.step x₁).weak h1
  have fin : ∀ s₂, Step X.G F (ownT env (ks.map (·.1))) s₁ s₂ → In (X.setρ (bsOf ks ds ++ ρ)) A env F s₂ → OutOk X V A env F s s₂ Φ .next := fun s₂ x₂ I₂ =>
    ⟨_, _, V, Moved.own (x₁.weak.trans x₂) fun b hb _ => List.mem_append_left _ (ownT_own b hb), I₂, h⟩
  cases r with
  | list hw hl' rs =>
    cases hd
    exact wpAny_mono (Mine.assignLst (X := X.setρ ρ) I₁ hl'.1 rs hl hk hn hy h2) (fun _ s₂ ⟨x₂, I₂⟩ => fin s₂ x₂ I₂) fun _ _ e => e
  | tup ht rs =>
    cases hd
    exact wpAny_mono (Mine.assignTup (X := X.setρ ρ) I₁ ht rs hl hk hn hy h2) (fun _ s₂ ⟨x₂, I₂⟩ => fin s₂ x₂ I₂) fun _ _ e => e
  | _ => cases hd

theorem In.stepX {A : Around} {env : Env} {F : List Addr} {s s' : Shared} {C : Addr} {m : Str → Option Value} (I : In X A env F s) (x : Step X.G F [C] s s') (hm : s.heap.Ns C m) (h1 : X.G.s1.heap.get? C = none) (hW : C ∉ wOf X.σ) (hF : C ∉ F) (hL : C ≠ env.locals) : In X A env F s' := by
  obtain ⟨o, es, ep, e, d, _⟩ := hm
  have hcel : ∀ c v, s.heap.IsCell c v → s'.heap.IsCell c v := fun c v hc => x.cell I.good (fun q => by
    obtain ⟨o', e', d'⟩ := hc
    rw [List.mem_singleton.mp q, e] at e'; cases e'; rw [d] at d'; cases d') hc
  have I' := I.stepO x (fun b hb => by rw [List.mem_singleton.mp hb]; exact h1) (fun b hb => by rw [List.mem_singleton.mp hb]; exact ⟨hW, fun o' e' => by rw [e] at e'; cases e'; rw [d]; exact ⟨fun _ _ q => Data.noConfusion q, fun _ q => Data.noConfusion q⟩⟩)
    (fun b hb => .inl (by rw [List.mem_singleton.mp hb]; exact hF)) (ρ := X.ρ) (fun hr p hp => ?_) I.env.nice (let ⟨m, hm⟩ := I.env.loc; ⟨m, x.ns I.good (fun q => hL (List.mem_singleton.mp q).symm) hm⟩) (fun y c e => let ⟨⟨v, hv⟩, _⟩ := I.env.cell y c e; ⟨v, hcel c v hv⟩)
  · exact I'
  · rcases I.env.names p hp with ⟨k, m', w, e1, e2, e3⟩ | ⟨k, c, w, e1, e2, e3⟩
    · exact .inl ⟨k, m', w, x.ns I.good (fun q => hL (List.mem_singleton.mp q).symm) e1, e2, hr e3⟩
    · exact .inr ⟨k, c, w, e1, hcel _ _ e2, hr e3⟩

/-- a name takes a comprehension, on one line -/
theorem St1.assignComp {y : Str} {py pos cpos : Pos} {elt target iter : Expr} {ifs : List Expr} {rest : List Comprehension} {csc : Scope} {res : List D} {ρ : Env0} (he : CompWp X (.ListComp elt (⟨target, iter, ifs, 0⟩ :: rest) csc cpos) csc iter res) (hk : X.sc.names.lookup y = some .local)
    (h1 : ∀ p ∈ ρ, p ∈ X.ρ) (h2 : ∀ p ∈ ρ, p.1 ≠ y) (hy : niceName y) (h : Φ (.next ((y, .list res) :: ρ) X.σ V))
    (hs : ∀ env, env.scope = X.sc → swapsWith (.ListComp elt (⟨target, iter, ifs, 0⟩ :: rest) csc cpos) (some (.Name y py)) pos.line env = pure true) : St1 X V (.Assign [.Name y py] (.ListComp elt (⟨target, iter, ifs, 0⟩ :: rest) csc cpos) pos) Φ := by
  intro A env F s I
  rw [exec_Assign_Name_used _ _ _ _ (hs env I.env.scope)]
  refine wpAny_bind (wpAny_standAt (wpAny_bind ?_))
  show wpAny _ A (do let _ ← comprehension (.ListComp elt (⟨target, iter, ifs, 0⟩ :: rest) csc cpos) csc env _ (newList []) false (eval iter env) (some (PySem.assign (Expr.Name y py) env))) _ _ s
  refine wpAny_bind (he A env F s _ (some (PySem.assign (Expr.Name y py) env)) _ I fun s' C Dd x r hC hm => ?_)
  have I' := I.step x
  refine PySem.wpAny_assign_Name (wpAny_mono (I'.storeL hk h1 h2 hy r) (fun _ s₂ ⟨x₂, I₂⟩ => ?_) fun _ _ e => e)
  obtain ⟨m, hm⟩ := hm
  have hCL : C ≠ env.locals := fun q => by
    obtain ⟨m', o, _, _, e, _⟩ := I.env.loc
    rw [q] at hC; rw [hC] at e; cases e
  have hm₂ : s₂.heap.Ns C m := x₂.ns I'.good (fun q => hCL (List.mem_singleton.mp q)) hm
  refine ⟨m, hm₂, fun h' hs' => ?_⟩
  obtain ⟨oC, esC, epC, eC, dC, _⟩ := id hm₂
  have xC : Step X.G F [C] s₂ { s₂ with heap := h' } := Step.of_but (tk := s₂.toks) hs'.extBut (ne_T' I₂.good eC (by rw [dC]; exact fun _ q => Data.noConfusion q)) (fun o e vs => by rw [eC] at e; cases e; rw [dC]; exact fun q => Data.noConfusion q)
  have hCF : C ∉ F := fun q => by
    obtain ⟨_, _, o, _, _, e, _⟩ := I.room.fresh C q
    rw [hC] at e; cases e
  refine wpAny_pure (wpAny_pure ⟨_, _, V, Moved.own ((x.weak.trans (x₂.mono (fun _ h _ => .inl h) fun b hb _ => by rw [List.mem_singleton.mp hb]; exact .head [C])).trans (xC.mono (fun _ h _ => .inl h) fun b hb _ => by rw [List.mem_singleton.mp hb]; exact .tail _ (.head _))) fun b hb hne => ?_,
    I₂.stepX xC hm₂ (I.good.fresh hC) (I.notW hC) hCF hCL, h⟩)
  rcases List.mem_cons.mp hb with q | q
  · rw [q]; exact List.mem_append_left _ (.head _)
  · rw [List.mem_singleton.mp q] at hne; exact absurd hC hne
end
end Mine
end
section
local macro_rules | `(tactic| omega) => `(tactic| lia)
open PySem PySem.W PySem.Calls PyProof.Rows
namespace Mine

/-- a def of the text as the written part holds it -/
structure FnK (G : Gd) (a : Addr) (body : List Stmt) (sc : Scope) (cd : Value) (fd : FuncData) : Prop where
  at_ : ∃ oc od sl, G.s1.heap.get? a = some ⟨oc, od, .func fd, sl⟩
  body : fd.body = .stmts body
  scp : fd.scope = sc
  code : fd.code = cd
  glob : fd.globals = mainGlobals
  blt : fd.builtins = builtinsNs
  clo : fd.closure = []
  cdr : G.s1.heap.CodeRec fd.code fd.qualname
  cdT : fd.code ≠ .ref G.T
  nofree : (sc.names.all fun p => p.2 != .free) = true
  cot : sc.isCoroutine = false
  gen : sc.isGenerator = false
  kind : sc.kind = .function

/-- a call with data: a datum back, the objects V may turn, the owned objects stand as told -/
def CallsM (G : Gd) (n : Nat) (σ : Sig) (V : List Addr) (f : Value) (ds : List D) (kw : List (Str × Value)) (Ψ : D → Sig → Prop) : Prop :=
  ∀ A F s vs, GIn G n σ A F s → Reps (wOf σ) s.heap vs ds → wpAny (model G.prog G.w) A (call f vs kw) (fun v s' => Step G F V s s' ∧ ∃ d σ', GIn G n σ' A F s' ∧ Rep (wOf σ') s'.heap v d ∧ Ψ d σ') (fun _ _ => False) s

theorem bindL_get {kindOf : Str → Option NameKind} : ∀ (binds : List (Str × Value)) (m : Str → Option Value), (binds.map (·.1)).Nodup → (∀ p ∈ binds, kindOf p.1 = some .local → bindL kindOf binds m p.1 = some p.2) ∧ ∀ x, x ∉ binds.map (·.1) → bindL kindOf binds m x = m x
  | [], m, _ => ⟨(fun _ q => absurd q List.not_mem_nil), fun _ _ => rfl⟩
  | (n, v) :: r, m, h => by
    have hn := List.nodup_cons.mp h
    obtain ⟨h1, h2⟩ := bindL_get (kindOf := kindOf) r (if kindOf n = some .local then fun y => if y = n then some v else m y else m) hn.2
    refine ⟨fun p hp hk => ?_, fun x hx => ?_⟩
    · unfold bindL
      rcases List.mem_cons.mp hp with rfl | hp
      · rw [h2 n hn.1]
        have hk' : kindOf n = some .local := hk
        rw [if_pos hk']; simp
      · exact h1 p hp hk
    · unfold bindL
      have hx' : x ∉ r.map (·.1) := fun q => hx (.tail _ q)
      have hxn : x ≠ n := fun q => hx (by rw [q]; exact .head _)
      rw [h2 x hx']
      split
      · exact if_neg hxn
      · rfl
theorem bindC_get {kindOf : Str → Option NameKind} : ∀ (binds : List (Str × Value)) (m : Str → Option Value), (binds.map (·.1)).Nodup → (∀ p ∈ binds, kindOf p.1 ≠ some .local → bindC kindOf binds m p.1 = some p.2) ∧ ∀ x, x ∉ binds.map (·.1) → bindC kindOf binds m x = m x
  | [], m, _ => ⟨(fun _ q => absurd q List.not_mem_nil), fun _ _ => rfl⟩
  | (n, v) :: r, m, h => by
    have hn := List.nodup_cons.mp h
    obtain ⟨h1, h2⟩ := bindC_get (kindOf := kindOf) r (if kindOf n = some .local then m else fun y => if y = n then some v else m y) hn.2
    refine ⟨fun p hp hk => ?_, fun x hx => ?_⟩
    · unfold bindC
      rcases List.mem_cons.mp hp with rfl | hp
      · rw [h2 n hn.1]
        have hk' : ¬ kindOf n = some .local := hk
        rw [if_neg hk']; simp
      · exact h1 p hp hk
    · unfold bindC
      have hx' : x ∉ r.map (·.1) := fun q => hx (.tail _ q)
      have hxn : x ≠ n := fun q => hx (by rw [q]; exact .head _)
      rw [h2 x hx']
      split
      · rfl
      · exact if_neg hxn

theorem zip_rep {W : List Addr} {h : Heap} : ∀ {xs : List Str} {vs : List Value} {ds : List D}, Reps W h vs ds → ∀ p ∈ xs.zip ds, ∃ v, (p.1, v) ∈ xs.zip vs ∧ Rep W h v p.2
  | [], _, _, _, p, hp => by simp at hp
  | x :: xs, _, _, .nil, p, hp => by simp at hp
  | x :: xs, _, _, .cons (v := v) (vs := vs) r rs, p, hp => by
    rcases List.mem_cons.mp (List.zip_cons_cons ▸ hp) with rfl | hp
    · exact ⟨v, by rw [List.zip_cons_cons]; exact .head _, r⟩
    · obtain ⟨v', h1, h2⟩ := zip_rep rs p hp
      exact ⟨v', by rw [List.zip_cons_cons]; exact .tail _ h1, h2⟩

/-- the names of a def's parameters, given their values -/
def namesOk (sc : Scope) (xs : List Str) : Bool := xs.all fun x => storable sc x

/-- the frame of a call of a def of the text -/
theorem enter_fnC {G : Gd} {n : Nat} {σ : Sig} {a : Addr} {body : List Stmt} {sc : Scope} {cd : Value} {fd : FuncData} {ds : List D} {kw : List (Str × Value)} {xs : List Str} {es : List D}
    (K : FnK G a body sc cd fd) (bind : ∀ s vs, G.K.In s.heap → vs.length = ds.length → ∃ ws, BindsTo s fd ⟨vs, kw⟩ (xs.zip ws) ∧ (Reps (wOf σ) s.heap vs ds → Reps (wOf σ) s.heap ws es))
    (hx : namesOk sc xs = true) (hnd : xs.Nodup) (hnice : ∀ x ∈ xs, niceName x) (hlen : xs.length = es.length) {A : Around} {F : List Addr} {s : Shared} {vs : List Value} {R : Result → Shared → Prop} (g : GIn G (n + 1) σ A F s) (rs : Reps (wOf σ) s.heap vs ds)
    (h : ∀ env s₁, In ⟨G, n, sc, cd, xs.zip es, σ⟩ (A.deeper env) env (s.heap.objs.size :: F) s₁ → env.frame = some s.heap.objs.size → Step G F [] s s₁ → (∀ b ∈ s.heap.objs.size :: ownA env, s.heap.get? b = none) →
      wpAny (model G.prog G.w) (A.deeper env) (execs body env) (fun fl s' => R (.ok (.ret (match fl with | .ret v => v | _ => .none))) s') (fun e s' => wpAny (model G.prog G.w) (A.deeper env) (leaving env e) (fun _ s'' => R (.error e) s'') (fun e' s'' => R (.error e') s'') s') s₁) :
    codeAny (model G.prog G.w) A (.call (.ref a) ⟨vs, kw⟩) R s := by
  obtain ⟨oc, od, sl, ho⟩ := K.at_
  have ho' : s.heap.get? a = some ⟨oc, od, .func fd, sl⟩ := by
    refine g.good.keep a _ (fun q => ?_) ho
    obtain ⟨ps, h1⟩ := g.good.ok.tab
    rw [q, h1] at ho; cases ho
  obtain ⟨ws, hbind, hreps⟩ := bind s vs g.good.K rs.len
  have hws := hreps rs
  have hcdr : s.heap.CodeRec fd.code fd.qualname := by
    obtain ⟨c, o, fs, t, e, g1, d, r⟩ := K.cdr
    exact ⟨c, o, fs, t, e, g.good.keep _ _ (fun q => K.cdT (by rw [e, q])) g1, d, r⟩
  have hzl : (xs.zip ws).map (·.1) = xs := by
    rw [List.map_fst_zip]
    rw [hws.len, hlen]; exact Nat.le_refl _
  have hkinds : ∀ x ∈ xs.zip ws, fd.scope.names.lookup x.1 = some .local ∨ (fd.scope.names.lookup x.1 = some .cell ∧ ((cellsFrom (s.heap.objs.size + 1) fd.scope.names []).lookup x.1).isSome = true) := fun x hx' => by
    have hm : x.1 ∈ xs := by rw [← hzl]; exact List.mem_map.mpr ⟨x, hx', rfl⟩
    have := List.all_eq_true.mp hx x.1 hm
    rw [K.scp]
    unfold storable at this
    split at this
    · rename_i e; exact .inl e
    · rename_i e; exact .inr ⟨e, cellsFrom_some _ _ _ (.inl e)⟩
    · cases this
  refine (codeAny_call_function (by have := g.room.depth; unfold recursionLimit; omega) ho' rfl (by rw [K.scp]; exact K.cot) (by rw [K.scp]; exact K.gen) K.body hcdr ?_)
  refine hbind _ _ _ _ ?_
  rw [K.clo]
  refine wpAny_newFunctionEnv_cells (by rw [K.scp]; exact K.kind) hkinds fun env he s₁ x => ?_
  subst he
  refine ⟨g.good.lim.keeps x.toInCall.keep, codeAny_func ?_⟩
  generalize henv : newEnv fd.scope s.heap.objs.size fd.globals (cellsFrom (s.heap.objs.size + 1) fd.scope.names []) (fd.qualname ++ ".<locals>.") (some a) fd.code none fd.builtins = env at *
  have e_loc : env.locals = s.heap.objs.size := by rw [← henv]; rfl
  have e_cells : env.cells = cellsFrom (s.heap.objs.size + 1) fd.scope.names [] := by rw [← henv]; rfl
  have e_sc : env.scope = sc := by rw [← henv]; exact K.scp
  have e_fr : env.frame = some s.heap.objs.size := by rw [← henv]; rfl
  have x1 : Step G F [] s s₁ := by
    obtain ⟨h, tk, e⟩ := x.toInCall.same
    rw [e]; exact Step.of_keep fun b o q => by have := x.toInCall.keep b o q; rw [e] at this; exact this
  have hLn : s.heap.get? s.heap.objs.size = none := fresh_ge (Nat.le_refl _)
  have hcn : ∀ y c, env.cells.lookup y = some c → s.heap.get? c = none := fun y c e => fresh_ge (by have := x.above y c (mem_of_lookup e); rw [e_loc] at this; exact Nat.le_of_lt this)
  obtain ⟨oL, esL, epL, eL, dL, _⟩ := id x.toInCall.ns
  have I : In ⟨G, n, sc, cd, xs.zip es, σ⟩ (A.deeper env) env (s.heap.objs.size :: F) s₁ := by
    refine ⟨g.good.step g.room.freshF (fun _ q => absurd q List.not_mem_nil) x1, ⟨g.room.handled, ?_, ?_, ?_, ?_⟩, ⟨e_sc, K.kind, (by rw [← henv]; exact K.glob), (by rw [← henv]; exact K.blt), (by rw [← henv]; exact K.code), ?_, ?_, ⟨_, x.toInCall.ns⟩, (by rw [e_loc]; exact g.good.fresh hLn), ?_, ?_, ?_⟩, g.sig.step0 g.good g.room.dicts x1, g.own⟩
    · show A.depth + 1 + n ≤ 1000
      have := g.room.depth; omega
    · show A.units + 3 + 100 * n ≤ 9000
      have := g.room.units; omega
    · obtain ⟨outer, h1, h2, h3⟩ := g.room.frames
      refine ⟨env :: outer, by show A.frames.map (env :: ·) = _; rw [h1]; rfl, by rw [List.filterMap_cons, e_fr, h2], fun e he => ?_⟩
      rcases List.mem_cons.mp he with rfl | he
      · exact ⟨by rw [e_sc]; exact K.kind, _, e_fr⟩
      · exact h3 e he
    · intro L hL
      rcases List.mem_cons.mp hL with rfl | hL
      · refine ⟨g.good.fresh hLn, fun q => ?_, oL, esL, epL, by rw [← e_loc]; exact eL, dL⟩
        obtain ⟨ps, h1, _⟩ := g.good.tab
        rw [← q, hLn] at h1; cases h1
      · exact (g.room.step x1 (fun _ q => absurd q List.not_mem_nil)).fresh L hL
    · intro p hp
      obtain ⟨v, hv, hr⟩ := zip_rep hws p hp
      have hm : p.1 ∈ xs := by rw [← hzl]; exact List.mem_map.mpr ⟨(p.1, v), hv, rfl⟩
      have hst := List.all_eq_true.mp hx p.1 hm
      have hr' : Rep (wOf σ) s₁.heap v p.2 := (x1.rep0 g.good g.sig).1 hr
      have hkk : env.kindOf p.1 = sc.names.lookup p.1 := by unfold Env.kindOf; rw [e_sc]
      unfold storable at hst
      split at hst
      · rename_i e
        exact .inl ⟨hkk.trans e, _, v, x.toInCall.ns, (bindL_get (xs.zip ws) _ (by rw [hzl]; exact hnd)).1 (p.1, v) hv (hkk.trans e), hr'⟩
      · rename_i e
        have hks : env.kindOf p.1 = some .cell := hkk.trans e
        have hsome := cellsFrom_some fd.scope.names (s.heap.objs.size + 1) [] (.inl (by rw [K.scp]; exact e) : fd.scope.names.lookup p.1 = some .cell ∨ _)
        obtain ⟨c, hc⟩ := Option.isSome_iff_exists.mp hsome
        rw [← e_cells] at hc
        have := x.cell p.1 c hc
        rw [(bindC_get (xs.zip ws) _ (by rw [hzl]; exact hnd)).1 (p.1, v) hv (by rw [hks]; exact fun q => nomatch q)] at this
        exact .inr ⟨.inl hks, c, v, hc, this, hr'⟩
      · cases hst
    · intro p hp
      exact hnice p.1 (List.of_mem_zip hp).1
    · intro y hy
      rcases hy with hy | hy
      · have hsome := cellsFrom_some fd.scope.names (s.heap.objs.size + 1) [] (.inl (by rw [K.scp]; exact hy) : fd.scope.names.lookup y = some .cell ∨ _)
        rw [← e_cells] at hsome
        exact Option.isSome_iff_exists.mp hsome
      · have := List.all_eq_true.mp K.nofree _ (lookup_mem hy)
        simp at this
    · intro y c e
      exact ⟨⟨_, x.cell y c e⟩, g.good.fresh (hcn y c e)⟩
    · intro y z c e1 e2
      exact name_of_addr x.apart (mem_of_lookup e1) (mem_of_lookup e2)
  refine h env s₁ I e_fr x1 fun b hb => ?_
  rcases List.mem_cons.mp hb with rfl | hb
  · exact hLn
  · rcases List.mem_cons.mp hb with hb | hb
    · rw [hb, e_loc]; exact hLn
    · obtain ⟨p, _, q⟩ := List.mem_filterMap.mp hb
      exact hcn _ _ q

theorem enter_fn {G : Gd} {n : Nat} {σ : Sig} {a : Addr} {body : List Stmt} {sc : Scope} {cd : Value} {fd : FuncData} {ds : List D} {kw : List (Str × Value)} {xs : List Str} {es : List D}
    (K : FnK G a body sc cd fd) (bind : ∀ s vs, G.K.In s.heap → vs.length = ds.length → ∃ ws, BindsTo s fd ⟨vs, kw⟩ (xs.zip ws) ∧ (Reps (wOf σ) s.heap vs ds → Reps (wOf σ) s.heap ws es))
    (hx : namesOk sc xs = true) (hnd : xs.Nodup) (hnice : ∀ x ∈ xs, niceName x) (hlen : xs.length = es.length) {A : Around} {F : List Addr} {s : Shared} {vs : List Value} {Q E : Value → Shared → Prop} (g : GIn G (n + 1) σ A F s) (rs : Reps (wOf σ) s.heap vs ds)
    (h : ∀ env s₁, In ⟨G, n, sc, cd, xs.zip es, σ⟩ (A.deeper env) env (s.heap.objs.size :: F) s₁ → env.frame = some s.heap.objs.size → Step G F [] s s₁ → (∀ b ∈ s.heap.objs.size :: ownA env, s.heap.get? b = none) →
      wpAny (model G.prog G.w) (A.deeper env) (execs body env) (fun fl s' => Q (match fl with | .ret v => v | _ => .none) s') (fun e s' => wpAny (model G.prog G.w) (A.deeper env) (leaving env e) (fun _ s'' => E e s'') (fun e' s'' => E e' s'') s') s₁) :
    wpAny (model G.prog G.w) A (call (.ref a) vs kw) Q E s :=
  wpAny_call (enter_fnC K bind hx hnd hnice hlen g rs h)

theorem CallsM.of_body {G : Gd} {n : Nat} {σ : Sig} {V : List Addr} {a : Addr} {body : List Stmt} {sc : Scope} {cd : Value} {fd : FuncData} {ds : List D} {kw : List (Str × Value)} {Ψ : D → Sig → Prop} {xs : List Str} {es : List D}
    (K : FnK G a body sc cd fd) (bind : ∀ s vs, G.K.In s.heap → vs.length = ds.length → ∃ ws, BindsTo s fd ⟨vs, kw⟩ (xs.zip ws) ∧ (Reps (wOf σ) s.heap vs ds → Reps (wOf σ) s.heap ws es))
    (hx : namesOk sc xs = true) (hnd : xs.Nodup) (hnice : ∀ x ∈ xs, niceName x) (hlen : xs.length = es.length)
    (hb : St ⟨G, n, sc, cd, xs.zip es, σ⟩ V body (fun o => match o with | .ret d σ' => Ψ d σ' | .next _ σ' _ => Ψ .none σ' | _ => False)) : CallsM G (n + 1) σ V (.ref a) ds kw Ψ := by
  intro A F s vs g rs
  refine enter_fn K bind hx hnd hnice hlen g rs fun env s₁ I e_fr x1 hnew => ?_
  refine wpAny_mono (hb (A.deeper env) env (s.heap.objs.size :: F) s₁ I) (fun fl s' o => ?_) fun _ _ e => e.elim
  have back : ∀ ρ' σ' V', Moved ⟨G, n, sc, cd, xs.zip es, σ⟩ V env (s.heap.objs.size :: F) s₁ s' V' → In (Cx.at_ ⟨G, n, sc, cd, xs.zip es, σ⟩ ρ' σ') (A.deeper env) env (s.heap.objs.size :: F) s' → Step G F V s s' ∧ GIn G (n + 1) σ' A F s' := by
    intro ρ' σ' V' M I'
    have st : Step G F V s s' := ((x1.mono (F' := s.heap.objs.size :: F) (O' := ownA env ++ V) (fun _ h _ => .inl (.tail _ h)) (fun _ h _ => absurd h List.not_mem_nil)).trans M.step).mono (fun b hb hne => by
      rcases List.mem_cons.mp hb with rfl | hb
      · exact absurd (hnew _ (.head _)) hne
      · exact .inl hb) fun b hb hne => by
      rcases List.mem_append.mp hb with hb | hb
      · exact absurd (hnew _ (.tail _ hb)) hne
      · exact hb
    refine ⟨st, I'.good, ⟨g.room.handled, g.room.depth, g.room.units, g.room.frames, fun L hL => I'.room.fresh L (.tail _ hL)⟩, I'.sig, I'.own⟩
  cases fl with
  | ret v =>
    obtain ⟨ρ', σ', d, a1, a2, a3, a4⟩ := o
    obtain ⟨b1, b2⟩ := back ρ' σ' _ a1 a2
    exact ⟨b1, d, σ', b2, a3, a4⟩
  | next =>
    obtain ⟨ρ', σ', V', a1, a2, a4⟩ := o
    obtain ⟨b1, b2⟩ := back ρ' σ' _ a1 a2
    exact ⟨b1, .none, σ', b2, .none, a4⟩
  | brk => obtain ⟨_, _, _, _, _, a4⟩ := o; exact a4.elim
  | cont => obtain ⟨_, _, _, _, _, a4⟩ := o; exact a4.elim
end Mine
end
section
local macro_rules | `(tactic| omega) => `(tactic| lia)
open PySem PySem.W PySem.Calls PyProof.Rows
namespace Mine

/-- a list, frozen or owned -/
inductive LstAt (σ : Sig) : D → List D → Prop
  | frozen (ds : List D) : LstAt σ (.list ds) ds
  | owned (a : Addr) (ds : List D) : (a, Own.list ds) ∈ σ → LstAt σ (.fn (.ref a)) ds

theorem LstAt.list {σ : Sig} {h : Heap} {d : D} {ds : List D} {v : Value} (S : SigOk σ h) (l : LstAt σ d ds) (r : Rep (wOf σ) h v d) : ∃ a vs, v = .ref a ∧ h.IsList a vs.toArray ∧ Reps (wOf σ) h vs ds := by
  cases l with
  | frozen =>
    obtain ⟨_, _, rfl, _, hl, rs⟩ := r.listI
    exact ⟨_, _, rfl, hl.1, rs⟩
  | owned a _ hm =>
    cases S.at_ _ hm with
    | list hl rs => exact ⟨a, _, r.fnI, hl.1, rs⟩

/-- a global name that the text binds to a datum -/
theorem Ev.globD {X : Cx} {x : Str} {pos : Pos} {v : Value} {d : D} (hl : X.sc.names.lookup x = some .globalImplicit) (h : nsIn X.G.K mainGlobals x = some (some v)) (hr : ∀ W h, Rep W h v d) (hx : (x == ("__debug__" : Str)) = false := by decide) : Ev X (.Name x pos) d := by
  intro A env F s I
  have hk : env.scope.kind = .function := by rw [I.env.scope]; exact I.env.kind
  refine wpAny_Name ?_ hx
  rw [loadName_glob hk (by unfold Env.kindOf; rw [I.env.scope]; exact hl)]
  exact loadGlobal_of (by rw [I.env.globals]; exact I.good.g) (mg_of' I.good.ok h) ⟨Step.refl, hr _ _⟩

section
variable {G : Gd} {n : Nat} {σ : Sig}
theorem Calls.len_list {d : D} {ds : List D} (l : LstAt σ d ds) (hb : ds.length ≤ 1000000) : Calls G n σ (.builtin "len") [d] (.int ds.length) := by
  intro A F s _ g r
  obtain ⟨_, rfl, r1⟩ := r.oneI
  obtain ⟨a, vs, rfl, hl, rs⟩ := l.list g.sig r1
  refine PyProof.Rows.len_list hl (by rw [List.size_toArray, rs.len]; omega) ⟨Step.toks, ?_⟩
  rw [List.size_toArray, rs.len]
  exact .int _ _
theorem Calls.len_str {x : Str} (hb : x.length ≤ 1000000) : Calls G n σ (.builtin "len") [.str x] (.int x.length) := by
  intro A F s _ g r
  obtain ⟨_, rfl, r1⟩ := r.oneI
  obtain ⟨_, rfl⟩ := r1.strI
  exact PyProof.Rows.len_str (by omega) ⟨Step.toks, .int _ _⟩
end

section
variable {X : Cx}
/-- a subscript -/
def Sub1 (X : Cx) (d i r : D) : Prop :=
  ∀ A env F s v vi (value slice : Expr), In X A env F s → Rep (wOf X.σ) s.heap v d → Rep (wOf X.σ) s.heap vi i → (∀ o i, ∃ ops, subscripted slice false o i = operate ops (getItem o i)) →
    Gives1 X A F s (subscriptTail value slice v vi) r
theorem Ev.sub {value slice : Expr} {pos : Pos} {d i r : D} (hd : Ev X value d) (hi : Ev X slice i) (hr : Sub1 X d i r)
    (hs : ∀ o i, ∃ ops, subscripted slice false o i = operate ops (getItem o i) := by intro _ _; exact ⟨_, rfl⟩) : Ev X (.Subscript value slice pos) r := fun A env F s I =>
  Subscript_ (wpAny_mono (hd A env F s I) (fun v s₁ ⟨x₁, r₁⟩ => wpAny_mono (hi A env F s₁ (I.step x₁)) (fun vi s₂ ⟨x₂, r₂⟩ =>
    wpAny_mono (hr A env F s₂ v vi value slice ((I.step x₁).step x₂) ((I.step x₁).rep x₂ r₁) r₂ hs) (fun _ _ ⟨x₃, r₃⟩ => ⟨(x₁.trans x₂).trans x₃, r₃⟩) fun _ _ e => e) fun _ _ e => e) fun _ _ e => e)

theorem Sub1.list {d : D} {ds : List D} {i : Int} {r : D} (l : LstAt X.σ d ds) (h0 : 0 ≤ i) (hb : i < 2 ^ 63) (hr : ds[i.toNat]? = some r) : Sub1 X d (.int i) r := by
  intro A env F s v _ value slice I r₁ r hs
  obtain ⟨_, rfl⟩ := r.intI
  obtain ⟨a, vs, rfl, hl, rs⟩ := l.list I.sig r₁
  obtain ⟨w, hw, rw_⟩ := rs.get hr
  obtain ⟨ops, hs⟩ := hs (.ref a) (.int i _)
  exact tail_any hl.typeIs slot_list_getitem.lookup (wpAny_getItem_list hl h0 hb (by simpa using hw) ⟨Step.refl, rw_⟩) hs
theorem Sub1.list_last {d : D} {ds : List D} {r : D} (l : LstAt X.σ d ds) (hr : ds[ds.length - 1]? = some r) : Sub1 X d (.int (-1)) r := by
  intro A env F s v _ value slice I r₁ r hs
  obtain ⟨_, rfl⟩ := r.intI
  obtain ⟨a, vs, rfl, hl, rs⟩ := l.list I.sig r₁
  obtain ⟨w, hw, rw_⟩ := rs.get hr
  obtain ⟨ops, hs⟩ := hs (.ref a) (.int (-1) _)
  have hne : 0 < vs.length := by
    have := List.getElem?_eq_some_iff.mp hw
    obtain ⟨h, _⟩ := this; omega
  refine tail_any hl.typeIs slot_list_getitem.lookup (wpAny_getItem_list_neg (x := w) hl (by omega) (by rw [List.size_toArray]; omega) (by omega) ?_ ⟨Step.refl, rw_⟩) hs
  rw [List.size_toArray, ← rs.len] at *
  have : (-1 + (vs.length : Int)).toNat = vs.length - 1 := by omega
  rw [this]; simpa using hw
theorem Sub1.tup {ds : List D} {i : Int} {r : D} (h0 : 0 ≤ i) (hb : i < 2 ^ 63) (hr : ds[i.toNat]? = some r) : Sub1 X (.tup ds) (.int i) r := by
  intro A env F s v _ value slice I r₁ r hs
  obtain ⟨_, rfl⟩ := r.intI
  obtain ⟨_, _, rfl, ht, rs⟩ := r₁.tupI
  obtain ⟨w, hw, rw_⟩ := rs.get hr
  obtain ⟨ops, hs⟩ := hs _ (.int i _)
  obtain ⟨o, e, c, nn, dd⟩ := ht
  have hlt : i.toNat < _ := (List.getElem?_eq_some_iff.mp hw).1
  refine tail_any (IsTup.typeIs (s := s) ⟨o, e, c, nn, dd⟩) slot_tuple_getitem.lookup (getItem_tuple (j := i.toNat) ⟨o, e, c, nn, dd⟩ (by omega) hb ?_ (by simpa using hw) ⟨Step.refl, rw_⟩) hs
  unfold seqIndex?
  rw [List.size_toArray]
  simp only [if_neg (show ¬ i < 0 by omega)]
  rw [if_pos (by simp only [Bool.and_eq_true, decide_eq_true_eq]; omega)]

/-- slices of lists -/
def PartEv (X : Cx) : Option Expr → Option Int → Prop
  | none, none => True
  | some e, some i => Ev X e (.int i)
  | _, _ => False
theorem PartEv.at {e : Option Expr} {i : Option Int} (h : PartEv X e i) {A : Around} {env : Env} {F : List Addr} {s : Shared} (I : In X A env F s) : wpAny (model X.G.prog X.G.w) A (evalPart e env) (fun v s' => Step X.G F [] s s' ∧ ∃ p : Option (Int × Tok), v = partValue p ∧ p.map (·.1) = i) (fun _ _ => False) s := by
  match e, i, h with
  | none, none, _ => exact evalPart_none_step ⟨Step.refl, none, rfl, rfl⟩
  | some e, some i, h =>
    refine evalPart_some_step (wpAny_mono (h A env F s I) (fun v s' ⟨x, r⟩ => ?_) fun _ _ e => e)
    obtain ⟨t, rfl⟩ := r.intI
    exact ⟨x, some (i, t), rfl, rfl⟩
theorem partIs {p : Option (Int × Tok)} : IsPart (partValue p) (p.map (·.1)) := by
  cases p with
  | none => exact .none
  | some q => exact .int _ _
theorem Ev.sliceL {value : Expr} {lo hi : Option Expr} {l h : Option Int} {p pos : Pos} {d : D} {ds : List D} {r : List D} (hd : Ev X value d) (L : LstAt X.σ d ds) (hl : PartEv X lo l) (hh : PartEv X hi h) (hb : ds.length ≤ 100000)
    (hr : ∀ W hp vs, Reps W hp vs ds → Reps W hp (slicePick vs.toArray l h none).toList r) (ht : ∀ o r, letTemporaryGo value o r = pure () := by intro _ _; rfl) : Ev X (.Subscript value (.Slice lo hi none p) pos) (.list r) := fun A env F s I => by
  refine wpAny_Subscript_list_slice (wpAny_mono (hd A env F s I) (fun v s₁ ⟨x₁, r₁⟩ => wpAny_mono (hl.at (I.step x₁)) (fun vl s₂ ⟨x₂, pl, e₂, f₂⟩ => wpAny_mono (hh.at ((I.step x₁).step x₂)) (fun vh s₃ ⟨x₃, ph, e₃, f₃⟩ => ?_) fun _ _ e => e) fun _ _ e => e) fun _ _ e => e) ht
  have I₃ := ((I.step x₁).step x₂).step x₃
  have x₁₂₃ := (x₁.trans x₂).trans x₃
  obtain ⟨a, vs, rfl, hls, rs⟩ := L.list I₃.sig (((I.step x₁).step x₂).rep x₃ ((I.step x₁).rep x₂ r₁))
  refine ⟨a, vs.toArray, l, h, rfl, hls, (by rw [List.size_toArray, rs.len]; unfold sizeLine; omega), (by rw [e₂, ← f₂]; exact partIs), (by rw [e₃, ← f₃]; exact partIs), ?_⟩
  have y := step_push (G := X.G) (F := F) (O := []) (s := s₃) (o := { cls := .type "slice", data := .fields #[vl, vh, .none] })
  have I₄ := I₃.step y
  have z := step_push (G := X.G) (F := F) (O := []) (s := { s₃ with heap := s₃.heap.push { cls := .type "slice", data := .fields #[vl, vh, .none] } }) (o := { cls := .type "list", data := .seq (slicePick vs.toArray l h none) })
  refine ⟨(x₁₂₃.trans y).trans z, ?_⟩
  have := I₄.new_list (hr _ _ _ (I₃.reps y rs))
  rw [Heap.size_push] at this
  rw [Array.toArray_toList] at this
  exact this
end
end Mine
end
section
local macro_rules | `(tactic| omega) => `(tactic| lia)
open PySem PySem.W PySem.Calls PyProof.Rows PySem.SeqAt
namespace Mine

def plain0 : D → Bool
  | .none => true
  | .bool _ => true
  | .int _ => true
  | .str _ => true
  | _ => false
def plainD : Nat → D → Bool
  | 0 => plain0
  | n + 1 => fun d => match d with
    | .list ds => ds.all (plainD n)
    | .tup ds => ds.all (plainD n)
    | d => plain0 d
theorem plain_map {α : Type} {n : Nat} {l : List α} {f : α → D} (h : ∀ a, plainD n (f a) = true) : (l.map f).all (plainD n) = true :=
  List.all_eq_true.mpr fun d hd => by obtain ⟨a, _, rfl⟩ := List.mem_map.mp hd; exact h a
theorem plain_two {n : Nat} {a b : D} (ha : plainD n a = true) (hb : plainD n b = true) : [a, b].all (plainD n) = true := by
  rw [List.all_cons, List.all_cons, ha, hb]; rfl

theorem Reps.item {W : List Addr} {h : Heap} {vs : List Value} {ds : List D} (r : Reps W h vs ds) {j : Nat} (hj : j < vs.toArray.size) : ∃ d, ds[j]? = some d ∧ Rep W h vs.toArray[j] d := by
  have hj' : j < vs.length := by simpa using hj
  have hd : j < ds.length := by rw [← r.len]; exact hj'
  obtain ⟨v, e, q⟩ := r.get (k := j) (d := ds[j]) (by simp [hd])
  refine ⟨ds[j], by simp [hd], ?_⟩
  have e' : vs[j]? = some vs[j] := by simp [hj']
  rw [e'] at e; cases e
  simpa using q

theorem Rep.isBool {W : List Addr} {h : Heap} {v : Value} {b : Bool} (r : Rep W h v (.bool b)) : v = .bool b := by cases r; rfl
theorem all_range {n : Nat} : ((List.range n).all fun _ => true) = true := by simp

theorem eqAt_flat {W : List Addr} {s : Shared} {d : D} {A : Around} {v v' : Value} (hp : plain0 d = true) (r : Rep W s.heap v d) (r' : Rep W s.heap v' d) : EqAt A s v v' true := by
  cases d with
  | none => rw [r.nonI, r'.nonI]; exact EqAt.same _
  | bool b => rw [r.boolI, r'.boolI]; exact EqAt.same _
  | int i =>
    obtain ⟨t, rfl⟩ := r.intI
    obtain ⟨u, rfl⟩ := r'.intI
    exact beq_self_eq_true i ▸ EqAt.int_int (A := A) (s := s) i t i u
  | str x =>
    obtain ⟨t, rfl⟩ := r.strI
    obtain ⟨u, rfl⟩ := r'.strI
    exact beq_self_eq_true x ▸ EqAt.str_str (A := A) (s := s) x t x u
  | list | tup | fn => cases hp
theorem eqAt_rep {W : List Addr} {s : Shared} (n : Nat) : ∀ (d : D) (A : Around) (v v' : Value), plainD n d = true → A.units + n < cLine → Rep W s.heap v d → Rep W s.heap v' d → EqAt A s v v' true := by
  induction n with
  | zero => exact fun d A v v' hp hu r r' => eqAt_flat hp r r'
  | succ n ih =>
    have items : ∀ {A : Around} {ds : List D} {vs ws : List Value}, ds.all (plainD n) = true → A.in1.units + n < cLine → Reps W s.heap vs ds → Reps W s.heap ws ds → ∀ j (j1 : j < vs.toArray.size) (j2 : j < ws.toArray.size), EqAt A.in1 s vs.toArray[j] ws.toArray[j] true := fun hp hu r1 r2 j j1 j2 => by
      obtain ⟨d, e1, q1⟩ := r1.item j1
      obtain ⟨d', e2, q2⟩ := r2.item j2
      have e := Option.some.inj (e1.symm.trans e2)
      subst e
      exact ih d _ _ _ (List.all_eq_true.mp hp _ (List.mem_of_getElem? e1)) hu q1 q2
    intro d A v v' hp hu r r'
    cases d with
    | list ds =>
      obtain ⟨a, vs, rfl, _, ⟨h1, _⟩, r1⟩ := r.listI
      obtain ⟨b, ws, rfl, _, ⟨h2, _⟩, r2⟩ := r'.listI
      by_cases hab : a = b
      · subst hab; exact EqAt.same _
      have e := RcAt.lists (A := A) (e := fun _ => true) h1 h2 (r1.len.trans r2.len.symm) (by omega) (items hp (by show A.units + 1 + n < cLine; omega) r1 r2)
      rw [all_range] at e
      exact EqAt.of_refs hab e
    | tup ds =>
      obtain ⟨a, vs, rfl, h1, r1⟩ := r.tupI
      obtain ⟨b, ws, rfl, h2, r2⟩ := r'.tupI
      by_cases hab : a = b
      · subst hab; exact EqAt.same _
      have e := RcAt.tuples (A := A) (e := fun _ => true) h1 h2 (by omega) (items hp (by show A.units + 1 + n < cLine; omega) r1 r2)
      rw [all_range, List.size_toArray, List.size_toArray, r1.len, r2.len, beq_self_eq_true] at e
      exact EqAt.of_refs hab e
    | none => exact eqAt_flat rfl r r'
    | bool => exact eqAt_flat rfl r r'
    | int => exact eqAt_flat rfl r r'
    | str => exact eqAt_flat rfl r r'
    | fn => cases hp

section
variable {X : Cx}
theorem room_units {G : Gd} {n : Nat} {A : Around} {F : List Addr} {h : Heap} (r : Room G n A F h) : A.units + 10 < cLine := by
  have := r.units; unfold cLine; omega
/-- lists of the same data are equal -/
theorem Bin.eq_list {ds : List D} (hp : (ds.all (plainD 4)) = true) : Bin X (compareOp .Eq) (.list ds) (.list ds) (.bool true) := by
  intro A env F s _ _ I ra rb
  obtain ⟨_, _, rfl, _, ⟨h1, _⟩, r1⟩ := ra.listI
  obtain ⟨_, _, rfl, _, ⟨h2, _⟩, r2⟩ := rb.listI
  have hu := room_units I.room
  have e := RcAt.lists (A := A) (e := fun _ => true) h1 h2 (by rw [List.size_toArray, List.size_toArray, r1.len, r2.len]) (by omega) fun j j1 j2 => by
    obtain ⟨d, e1, q1⟩ := r1.item j1
    obtain ⟨d', e2, q2⟩ := r2.item j2
    rw [e1] at e2; cases e2
    exact eqAt_rep 4 d A.in1 _ _ (List.all_eq_true.mp hp _ (List.mem_of_getElem? e1)) (by show A.units + 1 + 4 < cLine; omega) q1 q2
  rw [all_range] at e
  exact EqBoolInt.of_rc e ⟨Step.refl, .bool _⟩
theorem Bin.ne_list {ds : List D} (hp : (ds.all (plainD 4)) = true) : Bin X (compareOp .NotEq) (.list ds) (.list ds) (.bool false) := by
  intro A env F s _ _ I ra rb
  obtain ⟨_, _, rfl, _, ⟨h1, _⟩, r1⟩ := ra.listI
  obtain ⟨_, _, rfl, _, ⟨h2, _⟩, r2⟩ := rb.listI
  have hu := room_units I.room
  have e := RcNeAt.lists (A := A) (e := fun _ => true) h1 h2 (by rw [List.size_toArray, List.size_toArray, r1.len, r2.len]) (by omega) fun j j1 j2 => by
    obtain ⟨d, e1, q1⟩ := r1.item j1
    obtain ⟨d', e2, q2⟩ := r2.item j2
    rw [e1] at e2; cases e2
    exact eqAt_rep 4 d A.in1 _ _ (List.all_eq_true.mp hp _ (List.mem_of_getElem? e1)) (by show A.units + 1 + 4 < cLine; omega) q1 q2
  rw [all_range] at e
  exact EqBoolInt.of_rcne e ⟨Step.refl, .bool _⟩
/-- lists of truth values -/
theorem Bin.eq_bools {n : Nat} {f g : Nat → Bool} : Bin X (compareOp .Eq) (.list ((List.range n).map fun i => .bool (f i))) (.list ((List.range n).map fun i => .bool (g i))) (.bool ((List.range n).all fun i => f i == g i)) := by
  intro A env F s _ _ I ra rb
  obtain ⟨_, _, rfl, _, ⟨h1, _⟩, r1⟩ := ra.listI
  obtain ⟨_, _, rfl, _, ⟨h2, _⟩, r2⟩ := rb.listI
  have hu := room_units I.room
  have e := RcAt.lists (A := A) (e := fun i => f i == g i) h1 h2 (by rw [List.size_toArray, List.size_toArray, r1.len, r2.len]; simp) (by omega) fun j j1 j2 => by
    obtain ⟨d, e1, q1⟩ := r1.item j1
    obtain ⟨d', e2, q2⟩ := r2.item j2
    have hj : j < n := by rw [List.size_toArray, r1.len] at j1; simpa using j1
    simp [hj] at e1 e2
    subst e1 e2
    rw [q1.isBool, q2.isBool]
    exact EqAt.bool_bool _ _
  rw [List.size_toArray, r1.len, List.length_map, List.length_range] at e
  exact EqBoolInt.of_rc e ⟨Step.refl, .bool _⟩
end
end Mine
end
section
local macro_rules | `(tactic| omega) => `(tactic| lia)
open PySem PySem.W PySem.Calls PyProof.Rows
namespace Mine

section
variable {X : Cx}
/-- a call of a built-in type whose answer has a property -/
theorem eval_call_gen {fe e : Expr} {es : List Expr} {f : Value} {ds : List D} {pos : Pos} {P : Value → Heap → Prop} (hf : Ev X fe (.fn f)) (ha : Evs X (e :: es) ds) (hk : KeepV X.G X.n X.σ f) (hn : notAttr fe = true) (hp : plainEs (e :: es) = true)
    {A : Around} {env : Env} {F : List Addr} {s : Shared} (I : In X A env F s)
    (hc : ∀ s' vs, Step X.G F [] s s' → In X A env F s' → Reps (wOf X.σ) s'.heap vs ds → wpAny (model X.G.prog X.G.w) A (call f vs) (fun v s'' => Step X.G F [] s' s'' ∧ P v s''.heap) (fun _ _ => False) s') :
    wpAny (model X.G.prog X.G.w) A (eval (.Call fe (e :: es) [] pos) env) (fun v s' => Step X.G F [] s s' ∧ P v s'.heap) (fun _ _ => False) s := by
  rw [eval_Call hn]
  refine wpAny_bind (wpAny_mono (hf A env F s I) (fun v s₁ ⟨x₁, r⟩ => ?_) fun _ _ e => e)
  obtain rfl := r.fnI
  refine callWith_ok (I.step x₁) ha hp hk fun vs s₂ x₂ rs => ?_
  exact wpAny_mono (hc s₂ vs (x₁.trans x₂) ((I.step x₁).step x₂) rs) (fun v s₃ ⟨x₃, r₃⟩ => ⟨(x₁.trans x₂).trans x₃, r₃⟩) fun _ _ e => e

/-- the heap bears a small range -/
def RangeAt (a c : Int) (n : Nat) (v : Value) (h : Heap) : Prop := ∃ r b t u t', v = .ref r ∧ IsRange h r a b c t u t' ∧ Builtin.Range.small a b c = true ∧ Builtin.Range.rangeSize a b c = n

theorem IterEx.ofRange {e : Expr} {y : Str} {py : Pos} {a c : Int} {n : Nat} (hy : niceName y)
    (h : ∀ A env F s, In X A env F s → wpAny (model X.G.prog X.G.w) A (eval e env) (fun v s' => Step X.G F [] s s' ∧ RangeAt a c n v s'.heap) (fun _ _ => False) s) :
    IterEx X e (.Name y py) [y] n (fun i => [(y, .int (a + (i : Nat) * c))]) := by
  intro A env F s I
  refine wpAny_mono (h A env F s I) (fun v s₁ ⟨x₁, hr⟩ => ⟨x₁, ?_⟩) fun _ _ e => e
  obtain ⟨r, b, t, u, t', rfl, hr, hs, hz⟩ := hr
  have hn : s₁.heap.get? s₁.heap.objs.size = none := fresh_ge (Nat.le_refl _)
  refine wpAny_pyIter_range hr hs ⟨step_push, s₁.heap.objs.size, _, _, _, rfl, Turn.name (Walks.range (prog := X.G.prog) (w := X.G.w) I.room.handled s₁.heap.objs.size a c n) [] [] (fun i => .int (a + (i : Nat) * c))
      (fun V h i v hi r e => by obtain ⟨t, rfl⟩ := e; exact .int _ _) hy (fun i h st b hb => ?_) (fun i h st b hb => ?_), ⟨?_, .nil⟩, fun b hb => ?_, fun b hb => ?_⟩
  · rw [List.mem_singleton.mp hb]
    exact ⟨_, st, (fun q => Value.noConfusion q), (fun _ _ q => Data.noConfusion q), (fun _ q => Data.noConfusion q)⟩
  · rw [List.mem_singleton.mp hb]
    exact ⟨_, _, st, (fun q => Value.noConfusion q), rfl, (fun x t q => by simp [rawInt] at q)⟩
  · rw [hz]
    show IsRangeIter _ _ (a + ((0 : Nat) : Int) * c) ((n : Int) - ((0 : Nat) : Int)) c
    simp only [Int.cast_ofNat_Int, Int.zero_mul, Int.add_zero, Int.sub_zero]
    exact Heap.get?_push_size _ rfl
  · rw [List.mem_singleton.mp hb]
    exact Step.noneAt I.good x₁ hn (fun q => absurd q List.not_mem_nil)
  · rw [List.mem_singleton.mp hb]
    exact I.notW (Step.noneAt I.good x₁ hn (fun q => absurd q List.not_mem_nil))

theorem IterEx.range1 {fe e : Expr} {pos : Pos} {y : Str} {py : Pos} {n : Nat} (hf : Ev X fe (.fn (.type "range"))) (he : Ev X e (.int n)) (hb : n ≤ 1000000) (hy : niceName y)
    (hn : notAttr fe = true := by rfl) (hp : plainEs [e] = true := by rfl) (he' : ∀ env, starEach [e] env = (false, eval e env) :: starEach [] env := by intro _; rfl) :
    IterEx X (.Call fe [e] [] pos) (.Name y py) [y] n (fun i => [(y, .int i)]) := by
  have := IterEx.ofRange (X := X) (e := .Call fe [e] [] pos) (y := y) (py := py) (a := 0) (c := 1) (n := n) hy fun A env F s I => eval_call_gen hf (Evs.cons he Evs.nil he') keepT hn hp I fun s' vs x I' rs => by
    obtain ⟨_, rfl, r1⟩ := rs.oneI; obtain ⟨_, rfl⟩ := r1.intI
    exact call_range_1 ⟨(step_push (F := F) (O := []) (s := s')).trans Step.toks, _, _, _, _, _, rfl, Heap.get?_push_size _ rfl, small_one (by omega) (by omega) (by omega) (by omega), by rw [rangeSize_one]; split <;> omega⟩
  simpa using this
theorem IterEx.range2 {fe e₁ e₂ : Expr} {pos : Pos} {y : Str} {py : Pos} {a : Int} {n : Nat} (hf : Ev X fe (.fn (.type "range"))) (h1 : Ev X e₁ (.int a)) (h2 : Ev X e₂ (.int (a + n))) (ha : 0 ≤ a) (hb : a ≤ 1000000) (hbn : n ≤ 1000000) (hy : niceName y)
    (hn : notAttr fe = true := by rfl) (hp : plainEs [e₁, e₂] = true := by rfl) (he' : ∀ env, starEach [e₁, e₂] env = (false, eval e₁ env) :: starEach [e₂] env := by intro _; rfl) (he'' : ∀ env, starEach [e₂] env = (false, eval e₂ env) :: starEach [] env := by intro _; rfl) :
    IterEx X (.Call fe [e₁, e₂] [] pos) (.Name y py) [y] n (fun i => [(y, .int (a + (i : Nat)))]) := by
  have := IterEx.ofRange (X := X) (e := .Call fe [e₁, e₂] [] pos) (y := y) (py := py) (a := a) (c := 1) (n := n) hy fun A env F s I => eval_call_gen hf (Evs.cons h1 (Evs.cons h2 Evs.nil he'') he') keepT hn hp I fun s' vs x I' rs => by
    obtain ⟨_, _, rfl, r1, r2⟩ := rs.twoI; obtain ⟨_, rfl⟩ := r1.intI; obtain ⟨_, rfl⟩ := r2.intI
    exact call_range_2 ⟨(step_push (F := F) (O := []) (s := s')).trans Step.toks, _, _, _, _, _, rfl, Heap.get?_push_size _ rfl, small_one (by omega) (by omega) (by omega) (by omega), by rw [rangeSize_one]; split <;> omega⟩
  simpa using this
theorem IterEx.range3 {fe e₁ e₂ e₃ : Expr} {pos : Pos} {y : Str} {py : Pos} {a b c : Int} {n : Nat} (hf : Ev X fe (.fn (.type "range"))) (h1 : Ev X e₁ (.int a)) (h2 : Ev X e₂ (.int b)) (h3 : Ev X e₃ (.int c)) (hc : c ≠ 0) (hs : Builtin.Range.small a b c = true) (hz : Builtin.Range.rangeSize a b c = n) (hd : Builtin.divisionGoesByPylong (b - a) c = false) (hy : niceName y)
    (hn : notAttr fe = true := by rfl) (hp : plainEs [e₁, e₂, e₃] = true := by rfl) (he' : ∀ env, starEach [e₁, e₂, e₃] env = (false, eval e₁ env) :: starEach [e₂, e₃] env := by intro _; rfl) (he'' : ∀ env, starEach [e₂, e₃] env = (false, eval e₂ env) :: starEach [e₃] env := by intro _; rfl) (he3 : ∀ env, starEach [e₃] env = (false, eval e₃ env) :: starEach [] env := by intro _; rfl) :
    IterEx X (.Call fe [e₁, e₂, e₃] [] pos) (.Name y py) [y] n (fun i => [(y, .int (a + (i : Nat) * c))]) :=
  IterEx.ofRange (X := X) hy fun A env F s I => eval_call_gen hf (Evs.cons h1 (Evs.cons h2 (Evs.cons h3 Evs.nil he3) he'') he') keepT hn hp I fun s' vs x I' rs => by
    obtain ⟨_, _, _, rfl, r1, r2, r3⟩ := rs.threeI; obtain ⟨_, rfl⟩ := r1.intI; obtain ⟨_, rfl⟩ := r2.intI; obtain ⟨_, rfl⟩ := r3.intI
    exact call_range_3 hc ⟨(step_push (F := F) (O := []) (s := s')).trans Step.toks, _, _, _, _, _, rfl, Heap.get?_push_size _ rfl, hs, hz⟩ (.inl hd)

/-- over a list or a tuple that an expression yields -/
theorem IterEx.list {e : Expr} {y : Str} {py : Pos} {d : D} {ds : List D} (he : Ev X e (.list ds)) (hy : niceName y) : IterEx X e (.Name y py) [y] ds.length (fun i => [(y, ds.getD i .none)]) := by
  intro A env F s I
  refine wpAny_mono (he A env F s I) (fun v s₁ ⟨x₁, r⟩ => ⟨x₁, ?_⟩) fun _ _ e => e
  have I₁ := I.step x₁
  have hn : s₁.heap.get? s₁.heap.objs.size = none := fresh_ge (Nat.le_refl _)
  have hn0 := Step.noneAt I.good x₁ hn (fun q => absurd q List.not_mem_nil)
  obtain ⟨a, vs, rfl, hw, hlp, rs⟩ := r.listI
  have hl := hlp.1
  have hne : a ≠ s₁.heap.objs.size := by obtain ⟨o, e, _⟩ := hl; exact Nat.ne_of_lt (Heap.lt_size e)
  have T := Turn.name (py := py) (y := y) (Walks.list (prog := X.G.prog) (w := X.G.w) I.room.handled s₁.heap.objs.size a hne vs.toArray) vs ds (fun i => ds.getD i .none)
      (fun V h i v hi r e => get_item r (by rw [List.size_toArray, r.len] at hi; exact hi) e _) hy (fun i h st => live_list st.1 st.2) (fun i h st => turner_list st.1)
  rw [show vs.toArray.size = ds.length from (List.size_toArray ..).trans rs.len] at T
  refine wpAny_pyIter_list hl ⟨step_push, s₁.heap.objs.size, _, _, _, rfl, T, ?_, fun b hb => ?_, fun b hb => ?_⟩
  · exact ⟨⟨⟨_, Heap.get?_push_size _ rfl, rfl, rfl⟩, hl.push _⟩, I₁.reps (step_push (F := F)) rs⟩
  · rw [List.mem_singleton.mp hb]; exact hn0
  · rcases List.mem_cons.mp hb with q | q
    · rw [q]; exact I.notW hn0
    · rw [List.mem_singleton.mp q]; exact hw
theorem tuple_notW {A : Around} {env : Env} {F : List Addr} {s : Shared} (I : In X A env F s) {a : Addr} {xs : Array Value} (ht : s.heap.IsTuple a xs) : a ∉ wOf X.σ := fun q => I.sig.noTuple a q xs ht
theorem IterEx.tup {e : Expr} {y : Str} {py : Pos} {ds : List D} (he : Ev X e (.tup ds)) (hy : niceName y) : IterEx X e (.Name y py) [y] ds.length (fun i => [(y, ds.getD i .none)]) := by
  intro A env F s I
  refine wpAny_mono (he A env F s I) (fun v s₁ ⟨x₁, r⟩ => ⟨x₁, ?_⟩) fun _ _ e => e
  have I₁ := I.step x₁
  have hn : s₁.heap.get? s₁.heap.objs.size = none := fresh_ge (Nat.le_refl _)
  have hn0 := Step.noneAt I.good x₁ hn (fun q => absurd q List.not_mem_nil)
  obtain ⟨a, vs, rfl, hl, rs⟩ := r.tupI
  have hne : a ≠ s₁.heap.objs.size := by obtain ⟨o, e, _⟩ := hl; exact Nat.ne_of_lt (Heap.lt_size e)
  have T := Turn.name (py := py) (y := y) (Walks.tuple (prog := X.G.prog) (w := X.G.w) I.room.handled s₁.heap.objs.size a hne vs.toArray) vs ds (fun i => ds.getD i .none)
      (fun V h i v hi r e => get_item r (by rw [List.size_toArray, r.len] at hi; exact hi) e _) hy (fun i h st => live_tuple st.1 st.2) (fun i h st => turner_tuple st.1)
  rw [show vs.toArray.size = ds.length from (List.size_toArray ..).trans rs.len] at T
  refine wpAny_pyIter_tuple hl ⟨step_push, s₁.heap.objs.size, _, _, _, rfl, T, ?_, fun b hb => ?_, fun b hb => ?_⟩
  · exact ⟨⟨⟨_, Heap.get?_push_size _ rfl, rfl, rfl⟩, (by obtain ⟨o, e, q⟩ := hl; exact ⟨o, Heap.get?_push_of_some _ e, q⟩)⟩, I₁.reps (step_push (F := F)) rs⟩
  · rw [List.mem_singleton.mp hb]; exact hn0
  · rcases List.mem_cons.mp hb with q | q
    · rw [q]; exact I.notW hn0
    · rw [List.mem_singleton.mp q]; exact tuple_notW I₁ hl
/-- over a list of tuples, several names -/
theorem IterEx.listTup {e : Expr} {ks : List (Str × Pos)} {k0 : Nat} {tpos : Pos} {m : Nat} {dss : Nat → List D} (he : Ev X e (.list ((List.range m).map fun i => .tup (dss i)))) (hl : ∀ i, i < m → (dss i).length = ks.length) (hn : (ks.map (·.1)).Nodup) (hy : ∀ k ∈ ks, niceName k.1) :
    IterEx X e (.Tuple (ks.map fun k => Expr.Name k.1 k.2) k0 tpos) (ks.map (·.1)) m (fun i => bsOf ks (dss i)) := by
  intro A env F s I
  refine wpAny_mono (he A env F s I) (fun v s₁ ⟨x₁, r⟩ => ⟨x₁, ?_⟩) fun _ _ e => e
  have I₁ := I.step x₁
  have hnn : s₁.heap.get? s₁.heap.objs.size = none := fresh_ge (Nat.le_refl _)
  have hn0 := Step.noneAt I.good x₁ hnn (fun q => absurd q List.not_mem_nil)
  obtain ⟨a, vs, rfl, hw, hlp, rs⟩ := r.listI
  have hls := hlp.1
  have hne : a ≠ s₁.heap.objs.size := by obtain ⟨o, e, _⟩ := hls; exact Nat.ne_of_lt (Heap.lt_size e)
  have hsz : vs.toArray.size = m := by rw [List.size_toArray, rs.len]; simp
  have T := Turn.tup (k0 := k0) (pos := tpos) (Walks.list (prog := X.G.prog) (w := X.G.w) I.room.handled s₁.heap.objs.size a hne vs.toArray) vs ((List.range m).map fun i => D.tup (dss i)) (fun i => dss i)
      (fun V h i v hi r e => ⟨by
        have := get_item r (by rw [List.size_toArray, r.len] at hi; exact hi) e .none
        rw [hsz] at hi
        simpa [hi] using this, hl i (by rw [hsz] at hi; exact hi)⟩) hn hy (fun i s v Q E st hQ => wpAny_letOwnedTupleGo_listiter st.1 hQ) (fun i h st => live_list st.1 st.2) (fun i h st => turner_list st.1)
  rw [hsz] at T
  refine wpAny_pyIter_list hls ⟨step_push, s₁.heap.objs.size, _, _, _, rfl, T, ?_, fun b hb => ?_, fun b hb => ?_⟩
  · exact ⟨⟨⟨_, Heap.get?_push_size _ rfl, rfl, rfl⟩, hls.push _⟩, I₁.reps (step_push (F := F)) rs⟩
  · rw [List.mem_singleton.mp hb]; exact hn0
  · rcases List.mem_cons.mp hb with q | q
    · rw [q]; exact I.notW hn0
    · rw [List.mem_singleton.mp q]; exact hw
end
end Mine
end
section
open PySem PySem.W PySem.Calls PyProof.Rows
namespace Mine

section
variable {prog : Program} {w : World} {A : Around} {E : Value → Shared → Prop} {s : Shared}
theorem meets_enumerate_tuple (l : Addr) (items : Array Value) (n : Nat) (dct : Option Addr) (sl : Array (Option Value)) :
    Meets (Builtin.«enumerate.__new__» ⟨[.type "enumerate", .ref l], []⟩) (fun _ R s => s.heap.get? l = some { cls := .type "tuple", dict := dct, data := .seq items n, slots := sl } ∧
      R (.ok (.ret (.ref (s.heap.push { cls := .type "tuple_iterator", data := .fields #[.ref l, .int 0 0] }).objs.size)))
        { s with heap := (s.heap.push { cls := .type "tuple_iterator", data := .fields #[.ref l, .int 0 0] }).push { cls := .type "enumerate", data := .fields #[.none, .bool false, .ref s.heap.objs.size, rawInt 0, .none, .none] } }) :=
  .of_wp fun prog w A R s h => by
    obtain ⟨hp, g, d, tk, os⟩ := s; obtain ⟨hl, h⟩ := h
    have hsub := sub_enumerate
    have hL : Heap.IsTuple (Shared.heap ⟨hp, g, d, tk, os⟩) l items := ⟨_, hl, rfl, n, rfl⟩
    wp_walk using AutoSeq1.wpAny_loadPart' hl
    refine wpAny_stack_any fun st => wpAny_pure ?_
    split
    · rename_i c _ _ _ _ _
      cases (c == Value.type "enumerate")
      · wp_walk using AutoSeq1.wpAny_loadPart' hl, wpAny_pyIter_tuple hL
        exact ⟨_, rfl, h⟩
      · wp_walk using AutoSeq1.wpAny_loadPart' hl, wpAny_pyIter_tuple hL
        exact ⟨_, rfl, h⟩
    · wp_walk using AutoSeq1.wpAny_loadPart' hl, wpAny_pyIter_tuple hL
      exact ⟨_, rfl, h⟩
theorem call_enumerate_tuple {l : Addr} {items : Array Value} {Q : Value → Shared → Prop} (hL : s.heap.IsTuple l items)
    (h : ∀ h', IsEnum h' (s.heap.objs.size + 1) s.heap.objs.size 0 .none → h'.IsTupleIter s.heap.objs.size l 0 → (∀ b o, s.heap.get? b = some o → h'.get? b = some o) → Q (.ref (s.heap.objs.size + 1)) { s with heap := h' }) :
    wpAny (model prog w) A (call (.type "enumerate") [.ref l]) Q E s := by
  obtain ⟨⟨c, dct, dt, sl⟩, hl, hc, n, hd⟩ := hL
  simp only at hc hd
  subst hc hd
  refine callType_new F.called_enumerate (by decide) (F.typeCall_enumerate_1 _) (F.newCall_enumerate_1 _) (fun obj => F.args_object_init_2 obj _) F.entry_enumerate_new
    (meets_enumerate_tuple l items n dct sl) ⟨hl, ?_⟩
  have hz : (s.heap.push { cls := .type "tuple_iterator", data := .fields #[.ref l, .int 0 0] }).objs.size = s.heap.objs.size + 1 := Heap.size_push ..
  show _ ∧ _
  rw [hz]
  have he : IsEnum ((s.heap.push { cls := .type "tuple_iterator", data := .fields #[.ref l, .int 0 0] }).push
      { cls := .type "enumerate", data := .fields #[.none, .bool false, .ref s.heap.objs.size, rawInt 0, .none, .none] }) (s.heap.objs.size + 1) s.heap.objs.size 0 .none := by
    rw [← hz]; exact Heap.get?_push_size _ rfl
  exact ⟨⟨_, he, rfl⟩, h _ he ⟨_, Heap.get?_push_of_some _ (Heap.get?_push_size _ rfl), rfl, rfl⟩ fun b o x => Heap.get?_push_of_some _ (Heap.get?_push_of_some _ x)⟩

theorem nextOf_tuple_item {it t : Addr} {i : Nat} {items} {x : Value} {Q : Value → Shared → Prop} (hit : s.heap.IsTupleIter it t i) (ht : s.heap.IsTuple t items) (hx : items[i]? = some x)
    (hQ : ∀ h', h'.IsTupleIter it t (i + 1) → Heap.SameBut it s.heap h' → Q x { s with heap := h' }) : wpAny (model prog w) A (Builtin.SmallTypes.nextOf (.ref it)) Q E s := by
  obtain ⟨o, ho, hc, hd⟩ := id hit
  obtain ⟨ol, hol, _, nl, hdl⟩ := ht
  unfold Builtin.SmallTypes.nextOf
  refine wpAny_bind (wpAny_callSpecial?_slot (name := Str.ofString "__next__") hit.typeIs F.slot_tuple_iterator_next
    (wpAny_call_entry F.slot_tuple_iterator_next hit.typeIs F.entry_tuple_iterator_next ?_ (F.args_tuple_iterator_next_1 _)))
  show wpAny _ _ (field (.ref it) 0 >>= _) _ _ s
  refine wpAny_bind (wpAny_field ho hd (x := .ref t) rfl ?_)
  show wpAny _ _ (if (Value.ref t == Value.none) = true then _ else _) _ _ s
  rw [if_neg (show ¬ ((Value.ref t == Value.none) = true) from Bool.false_ne_true)]
  show wpAny _ _ (field (.ref it) 1 >>= _) _ _ s
  refine wpAny_bind (wpAny_field ho hd (x := .int i 0) rfl ?_)
  show wpAny _ _ (seqItems? (.ref t) >>= _) _ _ s
  refine wpAny_bind (wpAny_seqItems hol hdl ?_)
  simp only [Int.toNat_natCast, hx]
  refine wpAny_bind (wpAny_setField ho hd (by simp) (wpAny_pure ⟨x, rfl, wpAny_pure (hQ _ ?_ (Heap.SameBut.update ..))⟩))
  exact ⟨_, Heap.get?_update_self _ ho (Obj.isFreed_of_fields (Obj.data_mapFields hd _)), (Obj.cls_mapFields ..).trans hc, by
    rw [Obj.data_mapFields hd]; simp [rawInt]⟩
theorem nextOf_tuple_end {it t : Addr} {i : Nat} {items} {Q : Value → Shared → Prop} (hh : A.handled = none) (hit : s.heap.IsTupleIter it t i) (ht : s.heap.IsTuple t items) (hx : items[i]? = none)
    (hE : ∀ h' e, Heap.ExtBut it s.heap h' → (∃ o, h'.get? e = some o ∧ o.cls = .type "StopIteration") → E (.ref e) { s with heap := h' }) : wpAny (model prog w) A (Builtin.SmallTypes.nextOf (.ref it)) Q E s := by
  obtain ⟨o, ho, hc, hd⟩ := id hit
  obtain ⟨ol, hol, _, nl, hdl⟩ := ht
  unfold Builtin.SmallTypes.nextOf
  refine wpAny_bind (wpAny_callSpecial?_slot (name := Str.ofString "__next__") hit.typeIs F.slot_tuple_iterator_next
    (wpAny_call_entry F.slot_tuple_iterator_next hit.typeIs F.entry_tuple_iterator_next ?_ (F.args_tuple_iterator_next_1 _)))
  show wpAny _ _ (field (.ref it) 0 >>= _) _ _ s
  refine wpAny_bind (wpAny_field ho hd (x := .ref t) rfl ?_)
  show wpAny _ _ (if (Value.ref t == Value.none) = true then _ else _) _ _ s
  rw [if_neg (show ¬ ((Value.ref t == Value.none) = true) from Bool.false_ne_true)]
  show wpAny _ _ (field (.ref it) 1 >>= _) _ _ s
  refine wpAny_bind (wpAny_field ho hd (x := .int i 0) rfl ?_)
  show wpAny _ _ (seqItems? (.ref t) >>= _) _ _ s
  refine wpAny_bind (wpAny_seqItems hol hdl ?_)
  simp only [Int.toNat_natCast, hx]
  refine wpAny_bind (wpAny_rule (wpAny_bind (wpAny_setField ho hd (by simp) ?_)))
  show wpAny _ _ (newExc (.type "StopIteration") [] >>= _) _ _ _
  refine wpAny_bind ?_
  simp only [newExc, newTuple]
  refine wpAny_bind (wpAny_newObj_type ?_ (by size_fits))
  refine wpAny_bind (m := firstArgMember _ _) (wpAny_of_eq (a := Value.none) (by first | rfl | (simp only [firstArgMember]; rfl)) ?_)
  refine wpAny_newObj_type ?_ (by size_fits)
  simp only [raiseNew]
  refine wpAny_bind (wpAny_handled ?_)
  first | rw [show A.in1.handled = none from hh] | rw [hh]
  refine wpAny_bind (wpAny_pure (wpAny_throw ?_))
  exact hE _ _ (((Heap.SameBut.update ..).extBut.push _).push _) ⟨_, Heap.get?_push_size _ rfl, rfl⟩
end
theorem drawsTuple {prog : Program} {w : World} {A : Around} (hh : A.handled = none) (it l : Addr) (hne : l ≠ it) (items : Array Value) :
    Draws prog w A it [it, l] items.size (fun i v => items[i]? = some v) (fun i h => h.IsTupleIter it l i ∧ h.IsTuple l items) where
  live := fun _ _ st => let ⟨o, ho, _⟩ := st.1; ⟨o, ho⟩
  frame := fun _ _ _ st hk => ⟨st.1.at fun o e => hk it (by simp) o e, st.2.at fun o e => hk l (by simp) o e⟩
  item := fun i s Q E hi st hQ => nextOf_tuple_item st.1 st.2 (x := items[i]) (by simp [hi]) fun h' hit' hs' => hQ _ h' s.toks (by simp [hi]) ⟨hit', st.2.extBut hs'.extBut hne⟩ hs'
  done := fun s Q E st hE => nextOf_tuple_end hh st.1 st.2 (by simp) hE

section
variable {X : Cx}
theorem enum_live {h : Heap} {e it : Addr} {i : Int} {old : Value} (he : IsEnum h e it i old) : (∃ o, h.get? e = some o ∧ o.cls ≠ .none ∧ (∀ es ep, o.data ≠ .dict es ep) ∧ (∀ v, o.data ≠ .cell v)) ∧ Turner h e :=
  ⟨⟨_, he, (fun q => Value.noConfusion q), (fun _ _ q => Data.noConfusion q), (fun _ q => Data.noConfusion q)⟩, _, _, he, (fun q => Value.noConfusion q), rfl, (fun x t q => by simp [rawInt] at q)⟩
theorem enumOut_turner {h : Heap} {e it a : Addr} {i : Int} {x : Value} (he : IsEnumOut h e it i x a) : Turner h e :=
  ⟨_, _, he, (fun q => Value.noConfusion q), rfl, (fun x t q => by simp [rawInt] at q)⟩

/-- enumerate over a list or a tuple -/
theorem IterEx.enum {fe e : Expr} {pos : Pos} {k1 k2 : Str × Pos} {k0 : Nat} {tpos : Pos} {d : D} {ds : List D} (hf : Ev X fe (.fn (.type "enumerate"))) (he : Ev X e d) (hd : seqD d = some ds) (hne12 : k1.1 ≠ k2.1) (hy1 : niceName k1.1) (hy2 : niceName k2.1)
    (hn : notAttr fe = true := by rfl) (hp : plainEs [e] = true := by rfl) (he' : ∀ env, starEach [e] env = (false, eval e env) :: starEach [] env := by intro _; rfl) :
    IterEx X (.Call fe [e] [] pos) (.Tuple [.Name k1.1 k1.2, .Name k2.1 k2.2] k0 tpos) [k1.1, k2.1] ds.length (fun i => [(k2.1, ds.getD i .none), (k1.1, .int i)]) := by
  intro A env F s I
  have ev := eval_call_gen (X := X) (pos := pos) (P := fun v h => ∃ E it l vs fp St, v = .ref E ∧ E ≠ it ∧ E ∉ fp ∧ it ∈ fp ∧ (∀ b ∈ fp, b = it ∨ b = l) ∧ l ∉ wOf X.σ ∧ s.heap.get? E = none ∧ s.heap.get? it = none ∧ Reps (wOf X.σ) h vs ds ∧
      Draws X.G.prog X.G.w A.in1 it fp ds.length (fun i v => vs[i]? = some v) St ∧ St 0 h ∧ IsEnum h E it 0 .none ∧ (∀ i h, St i h → (∀ b ∈ fp, ∃ o, h.get? b = some o ∧ o.cls ≠ .none ∧ (∀ es ep, o.data ≠ .dict es ep) ∧ (∀ v, o.data ≠ .cell v)) ∧ Turner h it)) hf (Evs.cons he Evs.nil he') keepT hn hp I fun s' vs x I' rs0 => by
    obtain ⟨_, rfl, r⟩ := rs0.oneI
    have h1 : s'.heap.get? s'.heap.objs.size = none := fresh_ge (Nat.le_refl _)
    have h2 : s'.heap.get? (s'.heap.objs.size + 1) = none := fresh_ge (Nat.le_succ _)
    have n1 := Step.noneAt I.good x h1 (fun q => absurd q List.not_mem_nil)
    have n2 := Step.noneAt I.good x h2 (fun q => absurd q List.not_mem_nil)
    cases r with
    | @list a vs _ hw hlp rs =>
      cases hd
      have hl := hlp.1
      have hlt : a < s'.heap.objs.size := by obtain ⟨o, e, _⟩ := hl; exact Heap.lt_size e
      refine call_enumerate_list hl fun h' hE hi _ k => ⟨Step.of_keep (h' := h') (tk := s'.toks) k, s'.heap.objs.size + 1, s'.heap.objs.size, a, vs, [s'.heap.objs.size, a], (fun i h => h.IsListIter s'.heap.objs.size a i ∧ h.IsList a vs.toArray), rfl, Nat.succ_ne_self _, ?_, List.mem_cons_self .., ?_, hw, n2, n1, rs.keeps k, ?_, ⟨hi, hl.at fun o e => k _ o e⟩, hE, fun i h st => ⟨live_list st.1 st.2, turner_list st.1 _ (List.mem_singleton.mpr rfl)⟩⟩
      · intro q; rcases List.mem_cons.mp q with q | q
        · exact absurd q (Nat.succ_ne_self _)
        · exact absurd hlt (by rw [← List.mem_singleton.mp q]; exact Nat.not_lt.mpr (Nat.le_succ _))
      · intro b hb; rcases List.mem_cons.mp hb with q | q
        · exact .inl q
        · exact .inr (List.mem_singleton.mp q)
      · have := Draws.list (prog := X.G.prog) (w := X.G.w) (A := A.in1) I.room.handled s'.heap.objs.size a (Nat.ne_of_lt hlt) vs.toArray
        rw [show vs.toArray.size = ds.length from (List.size_toArray ..).trans rs.len] at this
        simpa using this
    | @tup a vs _ hl rs =>
      cases hd
      have hlt : a < s'.heap.objs.size := by obtain ⟨o, e, _⟩ := hl; exact Heap.lt_size e
      refine call_enumerate_tuple hl fun h' hE hi k => ⟨Step.of_keep (h' := h') (tk := s'.toks) k, s'.heap.objs.size + 1, s'.heap.objs.size, a, vs, [s'.heap.objs.size, a], (fun i h => h.IsTupleIter s'.heap.objs.size a i ∧ h.IsTuple a vs.toArray), rfl, Nat.succ_ne_self _, ?_, List.mem_cons_self .., ?_, tuple_notW I' hl, n2, n1, rs.keeps k, ?_, ⟨hi, hl.at fun o e => k _ o e⟩, hE, fun i h st => ⟨live_tuple st.1 st.2, turner_tuple st.1 _ (List.mem_singleton.mpr rfl)⟩⟩
      · intro q; rcases List.mem_cons.mp q with q | q
        · exact absurd q (Nat.succ_ne_self _)
        · exact absurd hlt (by rw [← List.mem_singleton.mp q]; exact Nat.not_lt.mpr (Nat.le_succ _))
      · intro b hb; rcases List.mem_cons.mp hb with q | q
        · exact .inl q
        · exact .inr (List.mem_singleton.mp q)
      · have := drawsTuple (prog := X.G.prog) (w := X.G.w) (A := A.in1) I.room.handled s'.heap.objs.size a (Nat.ne_of_lt hlt) vs.toArray
        rw [show vs.toArray.size = ds.length from (List.size_toArray ..).trans rs.len] at this
        simpa using this
    | _ => cases hd
  refine wpAny_mono ev (fun v s₁ ⟨x₁, h⟩ => ⟨x₁, ?_⟩) fun _ _ e => e
  obtain ⟨E, it, l, vs, fp, St, rfl, hEi, hEf, hif, hfp, hlW, nE, nI, rs, Dr, st, hE, live⟩ := h
  refine wpAny_pyIter_enum hE ⟨Step.refl, E, _, _, _, rfl, Turn.made (ks := [k1, k2]) (k0 := k0) (pos := tpos) (WalksT.enumerateD Dr E hEi hEf hif) vs ds (fun i => [.int i, ds.getD i .none]) (fun V h i vals hi r e => ?_) (by simpa using hne12) (fun k hk => ?_) (fun i h st b hb => ?_) (fun i h st b hb => ?_) (fun i T h m b hb => ?_), ⟨⟨⟨_, hE⟩, st⟩, rs⟩, fun b hb => ?_, fun b hb => ?_⟩
  · obtain ⟨t, x, e, rfl⟩ := e
    refine ⟨.cons (.int _ _) (.cons (get_item r hi (by simpa using e) _) .nil), rfl⟩
  · rcases List.mem_cons.mp hk with rfl | hk
    · exact hy1
    · rw [List.mem_singleton.mp hk]; exact hy2
  · obtain ⟨⟨old, q⟩, st⟩ := st
    rcases List.mem_cons.mp hb with rfl | hb
    · exact (enum_live q).1
    · exact (live i h st).1 b hb
  · obtain ⟨⟨old, q⟩, st⟩ := st
    rcases List.mem_cons.mp hb with rfl | hb
    · exact (enum_live q).2
    · rw [List.mem_singleton.mp hb]; exact (live i h st).2
  · obtain ⟨⟨x, q⟩, st, _⟩ := m
    rcases List.mem_cons.mp hb with rfl | hb
    · exact enumOut_turner q
    · rw [List.mem_singleton.mp hb]; exact (live (i + 1) h st).2
  · rcases List.mem_cons.mp hb with rfl | hb
    · exact nE
    · rw [List.mem_singleton.mp hb]; exact nI
  · rcases List.mem_cons.mp hb with rfl | hb
    · exact I.notW nE
    · rcases hfp b hb with rfl | rfl
      · exact I.notW nI
      · exact hlW
end
end Mine
end
section
local macro_rules | `(tactic| omega) => `(tactic| lia)
open PySem PySem.W PySem.Calls PyProof.Rows
namespace Mine

theorem LstAt.plist {σ : Sig} {h : Heap} {d : D} {ds : List D} {v : Value} (S : SigOk σ h) (l : LstAt σ d ds) (r : Rep (wOf σ) h v d) : ∃ a vs, v = .ref a ∧ PList h a vs.toArray ∧ Reps (wOf σ) h vs ds := by
  cases l with
  | frozen =>
    obtain ⟨_, _, rfl, _, hl, rs⟩ := r.listI
    exact ⟨_, _, rfl, hl, rs⟩
  | owned a _ hm =>
    cases S.at_ _ hm with
    | list hl rs => exact ⟨a, _, r.fnI, hl, rs⟩
theorem Reps.ints {W : List Addr} {h : Heap} {vs : List Value} {ns : List Int} (r : Reps W h vs (ns.map D.int)) : IntsAre vs ns := by
  induction ns generalizing vs with
  | nil => rw [r.nilI]; exact .nil
  | cons n ns ih =>
    obtain ⟨_, _, rfl, a, r1⟩ := r.consI
    obtain ⟨t, rfl⟩ := a.intI
    exact .cons n t (ih r1)
theorem Reps.strs {W : List Addr} {h : Heap} {vs : List Value} {xs : List Str} (r : Reps W h vs (xs.map D.str)) : ∃ l : List (Str × Tok), vs = strValues l ∧ l.map (·.1) = xs := by
  induction xs generalizing vs with
  | nil => exact ⟨[], r.nilI, rfl⟩
  | cons x xs ih =>
    obtain ⟨_, _, rfl, a, r1⟩ := r.consI
    obtain ⟨t, rfl⟩ := a.strI
    obtain ⟨l, e, e'⟩ := ih r1
    exact ⟨(x, t) :: l, by rw [e]; rfl, by rw [← e']; rfl⟩
theorem Reps.ofStrs {W : List Addr} {h : Heap} : ∀ (l : List (Str × Tok)), Reps W h (strValues l) ((l.map (·.1)).map D.str)
  | [] => .nil
  | (x, t) :: l => .cons (.str x t) (Reps.ofStrs l)
theorem Reps.replicate {W : List Addr} {h : Heap} {vs : List Value} {ds : List D} (r : Reps W h vs ds) : ∀ k : Nat, Reps W h (List.replicate k vs).flatten (List.replicate k ds).flatten
  | 0 => .nil
  | k + 1 => by rw [List.replicate_succ, List.replicate_succ, List.flatten_cons, List.flatten_cons]; exact Reps.append (Reps.replicate r k) r

section
variable {X : Cx}
theorem Bin.addS {x y : Str} (h : x.length + y.length ≤ 100000) : Bin X (binaryOp .Add) (.str x) (.str y) (.str (x ++ y)) := by
  intro A env F s _ _ I ra rb
  obtain ⟨_, rfl⟩ := ra.strI
  obtain ⟨_, rfl⟩ := rb.strI
  exact PyProof.Rows.add_str (fun t' tk => ⟨Step.toks, .str _ _⟩) (by rw [sizeLine_eq]; omega)
theorem Bin.mulS {x : Str} {i : Int} (h0 : 0 ≤ i) (h : x.length ≤ 100) (hi : i ≤ 100) : Bin X (binaryOp .Mult) (.str x) (.int i) (.str (Txt.mul x i)) := by
  intro A env F s _ _ I ra rb
  obtain ⟨_, rfl⟩ := ra.strI
  obtain ⟨_, rfl⟩ := rb.intI
  refine SB.mul ⟨?_, fun h1 _ => ?_, fun h1 _ => ?_⟩ fun t' k => ⟨Step.toks, .str _ _⟩
  · have a1 : ¬ i < -(2 ^ 63 : Int) := by omega
    have a2 : ¬ i ≥ 2 ^ 63 := by omega
    rw [decide_eq_false a1, decide_eq_false a2]; rfl
  · have : (2 ^ 63 - 1) / i ≥ (2 ^ 63 - 1) / 100 := by
      refine Int.le_ediv_of_mul_le (by omega) ?_
      have : (2 ^ 63 - 1) / 100 * i ≤ (2 ^ 63 - 1) / 100 * 100 := Int.mul_le_mul_of_nonneg_left hi (by decide)
      omega
    omega
  · have : x.length * i.toNat ≤ 100 * 100 := Nat.mul_le_mul h (by omega)
    unfold Builtin.Str.tooLong
    exact decide_eq_false (by rw [sizeLine_eq]; omega)
theorem Bin.notInS {x y : Str} : Bin X (compareOp .NotIn) (.str y) (.str x) (.bool (!Txt.contains x y)) := by
  intro A env F s _ _ I ra rb
  obtain ⟨_, rfl⟩ := ra.strI
  obtain ⟨_, rfl⟩ := rb.strI
  exact SB.notContains ⟨Step.refl, .bool _⟩
/-- a text in a list of texts -/
theorem Bin.inStrs {x : Str} {xs : List Str} : Bin X (compareOp .In) (.str x) (.list (xs.map .str)) (.bool (xs.any fun y => y == x)) := by
  intro A env F s _ _ I ra rb
  obtain ⟨_, rfl⟩ := ra.strI
  obtain ⟨_, _, rfl, _, ⟨h1, _⟩, r1⟩ := rb.listI
  obtain ⟨l, rfl, rfl⟩ := r1.strs
  refine SeqAt.in_listAt (fun v => match v with | .str y _ => y == x | _ => false) h1 (fun y hy => ?_) ⟨Step.refl, ?_⟩
  · have hy' : y ∈ strValues l := by simpa using hy
    unfold strValues at hy'
    obtain ⟨p, _, rfl⟩ := List.mem_map.mp hy'
    exact SeqAt.EqAt.str_str _ _ _ _
  · have : ((strValues l).toArray.any fun v => match v with | .str y _ => y == x | _ => false) = (l.map (·.1)).any fun y => y == x := by
      rw [List.any_toArray]
      unfold strValues
      rw [List.any_map, List.any_map]
      rfl
    rw [this]; exact .bool _
/-- two lists joined -/
theorem Bin.addL {ds es : List D} (h : ds.length + es.length ≤ 100000) : Bin X (binaryOp .Add) (.list ds) (.list es) (.list (ds ++ es)) := by
  intro A env F s _ _ I ra rb
  obtain ⟨l, vs, rfl, _, ⟨h1, _⟩, r1⟩ := ra.listI
  obtain ⟨b, ws, rfl, _, ⟨h2, _⟩, r2⟩ := rb.listI
  obtain ⟨⟨cls, dd, data, sl⟩, ho, hc, n, hd⟩ := id h1
  obtain ⟨⟨cls2, dd2, data2, sl2⟩, ho2, hc2, n2, hd2⟩ := id h2
  simp only at hc hd hc2 hd2
  subst hc hd hc2 hd2
  have hz1 : vs.toArray.size = ds.length := (List.size_toArray ..).trans r1.len
  have hz2 : ws.toArray.size = es.length := (List.size_toArray ..).trans r2.len
  have hsz : vs.toArray.size + ws.toArray.size ≤ sizeLine := by rw [hz1, hz2, sizeLine_eq]; omega
  refine concat_meets ⟨_, ho, rfl⟩ ⟨_, ho2, rfl⟩ noFill_list_add seq_list_add PySem.F.slot_list_add PySem.F.entry_list_add (PySem.F.args_list_add_2 _ _) (list_addW _ _ _ _ n n2 dd dd2 sl sl2 hsz) ⟨ho, ho2, ?_⟩
  refine ⟨step_push, ?_⟩
  rw [show vs.toArray ++ ws.toArray = (vs ++ ws).toArray from List.append_toArray ..]
  exact I.new_list (r2.append r1)
/-- a list repeated -/
theorem Bin.mulL {ds : List D} {i : Int} {k : Nat} (hi : i.toNat = k) (h0 : 0 ≤ i) (h : ds.length * k ≤ 10000) (hk : k ≤ 10000) : Bin X (binaryOp .Mult) (.list ds) (.int i) (.list (List.replicate k ds).flatten) := by
  intro A env F s _ _ I ra rb
  obtain ⟨l, vs, rfl, _, ⟨h1, _⟩, r1⟩ := ra.listI
  obtain ⟨u, rfl⟩ := rb.intI
  obtain ⟨⟨cls, d, data, sl⟩, ho, hcl, k', hd⟩ := id h1
  simp only at hcl hd
  subst hcl hd
  have hz : vs.toArray.size = ds.length := (List.size_toArray ..).trans r1.len
  have h1' : ¬ (!Builtin.List.listFitsIndex i) = true := by
    have a1 : -(2 ^ 63 : Int) ≤ i := by omega
    have a2 : i < 2 ^ 63 := by omega
    unfold Builtin.List.listFitsIndex
    rw [decide_eq_true a1, decide_eq_true a2]; decide
  have h2' : ¬ vs.toArray.size * i.toNat > (2 ^ 63 - 1) / 8 := by rw [hz, hi]; omega
  have h3' : ¬ Builtin.List.listTooLong (vs.toArray.size * i.toNat) = true := by
    rw [hz, hi]
    unfold Builtin.List.listTooLong
    rw [decide_eq_false (by rw [sizeLine_eq]; omega)]; decide
  have hm1 := lm_list_mul_any l vs.toArray k' d sl i u h1'
  have hm2 := hm1 h2'
  have hm := hm2 h3'
  clear hm1 hm2
  refine wpAny_binaryOp_repeat_ref (T := "list") (U := "int") (by decide) ⟨_, ho, rfl⟩ (fun s' => typeIs_int s' _ u) noFill_list_mul PySem.F.fills_int_mul PySem.F.slot_int_rmul repeat_list PySem.F.slot_int_index.lookup
    (call_meets PySem.F.slot_int_rmul (typeIs_int s _ u) PySem.F.entry_int_rmul (PySem.F.args_int_rmul_2 _ _) (lm_int_rmul_list_any i u l vs.toArray k' d sl)
      ⟨ho, rfl, ⟨_, ho, rfl⟩, call_meets PySem.F.slot_list_mul ⟨_, ho, rfl⟩ PySem.F.entry_list_mul (PySem.F.args_list_mul_2 _ _)
        hm
        ⟨ho, ?_⟩⟩)
  refine ⟨step_push, ?_⟩
  have e : (List.foldl (fun x1 x2 => x1 ++ x2) #[] (List.replicate (if vs.toArray.isEmpty = true then 0 else i.toNat) vs.toArray)) = (List.replicate k vs).flatten.toArray := by
    rw [listMul_foldl_if, hi]
  rw [e]
  exact I.new_list (r1.replicate k)

theorem Sub1.str {x : Str} {i : Int} {c : Nat} (h0 : 0 ≤ i) (hb : i < 2 ^ 63) (hc : x.cps[i.toNat]? = some c) : Sub1 X (.str x) (.int i) (.str ⟨#[c]⟩) := by
  intro A env F s _ _ value slice I ra rb hs
  obtain ⟨t, rfl⟩ := ra.strI
  obtain ⟨u, rfl⟩ := rb.intI
  obtain ⟨ops, hs⟩ := hs (.str x t) (.int i u)
  refine tail_any (typeIs_str s x t) PySem.F.slot_str_getitem.lookup (PyProof.Rows.getItem_str (c := c) ?_ ?_ ⟨Step.toks, .str _ _⟩) hs
  · have a1 : ¬ i < -(2 ^ 63 : Int) := by omega
    have a2 : ¬ i ≥ 2 ^ 63 := by omega
    rw [decide_eq_false a1, decide_eq_false a2]; rfl
  · have hlt : i.toNat < x.cps.size := (Array.getElem?_eq_some_iff.mp hc).1
    have : seqIndex? i x.length = some i.toNat := by
      unfold seqIndex?
      simp only [if_neg (show ¬ i < 0 by omega)]
      rw [if_pos (by simp only [Bool.and_eq_true, decide_eq_true_eq]; exact ⟨h0, by unfold Str.length; omega⟩)]
    rw [this]; exact hc
theorem Ev.sliceS {value : Expr} {lo hi : Option Expr} {l h : Option Int} {p pos : Pos} {x : Str} (hd : Ev X value (.str x)) (hl : PartEv X lo l) (hh : PartEv X hi h) (hb : x.length ≤ 100000)
    (ht : ∀ o r, letTemporaryGo value o r = pure () := by intro _ _; rfl) : Ev X (.Subscript value (.Slice lo hi none p) pos) (.str (Txt.slice x l h)) := fun A env F s I => by
  refine wpAny_Subscript_str_slice (wpAny_mono (hd A env F s I) (fun v s₁ ⟨x₁, r₁⟩ => wpAny_mono (hl.at (I.step x₁)) (fun vl s₂ ⟨x₂, pl, e₂, f₂⟩ => wpAny_mono (hh.at ((I.step x₁).step x₂)) (fun vh s₃ ⟨x₃, ph, e₃, f₃⟩ => ?_) fun _ _ e => e) fun _ _ e => e) fun _ _ e => e) ht
  obtain ⟨t, rfl⟩ := r₁.strI
  refine ⟨x, t, pl, ph, rfl, e₂, e₃, ?_⟩
  have y := step_push (G := X.G) (F := F) (O := []) (s := s₃) (o := { cls := .type "slice", data := .fields #[vl, vh, .none] })
  have st := ((x₁.trans x₂).trans x₃).trans y
  unfold sliceMade
  subst f₂ f₃
  unfold Txt.slice
  show (if (1 == 1 && (slicePicked x pl ph none).length == x.length) = true then Made.val (.str x t) else Made.str ⟨((slicePicked x pl ph none).filterMap (x.cps[·]?)).toArray⟩).post _ _
  have e : slicePicked x pl ph none = Builtin.Str.strSliceIndices (pl.map (·.1)) (ph.map (·.1)) 1 x.length := rfl
  rw [e]
  by_cases c : ((1 : Int) == 1 && (Builtin.Str.strSliceIndices (pl.map (·.1)) (ph.map (·.1)) 1 x.length).length == x.length) = true
  · rw [if_pos c, if_pos c]
    exact ⟨st, .str _ _⟩
  · rw [if_neg c, if_neg c]
    refine ⟨?_, st.trans Step.toks, .str _ _⟩
    show (List.toArray _).size ≤ sizeLine
    rw [sizeLine_eq]
    refine Nat.le_trans (Nat.le_of_eq (List.size_toArray ..)) (Nat.le_trans (List.length_filterMap_le ..) (Nat.le_trans (sliceIndices_le _ _ _) (by omega)))
end

section
variable {G : Gd} {n : Nat} {σ : Sig}
theorem Calls.join {x : Str} {d : D} {xs : List Str} (l : LstAt σ d (xs.map .str)) (hok : JoinOk x xs = true) : Calls G n σ (.builtin "str.join") [.str x, d] (.str (Txt.join x xs)) := by
  intro A F s _ g rr
  obtain ⟨_, _, rfl, r1, r⟩ := rr.twoI
  obtain ⟨_, rfl⟩ := r1.strI
  obtain ⟨a, vs, rfl, hl, rs⟩ := l.list g.sig r
  obtain ⟨l, rfl, e⟩ := rs.strs
  exact SC.join hl e hok fun t' k => ⟨Step.toks, .str _ _⟩
theorem Calls.hex {i : Int} (h : (baseText "0x" 16 i).length ≤ 1000) : Calls G n σ (.builtin "hex") [.int i] (.str (baseText "0x" 16 i)) := by
  intro A F s _ g rr
  obtain ⟨_, rfl, r1⟩ := rr.oneI
  obtain ⟨_, rfl⟩ := r1.intI
  exact P.hex_of_int ⟨Step.toks, .str _ _⟩ (by rw [sizeLine_eq]; omega)
theorem Calls.sum {ns : List Int} : Calls G n σ (.builtin "sum") [.list (ns.map .int)] (.int ns.sum) := by
  intro A F s _ g rr
  obtain ⟨_, rfl, r⟩ := rr.oneI
  obtain ⟨a, vs, rfl, hl, rs⟩ := (LstAt.frozen _ : LstAt σ (.list (ns.map .int)) _).list g.sig r
  have hi := rs.ints
  obtain ⟨xs, e⟩ := hi.allInts.items
  have hns : ns = xs.toList.map (·.1) := by rw [← hi.numsOf, ← nums_intItems, ← e]
  rw [e] at hl
  refine sum_intListG g.room.handled hl fun h' tk t' hk => ⟨Step.of_keep hk, ?_⟩
  have : preSum (numAt xs) xs.size = ns.sum := by
    rw [preSum_eq, List.take_of_length_le (by simp), hns]
  rw [this]; exact .int _ _
theorem Calls.min {ns : List Int} {M : Int} (hM : M ∈ ns) (hle : ∀ a ∈ ns, M ≤ a) : Calls G n σ (.builtin "min") [.list (ns.map .int)] (.int M) := by
  intro A F s _ g rr
  obtain ⟨_, rfl, r⟩ := rr.oneI
  obtain ⟨a, vs, rfl, hl, rs⟩ := (LstAt.frozen _ : LstAt σ (.list (ns.map .int)) _).list g.sig r
  have hi := rs.ints
  obtain ⟨xs, e⟩ := hi.allInts.items
  have hns : ns = xs.toList.map (·.1) := by rw [← hi.numsOf, ← nums_intItems, ← e]
  have hsz : 0 < xs.size := by
    have : 0 < ns.length := List.length_pos_of_mem hM
    rw [hns, List.length_map, Array.length_toList] at this; exact this
  rw [e] at hl
  refine min_intList g.room.handled hl hsz fun v h' tk hv hk => ⟨Step.of_keep hk, ?_⟩
  obtain ⟨t, rfl⟩ := intItems_at hv
  obtain ⟨h1, h2⟩ := argBest_lt (numAt xs) (xs.size - 1)
  have hm : numAt xs (argBest (fun i j => decide (numAt xs i < numAt xs j)) (xs.size - 1)) = M := by
    refine Int.le_antisymm ?_ (hle _ ?_)
    · rw [hns] at hM
      obtain ⟨j, hj, rfl⟩ := mem_getD hM
      rw [List.length_map, Array.length_toList] at hj
      rw [← numAt_eq]; exact h2 j (by omega)
    · rw [hns, numAt_eq]; exact getD_mem (by rw [List.length_map, Array.length_toList]; omega)
  rw [hm]; exact .int _ _
end
end Mine
end
section
local macro_rules | `(tactic| omega) => `(tactic| lia)
open PySem PySem.W PySem.Calls PyProof.Rows PySem.Builtin PySem.Builtin.Str
namespace Mine

/-- what a call that makes a fresh list leaves -/
def NewL (W : List Addr) (G : Gd) (F : List Addr) (s : Shared) (ds : List D) (v : Value) (s' : Shared) : Prop :=
  ∃ a vs s₁, v = .ref a ∧ Step G F [] s s₁ ∧ s₁.heap.get? a = none ∧ Reps W s₁.heap vs ds ∧ Step G F [] s₁ s' ∧ PList s'.heap a vs.toArray
theorem NewL.of_push {W : List Addr} {G : Gd} {F : List Addr} {s : Shared} {vs : List Value} {ds : List D} {tk : Nat} (r : Reps W s.heap vs ds) :
    NewL W G F s ds (.ref s.heap.objs.size) { s with heap := s.heap.push { cls := .type "list", data := .seq vs.toArray }, toks := tk } :=
  ⟨_, vs, s, rfl, Step.refl, fresh_ge (Nat.le_refl _), r, Step.of_keep fun _ _ e => Heap.get?_push_of_some _ e, ⟨_, Heap.get?_push_size _ rfl, rfl, 0, rfl⟩, _, Heap.get?_push_size _ rfl, rfl⟩
theorem NewL.rep {G : Gd} {F : List Addr} {σ : Sig} {s s' : Shared} {ds : List D} {v : Value} (g : Good G s) (S : SigOk σ s.heap) (hF : ∀ L ∈ F, ∃ o es ep, s.heap.get? L = some o ∧ o.data = .dict es ep) (hF1 : ∀ L ∈ F, G.s1.heap.get? L = none) (h : NewL (wOf σ) G F s ds v s') : Step G F [] s s' ∧ Rep (wOf σ) s'.heap v (.list ds) := by
  obtain ⟨a, vs, s₁, rfl, x, hn, r, y, hl⟩ := h
  have g₁ := g.step hF1 (fun _ q => absurd q List.not_mem_nil) x
  have S₁ := S.step0 g hF x
  refine ⟨x.trans y, .list (fun q => ?_) hl ((y.rep0 g₁ S₁).2 r)⟩
  obtain ⟨p, hp, rfl⟩ := List.mem_map.mp q
  obtain ⟨o, e, _⟩ := (S₁.at_ p hp).live
  rw [hn] at e; cases e

section
variable {prog : Program} {w : World} {A : Around} {E : Value → Shared → Prop} {s : Shared} {x y : Str} {t u : Tok} {Q : Value → Shared → Prop}
theorem call_split_space (h : ∀ l tk, l.map (·.1) = Txt.words x → Q (.ref s.heap.objs.size) { s with heap := s.heap.push { cls := .type "list", data := .seq (strValues l).toArray }, toks := tk })
    (hsz : x.length ≤ sizeLine) (hsz2 : (spaceWords x (x.length + 1)).length ≤ sizeLine) : wpAny (model prog w) A (call (.builtin "str.split") [.str x t]) Q E s := by
  refine call_meets PySem.F.slot_str_split (typeIs_str _ _ _) PySem.F.entry_str_split (PySem.F.args_str_split_1 _) (meets_str_split_space x t hsz hsz2) ?_
  cases hw : spaceWords x (x.length + 1) == [(0, x.length)]
  · simp only [Bool.false_eq_true, if_false]
    rw [strsFrom_eq]
    exact h (numbered s.toks (PySem.wordsOf x)) _ ((numbered_texts _ _).trans (if_neg (ne_true_of_eq_false hw)).symm)
  · simp only [if_true]
    exact h [(x, t)] s.toks (if_pos hw).symm
theorem call_split_sep (hy : (y.length == 0) = false) (h : ∀ l tk, l.map (·.1) = Txt.split x y → Q (.ref s.heap.objs.size) { s with heap := s.heap.push { cls := .type "list", data := .seq (strValues l).toArray }, toks := tk })
    (hsz : x.length ≤ sizeLine) (hsz2 : (partsBetween x (occurrences x y 0 x.length (x.length + 1)) y.length).length ≤ sizeLine) : wpAny (model prog w) A (call (.builtin "str.split") [.str x t, .str y u]) Q E s := by
  cases h1 : (decide (x.length < y.length) || decide (strKind x < strKind y))
  · cases hf : (occurrences x y 0 x.length (x.length + 1)).isEmpty
    · refine call_meets PySem.F.slot_str_split (typeIs_str _ _ _) PySem.F.entry_str_split (PySem.F.args_str_split_2 _ _) (meets_str_split_sep x y t u h1 hy hf hsz hsz2) ?_
      show wants Q E _ { s with toks := _, heap := s.heap.push { cls := .type "list", data := .seq (strsFrom s.toks (partsBetween x (occurrences x y 0 x.length (x.length + 1)) y.length)).toArray } }
      rw [strsFrom_eq]
      exact h (numbered s.toks _) _ ((numbered_texts _ _).trans ((if_neg (ne_true_of_eq_false h1)).trans (if_neg (ne_true_of_eq_false hf))).symm)
    · exact call_meets PySem.F.slot_str_split (typeIs_str _ _ _) PySem.F.entry_str_split (PySem.F.args_str_split_2 _ _) (meets_str_split_not_found x y t u h1 hy hf)
        (h [(x, t)] s.toks ((if_neg (ne_true_of_eq_false h1)).trans (if_pos hf)).symm)
  · exact call_meets PySem.F.slot_str_split (typeIs_str _ _ _) PySem.F.entry_str_split (PySem.F.args_str_split_2 _ _) (meets_str_split_cannot_occur x y t u h1)
      (h [(x, t)] s.toks (if_pos h1).symm)
end

/-- find with both ends -/
def find4 (x y : Str) (i j : Int) : Int := match occurrences x y (fromIndex x.length i) (min (fromIndex x.length j) x.length) 1 with | k :: _ => (k : Int) | [] => -1
theorem gives_find4 (x y : Str) (i j : Int) (t u v w : Tok) : Gives («str.find» ⟨[.str x t, .str y u, .int i v, .int j w], []⟩) (.int (find4 x y i j)) := by
  unfold find4
  show Gives (match occurrences x y (fromIndex x.length i) (min (fromIndex x.length j) x.length) 1 with | k :: _ => retInt k | [] => (do rule "str.find.not-found"; retInt (-1))) _
  cases occurrences x y (fromIndex x.length i) (min (fromIndex x.length j) x.length) 1 with
  | nil => exact .rule (.of_eq rfl)
  | cons k _ => exact .of_eq rfl

/-- a call that makes a fresh list -/
def CallsNew (G : Gd) (n : Nat) (σ : Sig) (f : Value) (ds es : List D) : Prop :=
  ∀ A F s vs, GIn G n σ A F s → Reps (wOf σ) s.heap vs ds → wpAny (model G.prog G.w) A (call f vs) (NewL (wOf σ) G F s es) (fun _ _ => False) s
section
variable {G : Gd} {n : Nat} {σ : Sig}
theorem CallsNew.calls {f : Value} {ds es : List D} (h : CallsNew G n σ f ds es) : Calls G n σ f ds (.list es) := fun A F s vs g r =>
  wpAny_mono (h A F s vs g r) (fun v s' q => q.rep g.good g.sig g.room.dicts g.room.freshF) fun _ _ e => e
theorem CallsNew.split0 {x : Str} (h1 : x.length ≤ 100000) (h2 : (spaceWords x (x.length + 1)).length ≤ 100000) : CallsNew G n σ (.builtin "str.split") [.str x] ((Txt.words x).map .str) := by
  intro A F s _ g rr
  obtain ⟨_, rfl, r1⟩ := rr.oneI
  obtain ⟨_, rfl⟩ := r1.strI
  exact call_split_space (fun l tk e => by rw [← e]; exact NewL.of_push (Reps.ofStrs l)) (by rw [sizeLine_eq]; omega) (by rw [sizeLine_eq]; omega)
theorem CallsNew.split1 {x y : Str} (hy : (y.length == 0) = false) (h1 : x.length ≤ 100000) (h2 : (partsBetween x (occurrences x y 0 x.length (x.length + 1)) y.length).length ≤ 100000) : CallsNew G n σ (.builtin "str.split") [.str x, .str y] ((Txt.split x y).map .str) := by
  intro A F s _ g rr
  obtain ⟨_, _, rfl⟩ := rr.twoStr
  exact call_split_sep hy (fun l tk e => by rw [← e]; exact NewL.of_push (Reps.ofStrs l)) (by rw [sizeLine_eq]; omega) (by rw [sizeLine_eq]; omega)
theorem Calls.find4 {x y : Str} {i j : Int} : Calls G n σ (.builtin "str.find") [.str x, .str y, .int i, .int j] (.int (find4 x y i j)) := by
  intro A F s _ g rr
  obtain ⟨_, _, rfl, r1, rr1⟩ := rr.consI
  obtain ⟨_, _, _, rfl, r2, r3, r4⟩ := rr1.threeI
  obtain ⟨_, rfl⟩ := r1.strI
  obtain ⟨_, rfl⟩ := r2.strI
  obtain ⟨_, rfl⟩ := r3.intI
  obtain ⟨_, rfl⟩ := r4.intI
  exact call_gives PySem.F.slot_str_find (typeIs_str _ _ _) PySem.F.entry_str_find (PySem.F.args_str_find_4 _ _ _ _) (gives_find4 _ _ _ _ _ _ _ _) ⟨Step.toks, .int _ _⟩
theorem Calls.countTrue {bs : List Bool} : Calls G n σ (.builtin "list.count") [.list (bs.map .bool), .bool true] (.int (bs.count true : Nat)) := by
  intro A F s _ g rr
  obtain ⟨_, _, rfl, r, r2⟩ := rr.twoI
  obtain rfl := r2.boolI
  obtain ⟨a, vs, rfl, hl, rs⟩ := (LstAt.frozen _ : LstAt σ (.list (bs.map .bool)) _).list g.sig r
  obtain ⟨⟨cls, dd, data, sl⟩, ho, hc, nn, hd⟩ := id hl
  simp only at hc hd
  subst hc hd
  have hv : ∀ {vs : List Value} {bs : List Bool}, Reps (wOf σ) s.heap vs (bs.map .bool) → vs = bs.map Value.bool := by
    intro vs bs
    induction bs generalizing vs with
    | nil => intro r; exact r.nilI
    | cons b bs ih =>
      intro r
      obtain ⟨_, _, rfl, r1, r2⟩ := r.consI
      rw [r1.boolI, ih r2]; rfl
  have hvs := hv rs
  refine call_meets PySem.F.slot_list_count ⟨_, ho, rfl⟩ PySem.F.entry_list_count (PySem.F.args_list_count_2 _ _) (SeqAt.list_countAt a vs.toArray nn dd sl (.bool true) (fun v => match v with | .bool b => b == true | _ => false)) ⟨ho, fun y hy => ?_, ?_⟩
  · have : y ∈ bs.map Value.bool := by rw [← hvs]; simpa using hy
    obtain ⟨b, _, rfl⟩ := List.mem_map.mp this
    exact SeqAt.EqAt.bool_bool _ _
  · refine ⟨Step.toks, ?_⟩
    have : vs.toArray.toList.countP (fun v => match v with | .bool b => b == true | _ => false) = bs.count true := by
      rw [show vs.toArray.toList = vs from rfl, hvs, List.countP_map]; rfl
    rw [this]; exact .int _ _
end

section
variable {X : Cx}
theorem methL {name : Str} {id : String} (slot : Slot "list" name id) (hty : typeOf (.builtin id) = pure (.type "method_descriptor")) {d : D} {ds : List D} (l : LstAt X.σ d ds) : Meth X d name id := by
  intro A env F s v pl Q I r h
  obtain ⟨a, vs, rfl, hl, rs⟩ := l.plist I.sig r
  exact getMethod_list_of slot hty hl.1 hl.2 (h s.toks)
theorem Meth.append {d : D} {ds : List D} (l : LstAt X.σ d ds) : Meth X d "append" "list.append" := methL PySem.F.slot_list_append PySem.F.type_list_append l
theorem Meth.insert {d : D} {ds : List D} (l : LstAt X.σ d ds) : Meth X d "insert" "list.insert" := methL PySem.F.slot_list_insert PySem.F.type_list_insert l
theorem Meth.count {d : D} {ds : List D} (l : LstAt X.σ d ds) : Meth X d "count" "list.count" := methL PySem.F.slot_list_count PySem.F.type_list_count l
end
end Mine
end
section
open PySem PySem.W PySem.Calls PyProof.Rows PySem.Builtin PySem.Builtin.Str
namespace Mine

/-- an owned object stands otherwise -/
def upd (σ : Sig) (a : Addr) (w : Own) : Sig := σ.map fun p => if p.1 = a then (a, w) else p
theorem wOf_upd {σ : Sig} {a : Addr} {w : Own} : wOf (upd σ a w) = wOf σ := by
  unfold wOf upd
  rw [List.map_map]
  refine List.map_congr_left fun p _ => ?_
  show (if p.1 = a then (a, w) else p).1 = p.1
  split
  · rename_i h; exact h.symm
  · rfl
theorem mem_upd {σ : Sig} {a : Addr} {w : Own} (h : a ∈ wOf σ) : (a, w) ∈ upd σ a w := by
  obtain ⟨p, hp, rfl⟩ := List.mem_map.mp h
  exact List.mem_map.mpr ⟨p, hp, if_pos rfl⟩
theorem of_mem_upd {σ : Sig} {a : Addr} {w : Own} {p : Addr × Own} (h : p ∈ upd σ a w) : (p ∈ σ ∧ p.1 ≠ a) ∨ p = (a, w) := by
  obtain ⟨q, hq, e⟩ := List.mem_map.mp h
  split at e
  · exact .inr e.symm
  · subst e; exact .inl ⟨hq, by assumption⟩

section
variable {X : Cx} {A : Around} {env : Env} {F V : List Addr} {s s' : Shared}

/-- the owned objects may have turned: what the frame knows stands -/
theorem In.after {σ' : Sig} (I : In X A env F s) (x : Step X.G F V s s') (hV : ∀ a ∈ V, a ∈ wOf X.σ) (hsub : ∀ a ∈ wOf σ', a ∈ wOf X.σ) (hS : SigOk σ' s'.heap) : In (X.setσ σ') A env F s' := by
  have live := fun a (h : a ∈ V) => I.W_live (hV a h)
  have hrep := x.rep I.good (W := wOf X.σ) (fun b hb => .inl (hV b hb)) I.sig.noTuple
  have hF : ∀ b ∈ V, b ∉ F := fun b hb q => by
    obtain ⟨_, _, o', es, ep, e', d'⟩ := I.room.fresh b q
    obtain ⟨o, e, _, nd, _⟩ := live b hb
    rw [e] at e'; cases e'; exact nd _ _ d'
  have hloc : ∀ m, s.heap.Ns env.locals m → s'.heap.Ns env.locals m := fun m hm => x.ns I.good (fun q => by
    obtain ⟨o', es, ep, e', d', _⟩ := hm
    obtain ⟨o, e, _, nd, _⟩ := live _ q
    rw [e] at e'; cases e'; exact nd _ _ d') hm
  have hcel : ∀ c v, s.heap.IsCell c v → s'.heap.IsCell c v := fun c v hc => x.cell I.good (fun q => by
    obtain ⟨o', e', d'⟩ := hc
    obtain ⟨o, e, _, _, nc, _⟩ := live _ q
    rw [e] at e'; cases e'; exact nc _ d') hc
  refine ⟨I.good.step I.room.freshF (fun b hb => I.own b (hV b hb)) x, I.room.step x (fun b hb => .inl (hF b hb)),
    ⟨I.env.scope, I.env.kind, I.env.globals, I.env.builtins, I.env.code, fun p hp => ?_, I.env.nice, (let ⟨m, hm⟩ := I.env.loc; ⟨m, hloc m hm⟩), I.env.locNew, I.env.has, fun y c e => (let ⟨⟨v, hv⟩, q⟩ := I.env.cell y c e; ⟨⟨v, hcel c v hv⟩, q⟩), I.env.apart⟩,
    hS, fun b hb => I.own b (hsub b hb)⟩
  rcases I.env.names p hp with ⟨k, m', w, e1, e2, e3⟩ | ⟨k, c, w, e1, e2, e3⟩
  · exact .inl ⟨k, m', w, hloc _ e1, e2, (hrep.1 e3).less hsub⟩
  · exact .inr ⟨k, c, w, e1, hcel _ _ e2, (hrep.1 e3).less hsub⟩

/-- forget owned objects, or tell them in another order -/
theorem SigOk.sub {σ σ' : Sig} {h : Heap} (S : SigOk σ h) (hs : ∀ p ∈ σ', p ∈ σ) (hn : (wOf σ').Nodup) : SigOk σ' h := by
  have hw : ∀ a ∈ wOf σ', a ∈ wOf σ := fun a ha => by
    obtain ⟨p, hp, rfl⟩ := List.mem_map.mp ha
    exact List.mem_map.mpr ⟨p, hs p hp, rfl⟩
  refine ⟨fun p hp => ?_, hn⟩
  have o := S.at_ p (hs p hp)
  obtain ⟨a, w⟩ := p
  show OwnAt _ _ a w
  replace o : OwnAt (wOf σ) h a w := o
  cases o with
  | list h1 r => exact .list h1 (r.less hw)
  | iter h1 h2 h3 r => exact .iter h1 (fun q => h2 (hw _ q)) h3 (r.less hw)
  | fn e c d k h2 r => exact .fn e c d k (fun q => h2 (hw _ q)) r
theorem In.weakσ {σ' : Sig} (I : In X A env F s) (hs : ∀ p ∈ σ', p ∈ X.σ) (hn : (wOf σ').Nodup) : In (X.setσ σ') A env F s :=
  I.after (V := []) Step.refl (fun _ q => absurd q List.not_mem_nil) (fun a ha => by
    obtain ⟨p, hp, rfl⟩ := List.mem_map.mp ha
    exact List.mem_map.mpr ⟨p, hs p hp, rfl⟩) (I.sig.sub hs hn)

/-- a fresh list is owned -/
theorem In.ownAny {w : Own} {a : Addr} {s₁ : Shared} (I : In X A env F s) (x : Step X.G F [] s s₁) (hn : s₁.heap.get? a = none) (y : Step X.G F [] s₁ s') (ho : ({vs : List Value} → {ds : List D} → Reps (wOf X.σ) s₁.heap vs ds → Reps (a :: wOf X.σ) s'.heap vs ds) → OwnAt (a :: wOf X.σ) s'.heap a w) : s.heap.get? a = none ∧ Step X.G F [] s s' ∧ In (X.setσ ((a, w) :: X.σ)) A env F s' := by
  have I₁ := I.step x
  have I' := I₁.step y
  have hns := Step.noneAt I.good x hn (fun q => absurd q List.not_mem_nil)
  have hk : ∀ {v d}, Rep (wOf X.σ) s₁.heap v d → Rep (a :: wOf X.σ) s'.heap v d := fun q => (q.grow hn).mono (fun b xs hb hl => ⟨hb, y.plist I₁.good (fun q => absurd q List.not_mem_nil) hl⟩) fun b xs ht => y.tuple I₁.good (fun q => absurd q List.not_mem_nil) ht
  have hks : ∀ {v d}, Reps (wOf X.σ) s₁.heap v d → Reps (a :: wOf X.σ) s'.heap v d := fun q => (q.grow hn).mono (fun b xs hb hl => ⟨hb, y.plist I₁.good (fun q => absurd q List.not_mem_nil) hl⟩) fun b xs ht => y.tuple I₁.good (fun q => absurd q List.not_mem_nil) ht
  have hnW : a ∉ wOf X.σ := I₁.notW hn
  refine ⟨hns, x.trans y, I'.good, I'.room, ⟨I'.env.scope, I'.env.kind, I'.env.globals, I'.env.builtins, I'.env.code, fun p hp => ?_, I'.env.nice, I'.env.loc, I'.env.locNew, I'.env.has, I'.env.cell, I'.env.apart⟩, ⟨fun p hp => ?_, ?_⟩, fun b hb => ?_⟩
  · rcases I₁.env.names p hp with ⟨k, m', w, e1, e2, e3⟩ | ⟨k, c, w, e1, e2, e3⟩
    · exact .inl ⟨k, m', w, y.ns I₁.good (fun q => absurd q List.not_mem_nil) e1, e2, hk e3⟩
    · exact .inr ⟨k, c, w, e1, y.cell I₁.good (fun q => absurd q List.not_mem_nil) e2, hk e3⟩
  · rcases List.mem_cons.mp hp with rfl | hp
    · exact ho fun r => hks r
    · have o1 := (I₁.sig.at_ p hp).grow (a := a) hn
      have hpa : p.1 ≠ a := fun q => hnW (by rw [← q]; exact List.mem_map.mpr ⟨p, hp, rfl⟩)
      have hks' : ∀ {v d}, Reps (a :: wOf X.σ) s₁.heap v d → Reps (a :: wOf X.σ) s'.heap v d := fun q => q.mono (fun b xs hb hl => ⟨hb, y.plist I₁.good (fun q => absurd q List.not_mem_nil) hl⟩) fun b xs ht => y.tuple I₁.good (fun q => absurd q List.not_mem_nil) ht
      exact y.ownAt I₁.good I₁.room.dicts hks' (fun q => absurd q List.not_mem_nil) (fun _ _ q => absurd q List.not_mem_nil) o1
  · exact List.nodup_cons.mpr ⟨hnW, I.sig.nodup⟩
  · rcases List.mem_cons.mp hb with rfl | hb
    · exact I.good.fresh hns
    · exact I.own b hb

theorem In.ownNew {ds : List D} {v : Value} (I : In X A env F s) (h : NewL (wOf X.σ) X.G F s ds v s') : ∃ a, v = .ref a ∧ s.heap.get? a = none ∧ Step X.G F [] s s' ∧ In (X.setσ ((a, .list ds) :: X.σ)) A env F s' := by
  obtain ⟨a, vs, s₁, rfl, x, hn, r, y, hl⟩ := h
  exact ⟨a, rfl, I.ownAny x hn y fun k => .list hl (k r)⟩

/-- an owned list is frozen: a name that bore it bears its items -/
theorem In.freeze {a : Addr} {ds : List D} {σ' : Sig} {ρ' : Env0} (I : In X A env F s) (ha : (a, Own.list ds) ∈ X.σ) (hs : ∀ p ∈ σ', p ∈ X.σ ∧ p.1 ≠ a) (hn : (wOf σ').Nodup) (hρ : ∀ p ∈ ρ', p ∈ X.ρ ∨ ∃ y, p = (y, .list ds) ∧ (y, D.fn (.ref a)) ∈ X.ρ) :
    In ((X.setσ σ').setρ ρ') A env F s := by
  have I' := I.weakσ (fun p hp => (hs p hp).1) hn
  have hna : a ∉ wOf σ' := fun q => by
    obtain ⟨p, hp, e⟩ := List.mem_map.mp q
    exact (hs p hp).2 e
  have hw : ∀ b ∈ wOf σ', b ∈ wOf X.σ := fun b hb => by
    obtain ⟨p, hp, rfl⟩ := List.mem_map.mp hb
    exact List.mem_map.mpr ⟨p, (hs p hp).1, rfl⟩
  have hd : Rep (wOf σ') s.heap (.ref a) (.list ds) := by
    cases I.sig.at_ _ ha with
    | list hl r => exact .list hna hl (r.less hw)
  refine ⟨I'.good, I'.room, ⟨I'.env.scope, I'.env.kind, I'.env.globals, I'.env.builtins, I'.env.code, fun p hp => ?_, fun p hp => ?_, I'.env.loc, I'.env.locNew, I'.env.has, I'.env.cell, I'.env.apart⟩, I'.sig, I'.own⟩
  · rcases hρ p hp with q | ⟨y, rfl, q⟩
    · exact I'.env.names p q
    · rcases I'.env.names _ q with ⟨k, m', w, e1, e2, e3⟩ | ⟨k, c, w, e1, e2, e3⟩
      · cases e3; exact .inl ⟨k, m', _, e1, e2, hd⟩
      · cases e3; exact .inr ⟨k, c, _, e1, e2, hd⟩
  · rcases hρ p hp with q | ⟨y, rfl, q⟩
    · exact I.env.nice p q
    · exact I.env.nice (y, D.fn (.ref a)) q
theorem Rep.freeze {a : Addr} {ds : List D} {σ' : Sig} (I : In X A env F s) (ha : (a, Own.list ds) ∈ X.σ) (hs : ∀ p ∈ σ', p ∈ X.σ ∧ p.1 ≠ a) : Rep (wOf σ') s.heap (.ref a) (.list ds) := by
  cases I.sig.at_ _ ha with
  | list hl r => exact .list (fun q => by
      obtain ⟨p, hp, e⟩ := List.mem_map.mp q
      exact (hs p hp).2 e) hl (r.less fun b hb => by
      obtain ⟨p, hp, rfl⟩ := List.mem_map.mp hb
      exact List.mem_map.mpr ⟨p, (hs p hp).1, rfl⟩)

/-- an owned list takes other items -/
theorem In.updList {a : Addr} {h' : Heap} {tk : Nat} {vs' : List Value} {ds ds' : List D} (I : In X A env F s) (ha : (a, Own.list ds) ∈ X.σ) (hs : Heap.ExtBut a s.heap h') (hn : PList h' a vs'.toArray)
    (hr : (∀ {vs ds}, Reps (wOf X.σ) s.heap vs ds → Reps (wOf X.σ) h' vs ds) → Reps (wOf X.σ) h' vs' ds') :
    Step X.G F [a] s { s with heap := h', toks := tk } ∧ In (X.setσ (upd X.σ a (.list ds'))) A env F { s with heap := h', toks := tk } := by
  have hl : ∃ xs, s.heap.IsList a xs := by
    cases I.sig.at_ _ ha with
    | list hl r => exact ⟨_, hl.1⟩
  exact I.setOwn (List.mem_map.mpr ⟨_, ha, rfl⟩) hl hs hn hr wOf_upd fun p hp => of_mem_upd hp
theorem In.appendAt {a : Addr} {ds : List D} {d : D} {v : Value} (I : In X A env F s) (ha : (a, Own.list ds) ∈ X.σ) (r : Rep (wOf X.σ) s.heap v d) (hz : ds.length ≤ 100000) :
    wpAny (model X.G.prog X.G.w) A (call (.builtin "list.append") [.ref a, v]) (fun w s' => w = .none ∧ Step X.G F [a] s s' ∧ In (X.setσ (upd X.σ a (.list (ds ++ [d])))) A env F s') (fun _ _ => False) s := by
  cases I.sig.at_ _ ha with
  | @list vs _ hl rs =>
    refine plist_append hl (fun h' hn hs => ⟨rfl, ?_⟩) (by rw [List.size_toArray, rs.len, sizeLine_eq]; omega)
    exact I.updList (tk := s.toks) ha hs.extBut (vs' := vs ++ [v]) (by simpa using hn) (fun k => k (Reps.append (Reps.one r) rs))
theorem plist_insert {prog : Program} {w : World} {E : Value → Shared → Prop} {l : Addr} {vs : List Value} {k : Int} {t : Tok} {x : Value} {Q : Value → Shared → Prop} (hl : PList s.heap l vs.toArray) (h0 : 0 ≤ k) (h1 : k ≤ vs.length)
    (hQ : ∀ h', PList h' l (vs.take k.toNat ++ x :: vs.drop k.toNat).toArray → Heap.SameBut l s.heap h' → Q .none { s with heap := h' }) (hsz : vs.length ≤ 100000) : wpAny (model prog w) A (call (.builtin "list.insert") [.ref l, .int k t, x]) Q E s := by
  obtain ⟨o, ho, hc, n, hd⟩ := id hl.1
  have hfit : Builtin.List.listFitsIndex k = true := by
    unfold Builtin.List.listFitsIndex
    rw [decide_eq_true (by omega : -(2 ^ 63 : Int) ≤ k), decide_eq_true (by omega : k < 2 ^ 63)]; rfl
  have hz : vs.toArray.size = vs.length := List.size_toArray ..
  refine wpAny_call_entry PySem.F.slot_list_insert hl.1.typeIs PySem.F.entry_list_insert ?_ (PySem.F.args_list_insert_3 _ _ _)
  have hz' : ((fun xs : Array Value => have k := if k < 0 then (k + ((xs.size : Nat) : Int)).toNat else min k.toNat xs.size; (xs.extract 0 k).push x ++ xs.extract k) vs.toArray).size ≤ sizeLine + 1 :=
    Nat.le_trans (AutoListH.size_inserted vs.toArray _ _) (Nat.add_le_add_right (by rw [hz, sizeLine_eq]; omega) 1)
  have fin : ∀ f : Array Value → Array Value, f vs.toArray = (vs.take k.toNat ++ x :: vs.drop k.toNat).toArray → Q .none { s with heap := s.heap.update l (Obj.mapSeq f) } := fun f e => by
    refine hQ _ ?_ (Heap.SameBut.update ..)
    have := plist_update hl f
    rwa [e] at this
  have hv : (vs.toArray.extract 0 (min k.toNat vs.toArray.size)).push x ++ vs.toArray.extract (min k.toNat vs.toArray.size) = (vs.take k.toNat ++ x :: vs.drop k.toNat).toArray := by
    have : min k.toNat vs.toArray.size = k.toNat := by rw [hz]; omega
    rw [this]
    apply Array.toList_inj.mp
    simp [List.extract_eq_take_drop, List.take_of_length_le]
  obtain ⟨hp, g, d, tk, os⟩ := s
  have hz0 : vs.toArray.size ≤ sizeLine := by rw [hz, sizeLine_eq]; omega
  have hnf : ¬ (!Builtin.List.listFitsIndex k) = true := by rw [hfit]; decide
  unfold Builtin.«list.insert»
  wp_walk using (wpAny_updateSeq ho hd (hz := hz0) (_hz' := hz'))
  refine ⟨_, rfl, fin _ ?_⟩
  simp only [if_neg (show ¬ k < 0 by omega)]
  exact hv
end
end Mine
end
section
local macro_rules | `(tactic| omega) => `(tactic| lia)
open PySem PySem.W PySem.Calls PyProof.Rows PySem.Builtin
namespace Mine

section
variable {prog : Program} {w : World} {A : Around} {E : Value → Shared → Prop} {s : Shared}
theorem meets_delitem (l : Addr) (items : Array Value) (n : Nat) (dd : Option Addr) (sl : Array (Option Value)) (i : Int) (u : Tok) (k : Nat) (hfit : Builtin.List.listFitsIndex i = true) (hk : seqIndex? i items.size = some k) (hs1 : items.size ≤ sizeLine) :
    Meets (Builtin.«list.__delitem__» ⟨[.ref l, .int i u], []⟩)
      (fun _ R s => s.heap.get? l = some { cls := .type "list", dict := dd, data := .seq items n, slots := sl } ∧ R (.ok (.ret .none)) { s with heap := s.heap.update l (Obj.mapSeq fun xs => xs.eraseIdxIfInBounds k) }) :=
  .of_wp fun prog w A R s h => by
    obtain ⟨hp, g, d, tk, os⟩ := s; obtain ⟨hl, h⟩ := h
    have hf : ¬ (!Builtin.List.listFitsIndex i) = true := by simp [hfit]
    have f1 := AutoSeq1.idx_int
    wp_walk using AutoSeq1.wpAny_loadPart' hl
    simp only [hk]
    have hz' : (items.eraseIdxIfInBounds k).size ≤ sizeLine + 1 := Nat.le_trans (MeetsSeq.size_erased items _) (Nat.le_succ_of_le hs1)
    wp_walk using (wpAny_updateSeq hl rfl (hz := hs1) (_hz' := hz')), AutoSeq1.wpAny_loadPart' hl
    exact ⟨_, rfl, h⟩
theorem plist_del {l : Addr} {vs : List Value} {i : Int} {u : Tok} {k : Nat} {Q : Unit → Shared → Prop} (hl : PList s.heap l vs.toArray) (hb : -100000 ≤ i ∧ i ≤ 100000) (hk : seqIndex? i vs.length = some k)
    (hQ : ∀ h', PList h' l (vs.eraseIdx k).toArray → Heap.SameBut l s.heap h' → Q () { s with heap := h' }) (hsz : vs.length ≤ 100000) : wpAny (model prog w) A (delItem (.ref l) (.int i u)) Q E s := by
  obtain ⟨⟨cls, dd, data, sl⟩, ho, hc, n, hd⟩ := id hl.1
  simp only at hc hd
  subst hc hd
  have hfit : Builtin.List.listFitsIndex i = true := by
    unfold Builtin.List.listFitsIndex
    rw [decide_eq_true (by omega : -(2 ^ 63 : Int) ≤ i), decide_eq_true (by omega : i < 2 ^ 63)]; rfl
  have hz : vs.toArray.size = vs.length := List.size_toArray ..
  refine delItem_meets ⟨_, ho, rfl⟩ (by decide) PySem.F.slot_list_delitem PySem.F.entry_list_delitem (PySem.F.args_list_delitem_2 _ _) (meets_delitem l vs.toArray n dd sl i u k hfit (by rw [hz]; exact hk) (by rw [hz, sizeLine_eq]; omega)) ⟨ho, ?_⟩
  refine hQ _ ?_ (Heap.SameBut.update ..)
  have := plist_update hl (fun xs => xs.eraseIdxIfInBounds k)
  rwa [show vs.toArray.eraseIdxIfInBounds k = (vs.eraseIdx k).toArray by simp] at this
theorem call_iter_list {l : Addr} {items : Array Value} {Q : Value → Shared → Prop} (hl : s.heap.IsList l items)
    (hQ : Q (.ref s.heap.objs.size) { s with heap := s.heap.push { cls := .type "list_iterator", data := .fields #[.ref l, .int 0 0] } }) : wpAny (model prog w) A (call (.builtin "iter") [.ref l]) Q E s := by
  refine call_function_entry (by decide +kernel) (by decide +kernel) kdk_entry_iter (kdk_args_iter _) ?_
  unfold Builtin.«iter»
  refine wpAny_bind (m := someArgs "iter" 1 2 _) (wpAny_of_eq (a := [Value.ref l]) (by first | rfl | kernel_rfl!) ?_)
  show wpAny _ _ (pyIter (.ref l) >>= _) _ _ _
  exact wpAny_bind (wpAny_pyIter_list hl (wpAny_pure ⟨_, rfl, hQ⟩))
theorem special_item {it l : Addr} {i : Nat} {items} {x : Value} {Q : Option Value → Shared → Prop} (hit : s.heap.IsListIter it l i) (hl : s.heap.IsList l items) (hx : items[i]? = some x)
    (hQ : ∀ h', h'.IsListIter it l (i + 1) → Heap.SameBut it s.heap h' → Q (some x) { s with heap := h' }) : wpAny (model prog w) A (callSpecial? (.ref it) (Str.ofString "__next__")) Q E s := by
  obtain ⟨o, ho, hc, hd⟩ := id hit
  obtain ⟨ol, hol, _, nl, hdl⟩ := hl
  refine wpAny_callSpecial?_slot (name := Str.ofString "__next__") hit.typeIs slot_listiter_next (wpAny_call_entry slot_listiter_next hit.typeIs entry_listiter_next ?_ (args_listiter_next _))
  show wpAny _ _ (field (.ref it) 0 >>= _) _ _ s
  refine wpAny_bind (wpAny_field ho hd (x := .ref l) rfl ?_)
  show wpAny _ _ (if (Value.ref l == Value.none) = true then _ else _) _ _ s
  rw [if_neg (show ¬ ((Value.ref l == Value.none) = true) from Bool.false_ne_true)]
  show wpAny _ _ (field (.ref it) 1 >>= _) _ _ s
  refine wpAny_bind (wpAny_field ho hd (x := .int i 0) rfl ?_)
  show wpAny _ _ (seqItems? (.ref l) >>= _) _ _ s
  refine wpAny_bind (wpAny_seqItems hol hdl ?_)
  simp only [Int.toNat_natCast, hx]
  refine wpAny_bind (wpAny_setField ho hd (by simp) (wpAny_pure ⟨x, rfl, hQ _ ?_ (Heap.SameBut.update ..)⟩))
  exact ⟨_, Heap.get?_update_self _ ho (Obj.isFreed_of_fields (Obj.data_mapFields hd _)), (Obj.cls_mapFields ..).trans hc, by
    rw [Obj.data_mapFields hd]; simp [rawInt]⟩
theorem call_next_item {it l : Addr} {i : Nat} {items} {x : Value} {Q : Value → Shared → Prop} (hit : s.heap.IsListIter it l i) (hl : s.heap.IsList l items) (hx : items[i]? = some x)
    (hQ : ∀ h', h'.IsListIter it l (i + 1) → Heap.SameBut it s.heap h' → Q x { s with heap := h' }) : wpAny (model prog w) A (call (.builtin "next") [.ref it]) Q E s := by
  refine call_function_entry (by decide +kernel) (by decide +kernel) kdk_entry_next (kdk_args_next _) ?_
  unfold Builtin.«next»
  refine wpAny_bind (m := someArgs "next" 1 2 _) (wpAny_of_eq (a := [Value.ref it]) (by first | rfl | kernel_rfl!) ?_)
  dsimp only
  refine wpAny_bind (wpAny_specialOf (name := Str.ofString "__next__") hit.typeIs slot_listiter_next.lookup ?_)
  refine wpAny_ite_split (fun hab => absurd hab (by decide)) (fun _ => ?_)
  exact wpAny_bind (special_item hit hl hx fun h' a b => wpAny_pure ⟨_, rfl, hQ h' a b⟩)
end
end Mine
end
section
open PySem PySem.W PySem.Calls PyProof.Rows PySem.Builtin
namespace Mine

theorem Reps.erase {W : List Addr} {h : Heap} {vs : List Value} {ds : List D} (r : Reps W h vs ds) (k : Nat) : Reps W h (vs.eraseIdx k) (ds.eraseIdx k) := by
  induction k generalizing vs ds with
  | zero =>
    cases ds with
    | nil => rw [r.nilI]; exact .nil
    | cons d ds =>
      obtain ⟨v, ws, rfl, a, b⟩ := r.consI
      exact b
  | succ k ih =>
    cases ds with
    | nil => rw [r.nilI]; exact .nil
    | cons d ds =>
      obtain ⟨v, ws, rfl, a, b⟩ := r.consI
      exact .cons a (ih b)

section
variable {X : Cx} {A : Around} {env : Env} {F V : List Addr} {s s' : Shared}

theorem In.insertAt {a : Addr} {ds : List D} {d : D} {v : Value} {k : Int} {t : Tok} (I : In X A env F s) (ha : (a, Own.list ds) ∈ X.σ) (r : Rep (wOf X.σ) s.heap v d) (h0 : 0 ≤ k) (h1 : k ≤ ds.length) (hz : ds.length ≤ 100000) :
    wpAny (model X.G.prog X.G.w) A (call (.builtin "list.insert") [.ref a, .int k t, v]) (fun w s' => w = .none ∧ Step X.G F [a] s s' ∧ In (X.setσ (upd X.σ a (.list (ds.take k.toNat ++ d :: ds.drop k.toNat)))) A env F s') (fun _ _ => False) s := by
  cases I.sig.at_ _ ha with
  | @list vs _ hl rs =>
    refine plist_insert hl h0 (by rw [rs.len]; exact h1) (fun h' hn hs => ⟨rfl, ?_⟩) (by rw [rs.len]; exact hz)
    exact I.updList (tk := s.toks) ha hs.extBut (vs' := vs.take k.toNat ++ v :: vs.drop k.toNat) hn (fun k' => k' (Reps.append (.cons r (rs.drop _)) (rs.take _)))
theorem In.delAt {a : Addr} {ds : List D} {i : Int} {t : Tok} {k : Nat} (I : In X A env F s) (ha : (a, Own.list ds) ∈ X.σ) (hb : -100000 ≤ i ∧ i ≤ 100000) (hk : seqIndex? i ds.length = some k) (hz : ds.length ≤ 100000) :
    wpAny (model X.G.prog X.G.w) A (delItem (.ref a) (.int i t)) (fun _ s' => Step X.G F [a] s s' ∧ In (X.setσ (upd X.σ a (.list (ds.eraseIdx k)))) A env F s') (fun _ _ => False) s := by
  cases I.sig.at_ _ ha with
  | @list vs _ hl rs =>
    refine plist_del hl hb (by rw [rs.len]; exact hk) (fun h' hn hs => ?_) (by rw [rs.len]; exact hz)
    exact I.updList (tk := s.toks) ha hs.extBut (vs' := vs.eraseIdx k) hn (fun k' => k' (rs.erase _))

/-- an owned iterator turns -/
theorem In.updIter {a l : Addr} {h' : Heap} {tk : Nat} {vs : List Value} {ds : List D} {i : Nat} (I : In X A env F s) (ha : (a, Own.iter ds i) ∈ X.σ) (hs : Heap.ExtBut a s.heap h') (hi : h'.IsListIter a l (i + 1)) (hw : l ∉ wOf X.σ) (hl : PList s.heap l vs.toArray) (r : Reps (wOf X.σ) s.heap vs ds) :
    Step X.G F [a] s { s with heap := h', toks := tk } ∧ In (X.setσ (upd X.σ a (.iter ds (i + 1)))) A env F { s with heap := h', toks := tk } := by
  have haW : a ∈ wOf X.σ := List.mem_map.mpr ⟨_, ha, rfl⟩
  have x : Step X.G F [a] s { s with heap := h', toks := tk } := Step.of_turn I.good (fun b o hb e => hs b o (fun q => hb (by rw [q]; exact .head _)) e) fun b hb => by
    rw [List.mem_singleton.mp hb]
    cases I.sig.at_ _ ha with
    | iter h1 _ _ _ =>
      obtain ⟨o, e, c, d⟩ := h1
      exact ⟨o, _, e, (by rw [c]; exact fun q => Value.noConfusion q), d, (fun x t q => by simp at q)⟩
  have hV : ∀ b ∈ [a], b ∈ wOf X.σ := fun b hb => by rw [List.mem_singleton.mp hb]; exact haW
  have hrep := x.rep I.good (W := wOf X.σ) (fun b hb => .inl (hV b hb)) I.sig.noTuple
  refine ⟨x, I.after x hV (fun b hb => by rw [wOf_upd] at hb; exact hb) ⟨fun p hp => ?_, by rw [wOf_upd]; exact I.sig.nodup⟩⟩
  rw [wOf_upd]
  rcases of_mem_upd hp with ⟨hp, hne⟩ | rfl
  · exact x.ownAt I.good I.room.dicts (fun r => hrep.2 r) (fun q => hne (List.mem_singleton.mp q)) (fun l hl q => absurd (hV _ q) hl) (I.sig.at_ p hp)
  · exact .iter hi hw (x.plist I.good (fun q => hw (hV _ q)) hl) (hrep.2 r)
theorem In.nextAt {a : Addr} {ds : List D} {i : Nat} {d : D} (I : In X A env F s) (ha : (a, Own.iter ds i) ∈ X.σ) (hd : ds[i]? = some d) :
    wpAny (model X.G.prog X.G.w) A (call (.builtin "next") [.ref a]) (fun v s' => Step X.G F [a] s s' ∧ In (X.setσ (upd X.σ a (.iter ds (i + 1)))) A env F s' ∧ Rep (wOf X.σ) s'.heap v d) (fun _ _ => False) s := by
  cases I.sig.at_ _ ha with
  | @iter l vs _ _ h1 hw hl r =>
    obtain ⟨v, e, rv⟩ := r.get hd
    refine call_next_item h1 hl.1 (by simpa using e) fun h' hi hs => ?_
    obtain ⟨x, I'⟩ := I.updIter (tk := s.toks) ha hs.extBut hi hw hl r
    refine ⟨x, I', (x.rep I.good (W := wOf X.σ) (fun b hb => .inl ?_) I.sig.noTuple).1 rv⟩
    rw [List.mem_singleton.mp hb]; exact List.mem_map.mpr ⟨_, ha, rfl⟩

/-- an expression that may turn owned objects -/
def EvM (X : Cx) (V : List Addr) (e : Expr) (Ψ : D → Sig → Prop) : Prop :=
  ∀ A env F s, In X A env F s → wpAny (model X.G.prog X.G.w) A (eval e env) (fun v s' => ∃ d σ', Step X.G F V s s' ∧ In (X.setσ σ') A env F s' ∧ Rep (wOf σ') s'.heap v d ∧ Ψ d σ') (fun _ _ => False) s
variable {Ψ : D → Sig → Prop}
theorem EvM.ev {e : Expr} {d : D} (h : Ev X e d) (k : Ψ d X.σ) : EvM X V e Ψ := fun A env F s I => wpAny_mono (h A env F s I) (fun v s' ⟨x, r⟩ => ⟨d, X.σ, x.weak, I.step x, r, k⟩) fun _ _ e => e
theorem EvM.mono {e : Expr} {Ψ' : D → Sig → Prop} (h : EvM X V e Ψ) (k : ∀ d σ, Ψ d σ → Ψ' d σ) : EvM X V e Ψ' := fun A env F s I => wpAny_mono (h A env F s I) (fun v s' ⟨d, σ, a, b, c, q⟩ => ⟨d, σ, a, b, c, k _ _ q⟩) fun _ _ e => e
theorem EvM.ite {c a b : Expr} {pos : Pos} {t : Bool} (h : Tv X c t) (ha : t = true → EvM X V a Ψ) (hb : t = false → EvM X V b Ψ) : EvM X V (.IfExp c a b pos) Ψ := by
  intro A env F s I
  refine wpAny_IfExp (wpAny_mono (h A env F s I) (fun t' s₁ ⟨x, e⟩ => ?_) fun _ _ e => e)
  subst e
  cases t' with
  | true => exact wpAny_mono (ha rfl A env F s₁ (I.step x)) (fun v s₂ ⟨d, σ, a, b, c, q⟩ => ⟨d, σ, x.weak.trans a, b, c, q⟩) fun _ _ e => e
  | false => exact wpAny_mono (hb rfl A env F s₁ (I.step x)) (fun v s₂ ⟨d, σ, a, b, c, q⟩ => ⟨d, σ, x.weak.trans a, b, c, q⟩) fun _ _ e => e
theorem GIn.sigOk {G : Gd} {n : Nat} {σ : Sig} (g : GIn G n σ A F s) : SigOk σ s.heap := g.sig

/-- a call that may turn owned objects -/
theorem EvM.call {n : Nat} {fe e : Expr} {es : List Expr} {f : Value} {ds : List D} {pos : Pos} (hf : Ev X fe (.fn f)) (ha : Evs X (e :: es) ds) (hc : CallsM X.G X.n X.σ V f ds [] Ψ) (hV : ∀ a ∈ V, a ∈ wOf X.σ) (hΨ : ∀ d σ', Ψ d σ' → ∀ a ∈ wOf σ', a ∈ wOf X.σ) (hk : KeepV X.G X.n X.σ f) (hn : notAttr fe = true := by rfl) (hp : plainEs (e :: es) = true := by rfl) :
    EvM X V (.Call fe (e :: es) [] pos) Ψ := by
  intro A env F s I
  rw [eval_Call hn]
  refine wpAny_bind (wpAny_mono (hf A env F s I) (fun v s₁ ⟨x₁, r⟩ => ?_) fun _ _ e => e)
  obtain rfl := r.fnI
  refine callWith_ok (I.step x₁) ha hp hk fun vs s₂ x₂ rs => ?_
  have I₂ := (I.step x₁).step x₂
  refine wpAny_mono (hc A F s₂ _ I₂.g rs) (fun v s₃ ⟨x₃, d, σ', g, r₃, q⟩ => ⟨d, σ', (x₁.trans x₂).weak.trans x₃, I₂.after x₃ hV (hΨ d σ' q) g.sig, r₃, q⟩) fun _ _ e => e

/-- a call with one keyword -/
theorem EvM.callKw {fe e ke : Expr} {es : List Expr} {f kv : Value} {kn : Str} {kp : Pos} {ds : List D} {pos : Pos} (hf : Ev X fe (.fn f)) (ha : Evs X (e :: es) ds) (hkv : Ev X ke (.fn kv)) (hc : CallsM X.G X.n X.σ V f ds [(kn, kv)] Ψ) (hV : ∀ a ∈ V, a ∈ wOf X.σ) (hΨ : ∀ d σ', Ψ d σ' → ∀ a ∈ wOf σ', a ∈ wOf X.σ) (hk : KeepV X.G X.n X.σ f) (hp : plainEs (e :: es) = true := by rfl)
    (hn : ∀ env, eval (.Call fe (e :: es) [⟨some kn, ke, kp⟩] pos) env = (do callWith pos (← eval fe env) [] (backTo pos (starEach (e :: es) env)) (backToKw pos (keywordEach [⟨some kn, ke, kp⟩] env))) := by intro _; rfl) :
    EvM X V (.Call fe (e :: es) [⟨some kn, ke, kp⟩] pos) Ψ := by
  intro A env F s I
  rw [hn]
  refine wpAny_bind (wpAny_mono (hf A env F s I) (fun v s₁ ⟨x₁, r⟩ => ?_) fun _ _ e => e)
  have e := r.fnI
  subst v
  have I₁ := I.step x₁
  obtain ⟨h1, h2⟩ := starEach_of env hp
  refine callWith_of (P := fun h => ∃ k, (k = Keeper.frame ∨ k = Keeper.machine ∨ k = Keeper.boundFrame) ∧ Looks (model X.G.prog X.G.w) h (keeperOf f) k) ?_ (fun _ q => q) ?_
  · rw [h1]
    show ((false || (backTo pos (starEach es env)).any (·.1)) || false) = false
    rw [any_star env pos es h2]; rfl
  · refine evalArgs_kw2 (by rfl) (wpAny_mono (ha A env F s₁ pos I₁) (fun vs s₂ ⟨x₂, rs⟩ => ?_) fun _ _ e => e) h1
    have I₂ := I₁.step x₂
    refine kwAll_cons (wpAny_mono (hkv A env F s₂ I₂) (fun w s₃ ⟨x₃, rw_⟩ => ?_) fun _ _ e => e)
    cases rw_
    have I₃ := I₂.step x₃
    refine kwAll_nil ⟨hk A F s₃ I₃.g, ?_⟩
    show wpAny _ A (PySem.call f vs [(kn, kv)]) _ _ s₃
    refine wpAny_mono (hc A F s₃ _ I₃.g (I₂.reps x₃ rs)) (fun v s₄ ⟨x₄, d, σ', g, r₄, q⟩ => ⟨d, σ', ((x₁.trans x₂).trans x₃).weak.trans x₄, I₃.after x₄ hV (hΨ d σ' q) g.sig, r₄, q⟩) fun _ _ e => e
theorem CallsM.calls {G : Gd} {n : Nat} {σ : Sig} {f : Value} {ds : List D} {d : D} (h : CallsM G n σ [] f ds [] (fun d' σ' => d' = d ∧ σ' = σ)) : Calls G n σ f ds d := fun A F s vs g r =>
  wpAny_mono (h A F s vs g r) (fun v s' ⟨x, d', σ', g', r', e1, e2⟩ => ⟨x, by subst e1 e2; exact r'⟩) fun _ _ e => e

/-- a method of an owned list that turns it -/
theorem EvM.append {o e : Expr} {apos pos : Pos} {a : Addr} {ds : List D} {Φ : D → Sig → Prop} (ho : Ev X o (.fn (.ref a))) (he : EvM X V e Φ) (haV : a ∈ V) (hΦ : ∀ d σ', Φ d σ' → (a, Own.list ds) ∈ σ' ∧ (∀ b ∈ wOf σ', b ∈ wOf X.σ) ∧ Ψ .none (upd σ' a (.list (ds ++ [d])))) (ha : (a, Own.list ds) ∈ X.σ) (hz : ds.length ≤ 100000)
    (hq : MethEq o "append" apos pos [e] := by intro _; exact ⟨_, rfl⟩) (hp : plainEs [e] = true := by rfl) (hs : ∀ env, starEach [e] env = (false, eval e env) :: starEach [] env := by intro _; rfl) : EvM X V (.Call (.Attribute o "append" apos) [e] [] pos) Ψ := by
  intro A env F s I
  obtain ⟨pl, hq⟩ := hq env
  refine MethodCall_ (pl := pl) (wpAny_mono (ho A env F s I) (fun v s₁ ⟨x₁, r⟩ => ?_) fun _ _ e => e) hq
  refine Meth.append (LstAt.owned a ds ha) A env F s₁ v pl _ (I.step x₁) r fun tk => ?_
  obtain rfl := r.fnI
  have x₂ : Step X.G F [] s { s₁ with toks := tk } := x₁.trans Step.toks
  have I₂ := I.step x₂
  obtain ⟨h1, h2⟩ := starEach_of env hp
  refine callWith_of (P := fun h => ∃ k, (k = Keeper.frame ∨ k = Keeper.machine ∨ k = Keeper.boundFrame) ∧ Looks (model X.G.prog X.G.w) h (keeperOf (.builtin "list.append")) k) ?_ (fun _ q => q) ?_
  · rw [h1]; rfl
  · have q : wpAny (model X.G.prog X.G.w) A (spliced (backTo pos (starEach [e] env))) (fun vs s₃ => ∃ w d σ', vs = [w] ∧ Step X.G F V { s₁ with toks := tk } s₃ ∧ In (X.setσ σ') A env F s₃ ∧ Rep (wOf σ') s₃.heap w d ∧ Φ d σ') (fun _ _ => False) { s₁ with toks := tk } :=
      spliced_more (wpAny_mono (he A env F _ I₂) (fun w s₃ ⟨d, σ', x₃, I₃, rw_, q⟩ => spliced_none ⟨w, d, σ', rfl, x₃, I₃, rw_, q⟩) fun _ _ e => e) (hs env)
    rw [h1] at q ⊢
    refine evalArgs_plain (wpAny_mono q (fun vs s₃ ⟨w, d, σ', evs, x₃, I₃, rw_, q⟩ => ?_) fun _ _ e => e)
    subst evs
    obtain ⟨q1, q2, q3⟩ := hΦ d σ' q
    refine ⟨⟨.machine, .inr (.inl rfl), Looks.of_pure rfl⟩, ?_⟩
    refine wpAny_mono (In.appendAt (X := X.setσ σ') I₃ q1 rw_ hz) (fun w s₄ ⟨e4, x₄, I₄⟩ => ?_) fun _ _ e => e
    subst e4
    exact ⟨.none, _, (x₂.weak.trans x₃).trans (x₄.mono (fun _ h _ => .inl h) fun b hb _ => by rw [List.mem_singleton.mp hb]; exact haV), I₄, .none, q3⟩
end
end Mine
end
section
open PySem PySem.W PySem.Calls PyProof.Rows PySem.Builtin
namespace Mine

section
variable {X : Cx} {V : List Addr} {Φ : Out → Prop}

/-- a pair of local names takes a pair: the stores go from the right -/
theorem St1.assign2 {a b : Str × Pos} {e1 e2 : Expr} {k0 k1 : Nat} {tpos vpos pos : Pos} {d1 d2 : D} {ρ : Env0} (h1 : Ev X e1 d1) (h2 : Ev X e2 d2) (ka : storable X.sc a.1 = true) (kb : storable X.sc b.1 = true) (hab : a.1 ≠ b.1) (hya : niceName a.1) (hyb : niceName b.1)
    (hρ : ∀ p ∈ ρ, p ∈ X.ρ) (hρa : ∀ p ∈ ρ, p.1 ≠ a.1 ∧ p.1 ≠ b.1) (h : Φ (.next ((a.1, d1) :: (b.1, d2) :: ρ) X.σ V))
    (hp : plainEs [e1, e2] = true := by rfl)
    (hs : ∀ env, env.scope = X.sc → swapsWithSole [.Tuple [.Name a.1 a.2, .Name b.1 b.2] k0 tpos] (.Tuple [e1, e2] k1 vpos) pos.line env = pure false)
    (hw : ∀ env, env.scope = X.sc → swappedStores [.Tuple [.Name a.1 a.2, .Name b.1 b.2] k0 tpos] (.Tuple [e1, e2] k1 vpos) env = pure (some [a.1, b.1])) :
    St1 X V (.Assign [.Tuple [.Name a.1 a.2, .Name b.1 b.2] k0 tpos] (.Tuple [e1, e2] k1 vpos) pos) Φ := by
  intro A env F s I
  have s1 : ∀ env, starEach [e1, e2] env = (false, eval e1 env) :: starEach [e2] env := fun env => (starEach_of env hp).1
  have p2 : plainEs [e2] = true := (starEach_of (es := [e2]) env hp).2
  have s2 : ∀ env, starEach [e2] env = (false, eval e2 env) :: starEach [] env := fun env => (starEach_of env p2).1
  have he : Ev X (.Tuple [e1, e2] k1 vpos) (.tup [d1, d2]) := Ev.tup (Evs.cons h1 (Evs.cons h2 Evs.nil s2) s1) (by show 2 ≤ 1000; decide)
  refine Assign_Tuple_swapped (names := [a.1, b.1]) (wpAny_mono (he A env F s I) (fun v s₁ ⟨x₁, r⟩ => ?_) fun _ _ e => e) (hs env I.env.scope) (hw env I.env.scope)
  have I₁ := (I.step x₁).weak hρ
  obtain ⟨t, vs, rfl, ht, rs⟩ := r.tupI
  have hz : vs.toArray.size = 2 := (List.size_toArray ..).trans rs.len
  have q := wpAny_unpackItems_tuple (prog := X.G.prog) (w := X.G.w) (A := A) (E := fun _ _ => False) (s := s₁) (items := vs.toArray) (Q := fun items s₂ => wpAny (model X.G.prog X.G.w) A (assignInOrder ([a.1, b.1].reverse.map fun n => bindName env n) items.reverse) (fun _ s' => OutOk X V A env F s s' Φ .next) (fun _ _ => False) s₂) I.room.handled ht fun h' hk => ?_
  · rw [hz] at q; exact q
  · have x₂ : Step X.G F [] s₁ { s₁ with heap := h', toks := s₁.toks } := Step.of_keep fun b o e => hk b o (Nat.ne_of_lt (Heap.lt_size e)) e
    have I₂ := I₁.step x₂
    have rs₂ := I₁.reps x₂ rs
    obtain ⟨va, vb, rfl, _, _⟩ := rs.twoI
    obtain ⟨_, _, e2, ra, rb⟩ := rs₂.twoI
    cases e2
    have N := assignNamesG (F := F) (A := A) (env := env) (fun k => bindName env k.1) (fun _ _ _ _ _ _ h => wpAny_bindName h) [b, a] [vb, va] [d2, d1] (X.setρ ρ) { s₁ with heap := h', toks := s₁.toks } I₂ (.cons rb (.cons ra .nil)) rfl (by show (storable X.sc b.1 && (storable X.sc a.1 && true)) = true; rw [ka, kb]; rfl) (by simpa using hab.symm)
      (fun k hk => by
        rcases List.mem_cons.mp hk with rfl | hk
        · exact hyb
        · rw [List.mem_singleton.mp hk]; exact hya)
      (fun p hp q => by
        rcases List.mem_cons.mp q with q | q
        · exact (hρa p hp).2 q
        · exact (hρa p hp).1 (List.mem_singleton.mp q))
    refine wpAny_mono N (fun _ s₃ ⟨x₃, I₃⟩ => ⟨_, _, V, Moved.own ((x₁.trans x₂).weak.trans x₃) fun b hb _ => List.mem_append_left _ (ownT_own b hb), I₃, h⟩) fun _ _ e => e

/-- a name takes the value of an expression that may turn owned objects -/
theorem St1.assignM {y : Str} {py pos : Pos} {e : Expr} {ρ : Env0} {Ψ : D → Sig → Prop} (he : EvM X V e Ψ) (hk : storable X.sc y = true) (h1 : ∀ p ∈ ρ, p ∈ X.ρ) (h2 : ∀ p ∈ ρ, p.1 ≠ y) (hy : niceName y) (h : ∀ d σ', Ψ d σ' → Φ (.next ((y, d) :: ρ) σ' V))
    (hs : ∀ env, env.scope = X.sc → swapsWith e (some (.Name y py)) pos.line env = pure false) : St1 X V (.Assign [.Name y py] e pos) Φ := by
  intro A env F s I
  refine wpAny_Assign_Name (wpAny_mono (he A env F s I) (fun v s₁ ⟨d, σ', x₁, I₁, r, q⟩ => ?_) fun _ _ e => e) (hs env I.env.scope)
  refine wpAny_mono (In.store (X := X.setσ σ') I₁ hk h1 h2 hy r) (fun _ s₂ ⟨x₂, I₂⟩ => ⟨_, σ', V, ⟨?_, fun _ h => .inl h⟩, I₂, h d σ' q⟩) fun _ _ e => e
  refine (x₁.mono (fun _ h _ => .inl h) fun b hb _ => List.mem_append_right _ hb).trans (x₂.mono (fun _ h _ => .inl h) fun b hb _ => List.mem_append_left _ ?_)
  rcases List.mem_cons.mp hb with q | q
  · rw [q]; exact .head _
  · exact ownA_cell (mem_cellT q).2
/-- an expression as a statement -/
theorem St1.exprM {pos : Pos} {e : Expr} {Ψ : D → Sig → Prop} (he : EvM X V e Ψ) (h : ∀ d σ', Ψ d σ' → Φ (.next X.ρ σ' V)) (hs : ∀ env, swapsWith e none pos.line env = pure false) : St1 X V (.Expr e pos) Φ := by
  intro A env F s I
  refine wpAny_Expr_any (wpAny_mono (he A env F s I) (fun v s₁ ⟨d, σ', x₁, I₁, r, q⟩ => ⟨X.ρ, σ', V, ⟨x₁.mono (fun _ h _ => .inl h) fun b hb _ => List.mem_append_right _ hb, fun _ h => .inl h⟩, I₁, h d σ' q⟩) fun _ _ e => e) ?_ (hs env)
  unfold interactive
  rw [I.env.scope, I.env.kind]; rfl

/-- an expression that makes a fresh list -/
def EvNew (X : Cx) (e : Expr) (ds : List D) : Prop := ∀ A env F s, In X A env F s → wpAny (model X.G.prog X.G.w) A (eval e env) (NewL (wOf X.σ) X.G F s ds) (fun _ _ => False) s
theorem NewL.before {W : List Addr} {G : Gd} {F : List Addr} {s s₀ s' : Shared} {ds : List D} {v : Value} (x : Step G F [] s₀ s) (h : NewL W G F s ds v s') : NewL W G F s₀ ds v s' := by
  obtain ⟨a, vs, s₁, e, y, b⟩ := h
  exact ⟨a, vs, s₁, e, x.trans y, b⟩
theorem EvNew.nil {pos : Pos} : EvNew X (.List [] pos) [] := fun A env F s I =>
  List_ (wpAny_mono (Evs.nil A env F s pos I) (fun vs s₁ ⟨x, r⟩ => wpAny_newList (NewL.before x (NewL.of_push (tk := s₁.toks) r)) (by rw [r.len]; exact Nat.zero_le _)) fun _ _ e => e)
theorem EvNew.meth {o e : Expr} {name : Str} {apos pos : Pos} {es : List Expr} {id : String} {d0 : D} {ds ds' : List D} (ho : Ev X o d0) (hm : Meth X d0 name id) (ha : Evs X (e :: es) ds) (hc : CallsNew X.G X.n X.σ (.builtin id) (d0 :: ds) ds')
    (hq : MethEq o name apos pos (e :: es) := by intro _; exact ⟨_, rfl⟩) (hp : plainEs (e :: es) = true := by rfl) : EvNew X (.Call (.Attribute o name apos) (e :: es) [] pos) ds' := by
  intro A env F s I
  obtain ⟨pl, hq⟩ := hq env
  refine MethodCall_ (pl := pl) (wpAny_mono (ho A env F s I) (fun v s₁ ⟨x₁, r⟩ => ?_) fun _ _ e => e) hq
  refine hm A env F s₁ v pl _ (I.step x₁) r fun tk => ?_
  have x₂ : Step X.G F [] s { s₁ with toks := tk } := x₁.trans Step.toks
  refine callWith_ok (I.step x₂) ha hp keepB fun vs s₃ x₃ rs => ?_
  exact wpAny_mono (hc A F s₃ _ ((I.step x₂).step x₃).g (.cons ((I.step x₂).rep x₃ r) rs)) (fun v s₄ q => q.before (x₂.trans x₃)) fun _ _ e => e
/-- a name takes a fresh list, which is owned from here -/
theorem St1.assignNew {y : Str} {py pos : Pos} {e : Expr} {ds : List D} {ρ : Env0} (he : EvNew X e ds) (hk : storable X.sc y = true) (h1 : ∀ p ∈ ρ, p ∈ X.ρ) (h2 : ∀ p ∈ ρ, p.1 ≠ y) (hy : niceName y) (h : ∀ a, a ∉ wOf X.σ → Φ (.next ((y, .fn (.ref a)) :: ρ) ((a, .list ds) :: X.σ) (a :: V)))
    (hs : ∀ env, env.scope = X.sc → swapsWith e (some (.Name y py)) pos.line env = pure false) : St1 X V (.Assign [.Name y py] e pos) Φ := by
  intro A env F s I
  refine wpAny_Assign_Name (wpAny_mono (he A env F s I) (fun v s₁ q => ?_) fun _ _ e => e) (hs env I.env.scope)
  obtain ⟨a, rfl, hn, x₁, I₁⟩ := I.ownNew q
  refine wpAny_mono (In.store (X := X.setσ ((a, .list ds) :: X.σ)) I₁ hk h1 h2 hy (.fn (.ref a))) (fun _ s₂ ⟨x₂, I₂⟩ => ⟨_, _, a :: V, ⟨?_, fun b hb => ?_⟩, I₂, h a (I.notW hn)⟩) fun _ _ e => e
  · refine x₁.weak.trans (x₂.mono (fun _ h _ => .inl h) fun b hb _ => List.mem_append_left _ ?_)
    rcases List.mem_cons.mp hb with q | q
    · rw [q]; exact .head _
    · exact ownA_cell (mem_cellT q).2
  · rcases List.mem_cons.mp hb with rfl | hb
    · exact .inr hn
    · exact .inl hb
/-- del of an item of an owned list -/
theorem St1.del {o ie : Expr} {spos pos : Pos} {a : Addr} {ds : List D} {i : Int} {k : Nat} (ho : Ev X o (.fn (.ref a))) (hi : Ev X ie (.int i)) (ha : (a, Own.list ds) ∈ X.σ) (haV : a ∈ V) (hb : -100000 ≤ i ∧ i ≤ 100000) (hk : seqIndex? i ds.length = some k) (hz : ds.length ≤ 100000)
    (h : Φ (.next X.ρ (upd X.σ a (.list (ds.eraseIdx k))) V)) : St1 X V (.Delete [.Subscript o ie spos] pos) Φ := by
  intro A env F s I
  refine wpAny_Delete (wpAny_deleteEach_cons (wpAny_delete_Subscript (wpAny_mono (ho A env F s I) (fun v s₁ ⟨x₁, r⟩ => wpAny_mono (hi A env F s₁ (I.step x₁)) (fun w s₂ ⟨x₂, rw_⟩ => ?_) fun _ _ e => e) fun _ _ e => e)))
  obtain rfl := r.fnI
  obtain ⟨_, rfl⟩ := rw_.intI
  refine wpAny_mono (In.delAt ((I.step x₁).step x₂) ha hb hk hz) (fun _ s₃ ⟨x₃, I₃⟩ => wpAny_deleteEach_nil ⟨X.ρ, _, V, ⟨?_, fun _ h => .inl h⟩, I₃, h⟩) fun _ _ e => e
  exact (x₁.trans x₂).weak.trans (x₃.mono (fun _ h _ => .inl h) fun b hb _ => by rw [List.mem_singleton.mp hb]; exact List.mem_append_right _ haV)

/-- know less -/
theorem St.weak {ss : List Stmt} {ρ : Env0} {σ : Sig} (hρ : ∀ p ∈ ρ, p ∈ X.ρ) (hs : ∀ p ∈ σ, p ∈ X.σ) (hn : (wOf X.σ).Nodup → (wOf σ).Nodup) (h : St (X.at_ ρ σ) V ss Φ) : St X V ss Φ := fun A env F s I => by
  have I₁ : In (X.at_ ρ σ) A env F s := In.weak (X := X.setσ σ) (I.weakσ hs (hn I.sig.nodup)) hρ
  exact wpAny_mono (h A env F s I₁) (fun fl s' o => OutOk.after (V' := V) (Moved.pure Step.refl) I I₁ o) fun _ _ e => e
/-- a list is frozen -/
theorem St.freeze {ss : List Stmt} {ρ : Env0} {σ : Sig} {a : Addr} {ds : List D} (ha : (a, Own.list ds) ∈ X.σ) (hs : ∀ p ∈ σ, p ∈ X.σ ∧ p.1 ≠ a) (hn : (wOf X.σ).Nodup → (wOf σ).Nodup) (hρ : ∀ p ∈ ρ, p ∈ X.ρ ∨ ∃ y, p = (y, .list ds) ∧ (y, D.fn (.ref a)) ∈ X.ρ) (h : St (X.at_ ρ σ) V ss Φ) : St X V ss Φ := fun A env F s I => by
  have I₁ : In (X.at_ ρ σ) A env F s := I.freeze ha hs (hn I.sig.nodup) hρ
  exact wpAny_mono (h A env F s I₁) (fun fl s' o => OutOk.after (V' := V) (Moved.pure Step.refl) I I₁ o) fun _ _ e => e
end
end Mine
end
section
open PySem PySem.W PySem.Calls PyProof.Rows PySem.Builtin
namespace Mine
section
variable {X : Cx} {V : List Addr} {Ψ : D → Sig → Prop}
theorem Bin.iadd {i j : Int} : Bin X (inplaceOp .Add) (.int i) (.int j) (.int (i + j)) :=
  .ofInts fun _ _ _ _ _ => PyProof.Rows.iadd_int ⟨Step.toks, .int ..⟩
theorem Bin.isub {i j : Int} : Bin X (inplaceOp .Sub) (.int i) (.int j) (.int (i - j)) :=
  .ofInts fun _ _ _ _ _ => PyProof.Rows.isub_int ⟨Step.toks, .int ..⟩
theorem Bin.ixor {i j : Int} : Bin X (inplaceOp .BitXor) (.int i) (.int j) (.int (Builtin.bitXor i j)) :=
  .ofInts fun _ _ _ _ _ => PyProof.Rows.ixor_int ⟨Step.toks, .int ..⟩
theorem Bin.ior {i j : Int} : Bin X (inplaceOp .BitOr) (.int i) (.int j) (.int (Builtin.bitOr i j)) :=
  .ofInts fun _ _ _ _ _ => PyProof.Rows.ior_int ⟨Step.toks, .int ..⟩

theorem CallsM.insert {G : Gd} {σ : Sig} {a : Addr} {ds : List D} {d : D} {k : Int} (ha : (a, Own.list ds) ∈ σ) (haV : a ∈ V) (h0 : 0 ≤ k) (h1 : k ≤ ds.length) (hz : ds.length ≤ 100000) {X : Cx} (hX : X.G = G) (hσ : X.σ = σ) {A : Around} {env : Env} {F : List Addr} {s : Shared} (I : In X A env F s) {vs : List Value} (rs : Reps (wOf X.σ) s.heap vs [.fn (.ref a), .int k, d]) :
    wpAny (model X.G.prog X.G.w) A (call (.builtin "list.insert") vs) (fun v s' => Step X.G F V s s' ∧ In (X.setσ (upd X.σ a (.list (ds.take k.toNat ++ d :: ds.drop k.toNat)))) A env F s' ∧ v = .none) (fun _ _ => False) s := by
  subst hX hσ
  obtain ⟨_, _, _, rfl, r1, r2, r⟩ := rs.threeI
  obtain rfl := r1.fnI
  obtain ⟨_, rfl⟩ := r2.intI
  exact wpAny_mono (I.insertAt ha r h0 h1 hz) (fun v s' ⟨e, x, I'⟩ => ⟨x.mono (fun _ h _ => .inl h) fun b hb _ => by rw [List.mem_singleton.mp hb]; exact haV, I', e⟩) fun _ _ e => e
/-- insert into an owned list -/
theorem EvM.insert {o e₁ e₂ : Expr} {apos pos : Pos} {a : Addr} {ds : List D} {d : D} {k : Int} (ho : Ev X o (.fn (.ref a))) (h1 : Ev X e₁ (.int k)) (h2 : Ev X e₂ d) (ha : (a, Own.list ds) ∈ X.σ) (haV : a ∈ V) (h0 : 0 ≤ k) (hk : k ≤ ds.length) (hz : ds.length ≤ 100000)
    (hΨ : Ψ .none (upd X.σ a (.list (ds.take k.toNat ++ d :: ds.drop k.toNat)))) (hq : MethEq o "insert" apos pos [e₁, e₂] := by intro _; exact ⟨_, rfl⟩) (hp : plainEs [e₁, e₂] = true := by rfl) : EvM X V (.Call (.Attribute o "insert" apos) [e₁, e₂] [] pos) Ψ := by
  intro A env F s I
  obtain ⟨pl, hq⟩ := hq env
  refine MethodCall_ (pl := pl) (wpAny_mono (ho A env F s I) (fun v s₁ ⟨x₁, r⟩ => ?_) fun _ _ e => e) hq
  refine Meth.insert (LstAt.owned a ds ha) A env F s₁ v pl _ (I.step x₁) r fun tk => ?_
  have x₂ : Step X.G F [] s { s₁ with toks := tk } := x₁.trans Step.toks
  have p2 : plainEs [e₂] = true := (starEach_of (es := [e₂]) env hp).2
  refine callWith_ok (I.step x₂) (Evs.cons h1 (Evs.cons h2 Evs.nil (fun env => (starEach_of env p2).1)) (fun env => (starEach_of env hp).1)) hp keepB fun vs s₃ x₃ rs => ?_
  have I₃ := (I.step x₂).step x₃
  refine wpAny_mono (CallsM.insert ha haV h0 hk hz rfl rfl I₃ (Reps.cons ((I.step x₂).rep x₃ r) rs)) (fun w s₄ ⟨x₄, I₄, e⟩ => ?_) fun _ _ e => e
  subst e
  exact ⟨.none, _, (x₂.trans x₃).weak.trans x₄, I₄, .none, hΨ⟩
/-- the next item of an owned iterator -/
theorem EvM.next {fe e : Expr} {pos : Pos} {a : Addr} {ds : List D} {d : D} {i : Nat} (hf : Ev X fe (.fn (.builtin "next"))) (he : Ev X e (.fn (.ref a))) (ha : (a, Own.iter ds i) ∈ X.σ) (haV : a ∈ V) (hd : ds[i]? = some d) (hΨ : Ψ d (upd X.σ a (.iter ds (i + 1))))
    (hn : notAttr fe = true := by rfl) (hp : plainEs [e] = true := by rfl) : EvM X V (.Call fe [e] [] pos) Ψ := by
  intro A env F s I
  rw [eval_Call hn]
  refine wpAny_bind (wpAny_mono (hf A env F s I) (fun v s₁ ⟨x₁, r⟩ => ?_) fun _ _ e => e)
  obtain rfl := r.fnI
  refine callWith_ok (I.step x₁) (Evs.cons he Evs.nil (fun env => (starEach_of env hp).1)) hp keepB fun vs s₂ x₂ rs => ?_
  obtain ⟨_, rfl, r1⟩ := rs.oneI
  obtain rfl := r1.fnI
  have I₂ := (I.step x₁).step x₂
  refine wpAny_mono (I₂.nextAt ha hd) (fun v s₃ ⟨x₃, I₃, r⟩ => ⟨d, _, (x₁.trans x₂).weak.trans (x₃.mono (fun _ h _ => .inl h) fun b hb _ => by rw [List.mem_singleton.mp hb]; exact haV), I₃, by rw [wOf_upd]; exact r, hΨ⟩) fun _ _ e => e
end
end Mine
end
section
local macro_rules | `(tactic| omega) => `(tactic| lia)
open PySem PySem.W PySem.Calls PyProof.Rows PySem.Builtin
namespace Mine

section
variable {prog : Program} {w : World} {A : Around} {R : Result → Shared → Prop} {s : Shared}
/-- a function whose body is an expression is called; q: the name that its code bears -/
theorem callFunE {a : Addr} {args : Args} {o : Obj} {fd : FuncData} {body : Expr} {q : Str} (hroom : A.depth < recursionLimit)
    (ho : s.heap.get? a = some o) (hd' : o.data = .func fd) (hco : fd.scope.isCoroutine = false) (hgen : fd.scope.isGenerator = false) (hbody : fd.body = .expr body) (hcd : s.heap.CodeRec fd.code q)
    (h : wpAny (model prog w) A.in1 (bindArgs fd args) (fun binds s₁ =>
      wpAny (model prog w) A.in1 (newFunctionEnv fd.scope fd.globals fd.closure binds (q ++ ".<locals>.") (some a) fd.code none fd.builtins)
        (fun env s₂ => s₂.heap.NoLimit ∧ codeAny (model prog w) A (.expr body env) R s₂) (fun e s' => R (.error e) s') s₁) (fun e s' => R (.error e) s') s) :
    codeAny (model prog w) A (.call (.ref a) args) R s := by
  refine codeAny_of_tree ?_
  show wpAny _ A.in1 (callAny (.ref a) args) _ _ s
  simp only [callAny]
  refine wpAny_bind (wpAny_load ho ?_)
  obtain ⟨c, oc, vs, tq, hc, hoc, hdc, hq⟩ := hcd
  simp only [hd', callFunction, hco, hgen, hbody, hc]
  rw [hc] at h
  refine wpAny_bind (m := field (.ref c) 1) (wpAny_field hoc hdc hq (wpAny_bind (wpAny_pure ?_)))
  exact wpAny_bind (wpAny_mono h (fun binds s₁ h₁ => wpAny_bind (wpAny_mono h₁ (fun env s₂ h₂ => wpAny_bind (wpAny_enterFrame h₂.1 hroom
    (wpAny_pure (And.intro rfl h₂.2)))) fun _ _ h' => h')) fun _ _ h' => h')
end

/-- a function made of a lambda without captured names -/
def LamFn (params : Arguments) (body : Expr) (sc : Scope) (o : Obj) : Prop :=
  ∃ name qual pm cdv ct, o = { cls := .type "function", data := .func (kla_fn name qual params body sc [] pm cdv ct) }

/-- a lambda of one name, called -/
theorem Calls.of_lam {G : Gd} {n : Nat} {σ : Sig} {a : Addr} {o : Obj} {params : Arguments} {body : Expr} {sc : Scope} {x : Str} {d r : D} (ho : (a, Own.fn o) ∈ σ) (hl : LamFn params body sc o)
    (hbind : ∀ name qual pm cdv ct v, bindArgs (kla_fn name qual params body sc [] pm cdv ct) ⟨[v], []⟩ = pure [(x, v)]) (hx : sc.names = [(x, .local)]) (hk : sc.kind = .function) (hco : sc.isCoroutine = false) (hgen : sc.isGenerator = false)
    (hnice : niceName x) (hb : ∀ cd, Ev ⟨G, n, sc, cd, [(x, d)], σ⟩ body r) : Calls G (n + 1) σ (.ref a) [d] r := by
  intro A F s vs g rs
  obtain ⟨v, rfl, rv⟩ := rs.oneI
  obtain ⟨name, qual, pm, cdv, ct, rfl⟩ := hl
  cases g.sig.at_ _ ho with
  | fn e hcls hdat hcode hcW hrec =>
    cases hdat
    have hcode' : cdv = _ := hcode
    subst hcode'
    rename_i q
    have hlook : sc.names.lookup x = some .local := by rw [hx]; simp
    refine wpAny_call (callFunE (by have := g.room.depth; unfold recursionLimit; omega) e rfl hco hgen rfl hrec ?_)
    rw [hbind]
    refine wpAny_pure (wpAny_newFunctionEnv_cells hk (fun y hy => ?_) fun env he s₁ xc => ?_)
    · rw [List.mem_singleton.mp hy]; exact .inl hlook
    subst he
    refine ⟨g.good.lim.keeps xc.toInCall.keep, kla_codeExpr ?_⟩
    generalize henv : newEnv sc s.heap.objs.size mainGlobals (cellsFrom (s.heap.objs.size + 1) sc.names []) (q ++ ".<locals>.") (some a) (.ref _) none builtinsNs = env at *
    have henv' := henv
    have e_loc : env.locals = s.heap.objs.size := by rw [← henv]; rfl
    have e_cells : env.cells = [] := by rw [← henv]; show cellsFrom _ sc.names [] = []; rw [hx]; rfl
    have e_sc : env.scope = sc := by rw [← henv]; rfl
    have e_fr : env.frame = some s.heap.objs.size := by rw [← henv]; rfl
    have x1 : Step G F [] s s₁ := by
      obtain ⟨h, tk, e⟩ := xc.toInCall.same
      rw [e]; exact Step.of_keep fun b o q => by have := xc.toInCall.keep b o q; rw [e] at this; exact this
    have hLn : s.heap.get? s.heap.objs.size = none := fresh_ge (Nat.le_refl _)
    obtain ⟨oL, esL, epL, eL, dL, _⟩ := id xc.toInCall.ns
    have I : In ⟨G, n, sc, env.code, [(x, d)], σ⟩ (A.deeper env) env (s.heap.objs.size :: F) s₁ := by
      refine ⟨g.good.step g.room.freshF (fun _ q => absurd q List.not_mem_nil) x1, ⟨g.room.handled, ?_, ?_, ?_, ?_⟩, ⟨e_sc, hk, (by rw [← henv]; rfl), (by rw [← henv]; rfl), rfl, ?_, ?_, ⟨_, xc.toInCall.ns⟩, (by rw [e_loc]; exact g.good.fresh hLn), ?_, ?_, ?_⟩, g.sig.step0 g.good g.room.dicts x1, g.own⟩
      · show A.depth + 1 + n ≤ 1000
        have := g.room.depth; omega
      · show A.units + 3 + 100 * n ≤ 9000
        have := g.room.units; omega
      · obtain ⟨outer, h1, h2, h3⟩ := g.room.frames
        refine ⟨env :: outer, by show A.frames.map (env :: ·) = _; rw [h1]; rfl, by rw [List.filterMap_cons, e_fr, h2], fun e he => ?_⟩
        rcases List.mem_cons.mp he with rfl | he
        · exact ⟨by rw [e_sc]; exact hk, _, e_fr⟩
        · exact h3 e he
      · intro L hL
        rcases List.mem_cons.mp hL with rfl | hL
        · refine ⟨g.good.fresh hLn, fun q => ?_, oL, esL, epL, by rw [← e_loc]; exact eL, dL⟩
          obtain ⟨ps, h1, _⟩ := g.good.tab
          rw [← q, hLn] at h1; cases h1
        · exact (g.room.step x1 (fun _ q => absurd q List.not_mem_nil)).fresh L hL
      · intro p hp
        rw [List.mem_singleton.mp hp]
        have hkk : env.kindOf x = some .local := by unfold Env.kindOf; rw [e_sc]; exact hlook
        exact .inl ⟨hkk, _, v, xc.toInCall.ns, by show bindL _ [(x, v)] _ x = some v; unfold bindL; rw [if_pos hkk]; unfold bindL; simp, (x1.rep0 g.good g.sig).1 rv⟩
      · intro p hp
        rw [List.mem_singleton.mp hp]; exact hnice
      · intro y hy
        rw [hx] at hy
        simp only [List.lookup] at hy
        split at hy <;> rcases hy with hy | hy <;> cases hy
      · intro y c e
        rw [e_cells] at e; cases e
      · intro y z c e1 e2
        rw [e_cells] at e1; cases e1
    refine wpAny_mono (hb _ (A.deeper env) env (s.heap.objs.size :: F) s₁ I) (fun v' s' ⟨x2, r2⟩ => ?_) fun _ _ e => e.elim
    refine ⟨((x1.mono (F' := s.heap.objs.size :: F) (O' := []) (fun _ h _ => .inl (.tail _ h)) (fun _ h _ => absurd h List.not_mem_nil)).trans x2).mono (fun b hb hne => ?_) (fun _ h _ => absurd h List.not_mem_nil), r2⟩
    rcases List.mem_cons.mp hb with rfl | hb
    · exact absurd hLn hne
    · exact .inl hb

theorem codeAmong_more {pos : Pos} {cv c : Value} {a b : Int} (l : List Value) (h : TriplesOk l) : codeAmong pos (l ++ [rawInt a, rawInt b, c]) = some cv → codeAmong pos l = some cv ∨ cv = c := by
  fun_induction TriplesOk l with
  | case1 =>
    intro q
    simp only [List.nil_append, rawInt, codeAmong] at q
    split at q
    · cases q; exact .inr rfl
    · cases q
  | case2 a t b u x rest ih =>
    intro q
    simp only [List.cons_append, codeAmong] at q ⊢
    split at q
    · rename_i hc; rw [if_pos hc]; exact .inl q
    · rename_i hc; rw [if_neg hc]; exact ih h q
  | case3 l h1 h2 => exact h.elim

section
variable {X : Cx} {V : List Addr} {A : Around} {env : Env} {F : List Addr} {s s' : Shared}
theorem Good.code {G : Gd} {s : Shared} (g : Good G s) : CodeHd s.heap G.C G.T := by
  obtain ⟨o, vs, file, tf, flags, tg, inF, text, tt, e, r⟩ := g.ok.hd
  exact ⟨o, vs, file, tf, flags, tg, inF, text, tt, g.keep _ _ r.2.2.2.2.2.2.2.2 e, r⟩
theorem Good.bat {G : Gd} {s : Shared} (g : Good G s) : s.heap.BuiltinsAt G.mg G.T := by
  obtain ⟨bm, o, h1, h2, h3, h4, h5, r⟩ := g.ok.bat
  exact ⟨bm, o, h1, h2, h3, h4, g.keep _ _ h4 h5, r⟩
theorem Good.gT {G : Gd} {s : Shared} (g : Good G s) : mainGlobals ≠ G.T := fun q => by
  obtain ⟨o, es, ep, e, d, _⟩ := g.g
  exact ne_T' g e (by rw [d]; exact fun _ q => Data.noConfusion q) q
theorem step_pushT {G : Gd} {F O : List Addr} {h : Heap} {tk : Nat} {o : Obj} : Step G F O { s with heap := h } { s with heap := h.push o, toks := tk } := Step.of_keep (h' := h.push o) (tk := tk) fun _ _ e => Heap.get?_push_of_some _ e
theorem lam_new {params : Arguments} {body : Expr} {sc : Scope} {lpos : Pos} (I : In X A env F s) (hcd : X.cd = .ref X.G.C) (hcl : closureFor sc env = pure []) (hdef : defaultsOf params env = ([], [])) :
    wpAny (model X.G.prog X.G.w) A (eval (.Lambda params body sc lpos) env) (fun v s' => ∃ l o, v = .ref l ∧ s.heap.get? l = none ∧ LamFn params body sc o ∧ Step X.G F [] s s' ∧ In (X.setσ ((l, .fn o) :: X.σ)) A env F s') (fun _ _ => False) s := by
  have g := I.good
  have gT := g.gT
  obtain ⟨ps, hP, ht, hc⟩ := id g.tab
  refine kla_eval hdef ?_
  have code : env.code = .ref X.G.C := by rw [I.env.code, hcd]
  cases hf : codeAmong lpos ps.toList with
  | none =>
    refine kla_makeFunction hcl I.env.globals g.g code g.code hP ht hf g.gT g.bat fun c' ctv h' tk hx hge hlt hrec htb => ?_
    have x : Step X.G F [] s { s with heap := h' } := by
      refine ⟨⟨h', s.toks, rfl⟩, fun b o hb _ _ e => hx b o hb e, fun b o hb _ e => ⟨o, hx b o hb e, rfl, rfl⟩, fun _ => ⟨_, htb, ?_, fun pos cv e => ?_⟩, fun b o hb _ e o' e' => ?_⟩
      · rw [Array.toList_append]; exact TriplesOk_snoc _ _ _ _ ht
      · rw [Array.toList_append] at e
        rcases codeAmong_more _ ht e with e | rfl
        · obtain ⟨q, r⟩ := hc pos cv e
          obtain ⟨c, o, vs, t, rfl, e1, d, k⟩ := id r
          exact ⟨q, c, o, vs, t, rfl, hx _ _ (codeRec_ne_T g r) e1, d, k⟩
        · exact ⟨_, hrec⟩
      · have := hx b o hb e
        rw [show ({ s with heap := h' } : Shared).heap = h' from rfl, this] at e'; cases e'; rfl
    have hn : ({ s with heap := h' } : Shared).heap.get? h'.objs.size = none := fresh_ge (Nat.le_refl _)
    refine (fun K => ⟨_, _, rfl, K.1, ⟨_, _, _, _, _, rfl⟩, K.2.1, K.2.2⟩) (I.ownAny (w := .fn (kla_obj "<lambda>" (env.qual ++ "<lambda>") params body sc [] ((X.G.mg "__name__").getD .none) c' ctv)) x hn (step_pushT (tk := tk)) fun _ => ?_)
    · refine .fn (Heap.get?_push_size _ rfl) rfl rfl rfl (fun q => ?_) (hrec.push _)
      rcases List.mem_cons.mp q with q | q
      · exact absurd hlt (Nat.not_lt.mpr (Nat.le_of_eq q.symm))
      · obtain ⟨o, e, _⟩ := I.W_live q
        exact absurd (Heap.lt_size e) (Nat.not_lt.mpr hge)
  | some cv =>
    obtain ⟨q, r⟩ := hc _ _ hf
    obtain ⟨c, o, vs, t, rfl, e1, d, k⟩ := id r
    refine kla_makeFunctionHit hcl I.env.globals g.g code g.code hP ht hf g.bat fun ctv h' tk hx hge => ?_
    have x : Step X.G F [] s { s with heap := h' } := Step.of_keep (h' := h') (tk := s.toks) hx
    have hn : ({ s with heap := h' } : Shared).heap.get? h'.objs.size = none := fresh_ge (Nat.le_refl _)
    refine (fun K => ⟨_, _, rfl, K.1, ⟨_, _, _, _, _, rfl⟩, K.2.1, K.2.2⟩) (I.ownAny (w := .fn { cls := .type "function", data := .func (kla_fn "<lambda>" (env.qual ++ "<lambda>") params body sc [] ((X.G.mg "__name__").getD .none) (.ref c) ctv) }) x hn (step_pushT (tk := tk)) fun _ => ?_)
    · refine .fn (Heap.get?_push_size _ rfl) rfl rfl rfl (fun q => ?_) ((r.keeps hx).push _)
      rcases List.mem_cons.mp q with q | q
      · exact absurd (Heap.lt_size (hx _ _ e1)) (Nat.not_lt.mpr (Nat.le_of_eq q.symm))
      · obtain ⟨p, hp, e2⟩ := List.mem_map.mp q
        obtain ⟨a', w'⟩ := p
        rw [← e2] at e1
        have hO : OwnAt (wOf X.σ) s.heap a' w' := I.sig.at_ _ hp
        replace e1 : s.heap.get? a' = some o := e1
        cases hO with
        | list h1 _ => obtain ⟨o', e', _, n, d'⟩ := h1.1; rw [e1] at e'; cases e'; rw [d] at d'; cases d'
        | iter h1 _ _ _ =>
          obtain ⟨o', e', _, d'⟩ := h1
          rw [e1] at e'; cases e'; rw [d] at d'; cases d'; simp at k
        | fn e' _ d' _ _ _ => rw [e1] at e'; cases e'; rw [d] at d'; cases d'
/-- a call with a fresh lambda as its one keyword -/
theorem EvM.callLam {Ψ : D → Sig → Prop} {fe e : Expr} {es : List Expr} {f : Value} {kn : Str} {kp : Pos} {ds : List D} {params : Arguments} {body : Expr} {sc : Scope} {lpos pos : Pos} (hf : Ev X fe (.fn f)) (ha : Evs X (e :: es) ds) (hcd : X.cd = .ref X.G.C)
    (hc : ∀ l o, l ∉ wOf X.σ → LamFn params body sc o → CallsM X.G X.n ((l, .fn o) :: X.σ) V f ds [(kn, .ref l)] (fun d σ' => ∃ σ₁, σ' = (l, .fn o) :: σ₁ ∧ Ψ d σ₁)) (hV : ∀ a ∈ V, a ∈ wOf X.σ) (hΨ : ∀ d σ', Ψ d σ' → ∀ a ∈ wOf σ', a ∈ wOf X.σ) (hk : KeepV X.G X.n X.σ f) (hp : plainEs (e :: es) = true := by rfl)
    (hcl : ∀ env, closureFor sc env = pure [] := by intro _; rfl) (hdef : ∀ env, defaultsOf params env = ([], []) := by intro _; rfl)
    (hn : ∀ env, eval (.Call fe (e :: es) [⟨some kn, .Lambda params body sc lpos, kp⟩] pos) env = (do callWith pos (← eval fe env) [] (backTo pos (starEach (e :: es) env)) (backToKw pos (keywordEach [⟨some kn, .Lambda params body sc lpos, kp⟩] env))) := by intro _; rfl) :
    EvM X V (.Call fe (e :: es) [⟨some kn, .Lambda params body sc lpos, kp⟩] pos) Ψ := by
  intro A env F s I
  rw [hn]
  refine wpAny_bind (wpAny_mono (hf A env F s I) (fun v s₁ ⟨x₁, r⟩ => ?_) fun _ _ e => e)
  have e := r.fnI
  subst v
  have I₁ := I.step x₁
  obtain ⟨h1, h2⟩ := starEach_of env hp
  refine callWith_of (P := fun h => ∃ k, (k = Keeper.frame ∨ k = Keeper.machine ∨ k = Keeper.boundFrame) ∧ Looks (model X.G.prog X.G.w) h (keeperOf f) k) ?_ (fun _ q => q) ?_
  · rw [h1]
    show ((false || (backTo pos (starEach es env)).any (·.1)) || false) = false
    rw [any_star env pos es h2]; rfl
  · refine evalArgs_kw2 (by rfl) (wpAny_mono (ha A env F s₁ pos I₁) (fun vs s₂ ⟨x₂, rs⟩ => ?_) fun _ _ e => e) h1
    have I₂ := I₁.step x₂
    refine kwAll_cons (wpAny_mono (lam_new I₂ hcd (hcl env) (hdef env)) (fun w s₃ ⟨l, o, hw, hln, hlam, x₃, I₃'⟩ => ?_) fun _ _ e => e)
    subst hw
    have I₃ := I₂.step x₃
    have hlW : l ∉ wOf X.σ := I₂.notW hln
    refine kwAll_nil ⟨hk A F s₃ I₃.g, ?_⟩
    show wpAny _ A (PySem.call f vs [(kn, .ref l)]) _ _ s₃
    have rs' : Reps (l :: wOf X.σ) s₃.heap vs ds := (rs.grow hln).mono (fun b xs hb hl => ⟨hb, x₃.plist I₂.good (fun q => absurd q List.not_mem_nil) hl⟩) fun b xs ht => x₃.tuple I₂.good (fun q => absurd q List.not_mem_nil) ht
    refine wpAny_mono (hc l o hlW hlam A F s₃ _ I₃'.g rs') (fun v s₄ ⟨x₄, d, σ', g, r₄, σ₁, e₁, q⟩ => ?_) fun _ _ e => e
    subst e₁
    have hin : ∀ a ∈ wOf ((l, Own.fn o) :: σ₁), a ∈ wOf ((l, Own.fn o) :: X.σ) := fun a ha => by
      rcases List.mem_cons.mp ha with rfl | ha
      · exact .head _
      · exact .tail _ (hΨ d σ₁ q a ha)
    have I₄ := I₃'.after (X := X.setσ ((l, .fn o) :: X.σ)) (σ' := (l, .fn o) :: σ₁) x₄ (fun a ha => .tail _ (hV a ha)) hin g.sig
    refine ⟨d, σ₁, ((x₁.trans x₂).trans x₃).weak.trans x₄, In.weakσ (X := X.setσ ((l, .fn o) :: σ₁)) I₄ (fun p hp => .tail _ hp) (List.nodup_cons.mp g.sig.nodup).2, r₄.less (fun a ha => .tail _ ha), q⟩
end
end Mine
end
section
open PySem PySem.W PySem.Calls PyProof.Rows PySem.Builtin
namespace Mine

/-- an exception is on its way: the frames l stand yet; F: the frames' names, V: what may have turned -/
def Fly (G : Gd) (F V : List Addr) (l : List Env) (s s' : Shared) (a : Addr) (cls : Value) (ws : List Value) : Prop :=
  ∃ base t, Heap.FlyingW base l a cls (.ref t) s'.heap ∧ s'.heap.TupAt t ws ∧ base.get? t = none ∧ (∀ b o, b ≠ G.T → b ∉ F → b ∉ V → s.heap.get? b = some o → base.get? b = some o) ∧
    s.heap.UpToSlots s'.heap ∧ TabInv G base ∧ ∃ h tk, s' = { s with heap := h, toks := tk }
/-- an exception was just made behind some steps -/
def Made (G : Gd) (F V : List Addr) (s s' : Shared) (a : Addr) (cls : Value) (ws : List Value) : Prop :=
  ∃ s₁, Step G F V s s₁ ∧ s.heap.UpToSlots s₁.heap ∧ Heap.MadeExcOf s₁.heap s'.heap a cls ws ∧ ∃ h, s' = { s₁ with heap := h }
/-- a call raises -/
def CallR (G : Gd) (n : Nat) (σ : Sig) (V : List Addr) (f : Value) (ds : List D) (kw : List (Str × Value)) (cls : Value) (P : List Value → Prop) : Prop :=
  ∀ A F s vs outer, GIn G n σ A F s → A.frames = some outer → Reps (wOf σ) s.heap vs ds → wpAny (model G.prog G.w) A (call f vs kw) (fun _ _ => False) (fun e s' => ∃ a ws, e = .ref a ∧ P ws ∧ Fly G F V outer s s' a cls ws) s
/-- statements raise -/
def StR (X : Cx) (V : List Addr) (ss : List Stmt) (cls : Value) (P : List Value → Prop) : Prop :=
  ∀ A env F s outer, In X A env F s → A.frames = some (env :: outer) → wpAny (model X.G.prog X.G.w) A (execs ss env) (fun _ _ => False) (fun e s' => ∃ a ws, e = .ref a ∧ P ws ∧ (Made X.G F V s s' a cls ws ∨ Fly X.G F V (env :: outer) s s' a cls ws)) s

theorem upTo_step {G : Gd} {F : List Addr} {s s' : Shared} (x : Step G F [] s s') (g : Good G s) : s.heap.UpToSlots s'.heap := fun b o e hn => by
  have hT : b ≠ G.T := ne_T' g e hn
  obtain ⟨o', e', c, d⟩ := x.data b o hT (fun q => absurd q List.not_mem_nil) e
  have hd := x.dic b o hT (fun q => absurd q List.not_mem_nil) e o' e'
  obtain ⟨c1, d1, k1, l1⟩ := o
  obtain ⟨c2, d2, k2, l2⟩ := o'
  simp only at c d hd
  subst c d hd
  exact ⟨l2, e'⟩

section
variable {G : Gd} {n : Nat} {A : Around} {F V : List Addr} {s s' : Shared} {h : Heap}
theorem Room.fun_ {base : Heap} (r : Room G n A F h) (hb : ∀ L ∈ F, base.get? L = none) {l : List Env} (hl : A.frames = some l) : h.FunFrames base l := by
  obtain ⟨outer, h1, h2, h3⟩ := r.frames
  rw [hl] at h1; cases h1
  have : ∀ k : List Env, (∀ e ∈ k, e ∈ l) → h.FunFrames base k := by
    intro k
    induction k with
    | nil => intro _; trivial
    | cons e k ih =>
      intro hk
      obtain ⟨hkind, L, hL⟩ := h3 e (hk e (.head _))
      have hLF : L ∈ F := by rw [h2]; exact List.mem_filterMap.mpr ⟨e, hk e (.head _), hL⟩
      obtain ⟨_, _, o, es, ep, e1, d1⟩ := r.fresh L hLF
      exact ⟨by rw [hkind]; decide, ⟨L, o, hL, hb L hLF, e1, fun vs q => by rw [d1] at q; cases q⟩, ih fun x hx => hk x (.tail _ hx)⟩
  exact this l fun _ h => h
theorem tab_hide (g : Good G s) (hF : ∀ L ∈ F, ∃ o es ep, s.heap.get? L = some o ∧ o.data = .dict es ep) : TabInv G (hideAll s.heap F) := by
  refine tabInv_keep (fun b o e k => hideAll_get _ e fun q => ?_) g.tab
  obtain ⟨o', es, ep, e', d⟩ := hF b q
  rw [e] at e'; cases e'
  rcases k with rfl | ⟨vs, k⟩
  · obtain ⟨ps, h1, _⟩ := g.tab
    rw [h1] at e; cases e; cases d
  · rw [k] at d; cases d

/-- a made exception leaves its frame -/
theorem leave_made {env : Env} {outer : List Env} {a L : Addr} {cls : Value} {ws : List Value} {E : Value → Shared → Prop} {Q : Unit → Shared → Prop} (g : Good G s) (r : Room G n A F s.heap) (hfr : A.frames = some (env :: outer)) (hf : env.frame = some L) (hV : ∀ L ∈ F, L ∉ V) (hVn : ∀ b ∈ V, G.s1.heap.get? b = none)
    (m : Made G F V s s' a cls ws) (hQ : ∀ s'', Fly G F V outer s s'' a cls ws → Q () s'') : wpAny (model G.prog G.w) A (leaving env (.ref a)) Q E s' := by
  obtain ⟨s₁, x, hup, hx, h, rfl⟩ := m
  have r₁ := r.step x fun b hb => .inl fun q => hV b q hb
  have g₁ : Good G s₁ := g.step r.freshF hVn x
  have hnone : ∀ L ∈ F, (hideAll s₁.heap F).get? L = none := fun L hL => hideAll_none _ hL
  refine wpAny_leaves_madeW (base := hideAll s₁.heap F) hfr hf (fun b o e => of_hideAll _ e) (r₁.fun_ hnone hfr) hx fun h' t x1 x2 x3 x4 => hQ _ ⟨hideAll s₁.heap F, t, x1, x2, x3, fun b o hT hbF hbV e => hideAll_get _ (x.keep b o hT hbF hbV e) hbF, ?_, tab_hide g₁ r₁.dicts, ?_⟩
  · exact (hup.trans (Heap.UpToSlots.of_keeps hx.keeps)).trans x4
  · obtain ⟨h1, t1, rfl⟩ := x.same
    exact ⟨h', t1, rfl⟩
/-- one that came from a call leaves its frame -/
theorem leave_fly {env : Env} {outer : List Env} {a L : Addr} {cls : Value} {ws : List Value} {E : Value → Shared → Prop} {Q : Unit → Shared → Prop} (hfr : A.frames = some (env :: outer)) (hf : env.frame = some L)
    (m : Fly G F V (env :: outer) s s' a cls ws) (hQ : ∀ s'', Fly G F V outer s s'' a cls ws → Q () s'') : wpAny (model G.prog G.w) A (leaving env (.ref a)) Q E s' := by
  obtain ⟨base, t, f, k1, k2, k3, k4, k5, h, tk, rfl⟩ := m
  exact wpAny_leaves_onW hfr hf f fun h' x1 x2 => hQ _ ⟨base, t, x1, k1.of_slots x2, k2, k3, k4.trans x2, k5, h', tk, rfl⟩
/-- the same told of an earlier state -/
theorem Fly.before {F' : List Addr} {l : List Env} {s₀ : Shared} {a : Addr} {cls : Value} {ws : List Value} (m : Fly G F' V l s s' a cls ws) (x : Step G F [] s₀ s) (g : Good G s₀) (hF : ∀ b ∈ F', s₀.heap.get? b ≠ none → b ∈ F) : Fly G F V l s₀ s' a cls ws := by
  obtain ⟨base, t, f, k1, k2, k3, k4, k5, h, tk, rfl⟩ := m
  obtain ⟨h1, t1, e1⟩ := x.same
  refine ⟨base, t, f, k1, k2, fun b o hT hbF hbV e => k3 b o hT (fun q => hbF (hF b q (by rw [e]; exact Option.some_ne_none _))) hbV (x.keep b o hT hbF (fun q => absurd q List.not_mem_nil) e), (upTo_step x g).trans k4, k5, h, tk, by rw [e1]⟩
theorem Made.before {s₀ : Shared} {a : Addr} {cls : Value} {ws : List Value} (m : Made G F V s s' a cls ws) (x : Step G F [] s₀ s) (g : Good G s₀) : Made G F V s₀ s' a cls ws := by
  obtain ⟨s₁, y, hup, hx, h, rfl⟩ := m
  exact ⟨s₁, x.weak.trans y, (upTo_step x g).trans hup, hx, h, rfl⟩
end

/-- a def whose body raises -/
theorem CallR.of_body {G : Gd} {n : Nat} {σ : Sig} {V : List Addr} {a : Addr} {body : List Stmt} {sc : Scope} {cd : Value} {fd : FuncData} {ds : List D} {kw : List (Str × Value)} {cls : Value} {P : List Value → Prop} {xs : List Str} {es : List D}
    (K : FnK G a body sc cd fd) (bind : ∀ s vs, G.K.In s.heap → vs.length = ds.length → ∃ ws, BindsTo s fd ⟨vs, kw⟩ (xs.zip ws) ∧ (Reps (wOf σ) s.heap vs ds → Reps (wOf σ) s.heap ws es))
    (hx : namesOk sc xs = true) (hnd : xs.Nodup) (hnice : ∀ x ∈ xs, niceName x) (hlen : xs.length = es.length) (hV : ∀ a ∈ V, a ∈ wOf σ)
    (hb : StR ⟨G, n, sc, cd, xs.zip es, σ⟩ V body cls P) : CallR G (n + 1) σ V (.ref a) ds kw cls P := by
  intro A F s vs outer g hfr rs
  refine enter_fn K bind hx hnd hnice hlen g rs fun env s₁ I e_fr x1 hnew => ?_
  have hfr' := Around.frames_deeper (env := env) hfr
  refine wpAny_mono (hb (A.deeper env) env (s.heap.objs.size :: F) s₁ outer I hfr') (fun _ _ e => e.elim) fun e s' o => ?_
  obtain ⟨a', ws, rfl, hP, o⟩ := o
  have fin : ∀ s'', Fly G (s.heap.objs.size :: F) V outer s₁ s'' a' cls ws → ∃ a ws, (Value.ref a' = .ref a) ∧ P ws ∧ Fly G F V outer s s'' a cls ws := fun s'' m =>
    ⟨a', ws, rfl, hP, m.before x1 g.good fun b hb hne => by
      rcases List.mem_cons.mp hb with rfl | hb
      · exact absurd (hnew _ (.head _)) hne
      · exact hb⟩
  rcases o with m | m
  · refine leave_made I.good I.room hfr' e_fr (fun L hL q => ?_) (fun b hb => I.own b (hV b hb)) m fin
    obtain ⟨_, _, o, es, ep, e, d⟩ := I.room.fresh L hL
    obtain ⟨o', e', _, nd, _⟩ := I.W_live (hV L q)
    rw [e] at e'; cases e'; exact nd _ _ d
  · exact leave_fly hfr' e_fr m fin

end Mine
end
section
open PySem PySem.W PySem.Calls PyProof.Rows PySem.Builtin
namespace Mine

/-- what is raised from the state s on, in the frame env -/
def Rz (G : Gd) (V : List Addr) (env : Env) (outer : List Env) (F : List Addr) (s : Shared) (cls : Value) (P : List Value → Prop) (e : Value) (s' : Shared) : Prop :=
  ∃ a ws, e = .ref a ∧ P ws ∧ (Made G F V s s' a cls ws ∨ Fly G F V (env :: outer) s s' a cls ws)
def EvR (X : Cx) (V : List Addr) (e : Expr) (cls : Value) (P : List Value → Prop) : Prop :=
  ∀ A env F s outer, In X A env F s → A.frames = some (env :: outer) → wpAny (model X.G.prog X.G.w) A (eval e env) (fun _ _ => False) (Rz X.G V env outer F s cls P) s
def StR1 (X : Cx) (V : List Addr) (st : Stmt) (cls : Value) (P : List Value → Prop) : Prop :=
  ∀ A env F s outer, In X A env F s → A.frames = some (env :: outer) → wpAny (model X.G.prog X.G.w) A (exec st env) (fun _ _ => False) (Rz X.G V env outer F s cls P) s

section
variable {X : Cx} {V : List Addr} {cls : Value} {P : List Value → Prop}
theorem Rz.before {G : Gd} {env : Env} {outer : List Env} {F : List Addr} {s₀ s s' : Shared} {e : Value} (m : Rz G V env outer F s cls P e s') (x : Step G F [] s₀ s) (g : Good G s₀) : Rz G V env outer F s₀ cls P e s' := by
  obtain ⟨a, ws, rfl, hP, m⟩ := m
  exact ⟨a, ws, rfl, hP, m.elim (fun m => .inl (m.before x g)) fun m => .inr (m.before x g fun _ h _ => h)⟩
theorem StR.cons {st : Stmt} {rest : List Stmt} (h : StR1 X V st cls P) : StR X V (st :: rest) cls P := fun A env F s outer I hf =>
  wpAny_execs_cons (wpAny_mono (h A env F s outer I hf) (fun fl s' e => e.elim) fun _ _ e => e)
theorem StR1.ifs {c : Expr} {body orelse : List Stmt} {pos : Pos} (hc : Tv X c true) (h : StR X V body cls P) : StR1 X V (.If c body orelse pos) cls P := fun A env F s outer I hf =>
  wpAny_If (wpAny_mono (hc A env F s I) (fun b' s₁ ⟨x₁, e⟩ => by
    subst e
    exact wpAny_mono (h A env F s₁ outer (I.step x₁) hf) (fun _ _ e => e) fun e s' m => Rz.before m x₁ I.good) fun _ _ e => e.elim)
theorem StR1.assign {y : Str} {py pos : Pos} {e : Expr} (he : EvR X V e cls P) (hs : ∀ env, env.scope = X.sc → swapsWith e (some (.Name y py)) pos.line env = pure false := by intro _ _; rfl) : StR1 X V (.Assign [.Name y py] e pos) cls P := fun A env F s outer I hf =>
  wpAny_Assign_Name (wpAny_mono (he A env F s outer I hf) (fun _ _ e => e.elim) fun _ _ e => e) (hs env I.env.scope)
/-- the arguments are evaluated, then the call raises -/
theorem callWith_okE {A : Around} {env : Env} {F : List Addr} {s : Shared} {f : Value} {first : List Value} {e : Expr} {es : List Expr} {ds : List D} {pos : Pos} {Q E : Value → Shared → Prop} (I : In X A env F s) (ha : Evs X (e :: es) ds) (hp : plainEs (e :: es) = true) (hk : KeepV X.G X.n X.σ f)
    (h : ∀ vs s', Step X.G F [] s s' → Reps (wOf X.σ) s'.heap vs ds → wpAny (model X.G.prog X.G.w) A (call f (first ++ vs)) Q E s') :
    wpAny (model X.G.prog X.G.w) A (callWith pos f first (backTo pos (starEach (e :: es) env)) []) Q E s := by
  obtain ⟨h1, h2⟩ := starEach_of env hp
  have q := ha A env F s pos I
  rw [h1] at q ⊢
  refine callWith_of (P := fun h => ∃ k, (k = Keeper.frame ∨ k = Keeper.machine ∨ k = Keeper.boundFrame) ∧ Looks (model X.G.prog X.G.w) h (keeperOf f) k) (by show ((false || (backTo pos (starEach es env)).any (·.1)) || false) = false; rw [any_star env pos es h2]; rfl) (fun _ q => q) (evalArgs_plain (wpAny_mono q (fun vs s' ⟨x, r⟩ => ⟨hk A F s' (I.step x).g, ?_⟩) fun _ _ e => e.elim))
  exact h vs s' x r
theorem EvR.call {fe e : Expr} {es : List Expr} {f : Value} {ds : List D} {pos : Pos} (hf : Ev X fe (.fn f)) (ha : Evs X (e :: es) ds) (hc : CallR X.G X.n X.σ V f ds [] cls P) (hk : KeepV X.G X.n X.σ f) (hn : notAttr fe = true := by rfl) (hp : plainEs (e :: es) = true := by rfl) :
    EvR X V (.Call fe (e :: es) [] pos) cls P := by
  intro A env F s outer I hfr
  rw [eval_Call hn]
  refine wpAny_bind (wpAny_mono (hf A env F s I) (fun v s₁ ⟨x₁, r⟩ => ?_) fun _ _ e => e.elim)
  obtain rfl := r.fnI
  have I₁ := I.step x₁
  refine callWith_okE I₁ ha hp hk fun vs s₂ x₂ rs => ?_
  refine wpAny_mono (hc A F s₂ _ (env :: outer) (I₁.step x₂).g hfr rs) (fun _ _ e => e) fun e s' m => ?_
  obtain ⟨a, ws, rfl, hP, m⟩ := m
  exact Rz.before (s := s₂) ⟨a, ws, rfl, hP, .inr m⟩ (x₁.trans x₂) I.good
/-- raise of a built-in exception with one text -/
theorem StR1.raise {cn newId initId : String} (Fc : ExcCallFacts cn newId initId) (Gr : ExcRaiseFacts cn) {x : Str} {np cpos pos : Pos} {e : Expr} {d : D} (hf : Ev X (.Name x np) (.fn (.type cn))) (he : Ev X e d) (hp : plainEs [e] = true := by rfl) :
    StR1 X V (.Raise (some (.Call (.Name x np) [e] [] cpos)) none pos) (.type cn) (fun ws => ∃ v, ws = [v] ∧ ∀ y, d = .str y → ∃ t, v = .str y t) := by
  intro A env F s outer I hfr
  obtain ⟨h1, h2⟩ := starEach_of env hp
  refine wpAny_Raise_call Fc Gr I.room.handled (by rw [h1]; rfl) (wpAny_mono (hf A env F s I) (fun v s₁ ⟨x₁, r⟩ => ?_) fun _ _ e => e.elim)
  obtain rfl := r.fnI
  have I₁ := I.step x₁
  refine ⟨rfl, ?_⟩
  have q : Evs X [e] [d] := Evs.cons he Evs.nil fun env => (starEach_of env hp).1
  have q' := q A env F s₁ cpos I₁
  rw [h1] at q' ⊢
  refine evalArgs_plain (wpAny_mono q' (fun vs s₂ ⟨x₂, rs⟩ => ?_) fun _ _ e => e.elim)
  obtain ⟨v, rfl, r⟩ : ∃ v, vs = [v] ∧ Rep (wOf X.σ) s₂.heap v d := rs.oneI
  refine ⟨rfl, by show 1 ≤ sizeLine; decide, fun h' a hm => ⟨a, [v], rfl, ⟨v, rfl, fun y q => by subst q; exact r.strI⟩, .inl ?_⟩⟩
  exact ⟨s₂, (x₁.trans x₂).weak, upTo_step (x₁.trans x₂) I.good, hm.of, h', rfl⟩

/-- next of an owned iterator at its end -/
theorem EvR.next {fe e : Expr} {pos : Pos} {a : Addr} {ds : List D} {i : Nat} (hf : Ev X fe (.fn (.builtin "next"))) (he : Ev X e (.fn (.ref a))) (ha : (a, Own.iter ds i) ∈ X.σ) (haV : a ∈ V) (hd : ds.length ≤ i)
    (hn : notAttr fe = true := by rfl) (hp : plainEs [e] = true := by rfl) : EvR X V (.Call fe [e] [] pos) (.type "StopIteration") (fun ws => ws = []) := by
  intro A env F s outer I hfr
  rw [eval_Call hn]
  refine wpAny_bind (wpAny_mono (hf A env F s I) (fun v s₁ ⟨x₁, r⟩ => ?_) fun _ _ e => e.elim)
  obtain rfl := r.fnI
  have I₁ := I.step x₁
  refine callWith_okE I₁ (Evs.cons he Evs.nil (fun env => (starEach_of env hp).1)) hp keepB fun vs s₂ x₂ rs => ?_
  obtain ⟨_, rfl, r1⟩ := rs.oneI
  obtain rfl := r1.fnI
  have I₂ := I₁.step x₂
  cases I₂.sig.at_ _ ha with
  | iter hit hlW hl hr =>
    rename_i l vs
    have hx : vs.toArray[i]? = none := by simp [hr.len, hd]
    have hT : a ≠ X.G.T := by
      obtain ⟨o, e, c, d⟩ := hit
      exact ne_T I₂.good e (by rw [c]; exact fun q => Value.noConfusion q)
    obtain ⟨o, ho, hc, hdd⟩ := id hit
    obtain ⟨ol, hol, _, nl, hdl⟩ := hl.1
    refine call_function_entry (by decide +kernel) (by decide +kernel) kdk_entry_next (kdk_args_next _) ?_
    unfold Builtin.«next»
    refine wpAny_bind (m := someArgs "next" 1 2 _) (wpAny_of_eq (a := [Value.ref a]) (by first | rfl | kernel_rfl!) ?_)
    dsimp only
    refine wpAny_bind (wpAny_specialOf (name := Str.ofString "__next__") hit.typeIs slot_listiter_next.lookup ?_)
    refine wpAny_ite_split (fun hab => absurd hab (by decide)) (fun _ => ?_)
    refine wpAny_bind (wpAny_callSpecial?_slot (name := Str.ofString "__next__") hit.typeIs slot_listiter_next (wpAny_call_entry slot_listiter_next hit.typeIs entry_listiter_next ?_ (args_listiter_next _)))
    show wpAny _ _ (field (.ref a) 0 >>= _) _ _ s₂
    refine wpAny_bind (wpAny_field ho hdd (x := .ref l) rfl ?_)
    show wpAny _ _ (if (Value.ref l == Value.none) = true then _ else _) _ _ s₂
    rw [if_neg (show ¬ ((Value.ref l == Value.none) = true) from Bool.false_ne_true)]
    show wpAny _ _ (field (.ref a) 1 >>= _) _ _ s₂
    refine wpAny_bind (wpAny_field ho hdd (x := .int i 0) rfl ?_)
    show wpAny _ _ (seqItems? (.ref l) >>= _) _ _ s₂
    refine wpAny_bind (wpAny_seqItems hol hdl ?_)
    simp only [Int.toNat_natCast, hx]
    refine wpAny_bind (wpAny_rule (wpAny_bind (wpAny_setField ho hdd (by simp) ?_)))
    show wpAny _ _ (newExc (.type "StopIteration") [] >>= _) _ _ _
    refine wpAny_bind ?_
    simp only [newExc, newTuple]
    refine wpAny_bind (wpAny_newObj_type ?_ (by size_fits))
    refine wpAny_bind (m := firstArgMember _ _) (wpAny_of_eq (a := Value.none) (by first | rfl | (simp only [firstArgMember]; rfl)) ?_)
    refine wpAny_newObj_type ?_ (by size_fits)
    simp only [raiseNew]
    refine wpAny_bind (wpAny_handled ?_)
    have hh : A.handled = none := I.room.handled
    first | rw [show A.in1.handled = none from hh] | rw [hh]
    refine wpAny_bind (wpAny_pure (wpAny_throw ?_))
    refine Rz.before (s := s₂) ?_ (x₁.trans x₂) I.good
    have hfo : ∀ o', s₂.heap.get? a = some o' → ∀ vs, o'.data = .fields vs → ∀ x t, vs[1]? ≠ some (.str x t) := fun o' e vs' d' x t => by
      rw [ho] at e; cases e; rw [hdd] at d'; cases d'; simp
    have hsb : Heap.SameBut a s₂.heap (s₂.heap.update a (Obj.mapFields (·.setIfInBounds 0 .none))) := Heap.SameBut.update ..
    refine ⟨_, [], rfl, rfl, .inl ⟨{ s₂ with heap := s₂.heap.update a (Obj.mapFields (·.setIfInBounds 0 .none)) }, ?_, ?_, ⟨fun b o hb => Heap.get?_push_of_some _ (Heap.get?_push_of_some _ hb), Heap.get?_none_of_le (by simp), _, Heap.get?_push_size _ rfl, Heap.get?_none_of_le (Nat.le_refl _), Heap.get?_push_of_some _ (Heap.get?_push_size _ rfl)⟩, _, rfl⟩⟩
    · have ht : Turner s₂.heap a := ⟨o, _, ho, by rw [hc]; exact fun q => Value.noConfusion q, hdd, fun x t => by simp⟩
      have y : Step X.G F [a] s₂ { s₂ with heap := s₂.heap.update a (Obj.mapFields (·.setIfInBounds 0 .none)) } := Step.of_turn (tk := s₂.toks) I₂.good (fun b o hb e => hsb.extBut b o (fun q => hb (by rw [q]; exact .head _)) e) fun b hb => by rw [List.mem_singleton.mp hb]; exact ht
      exact y.mono (fun _ h _ => .inl h) fun b hb _ => by rw [List.mem_singleton.mp hb]; exact haV
    · intro b ob e hn
      exact ⟨ob.slots, hsb.extBut b ob (fun q => by subst q; rw [ho] at e; cases e; exact hn _ hdd) e⟩
end
end Mine
end
section
local macro_rules | `(tactic| omega) => `(tactic| lia)
open PySem PySem.W PySem.Calls PyProof.Rows PySem.Builtin
namespace Mine

section
variable {G : Gd} {n : Nat} {A : Around} {F V : List Addr} {s s' : Shared} {l : List Env} {a : Addr} {cls : Value} {ws : List Value}
theorem Fly.step (m : Fly G F V l s s' a cls ws) (hF : ∀ L ∈ F, ∃ o es ep, s.heap.get? L = some o ∧ o.data = .dict es ep) : Step G F V s s' := by
  obtain ⟨base, t, f, k1, k2, k3, k4, k5, h, tk, rfl⟩ := m
  have kk : ∀ b o, b ≠ G.T → b ∉ F → b ∉ V → s.heap.get? b = some o → h.get? b = some o := fun b o h1 h2 h3 e => f.1 b o (k3 b o h1 h2 h3 e)
  have up : ∀ b o, b ≠ G.T → b ∉ V → s.heap.get? b = some o → ∃ sl, h.get? b = some { o with slots := sl } := fun b o h1 h2 e => by
    by_cases hb : b ∈ F
    · obtain ⟨o', es, ep, e', d⟩ := hF b hb
      rw [e] at e'; cases e'
      exact k4 b o e fun vs q => by rw [d] at q; cases q
    · exact ⟨o.slots, kk b o h1 hb h2 e⟩
  refine ⟨⟨h, tk, rfl⟩, kk, fun b o h1 h2 e => ?_, fun _ => tabInv_keep (fun b o e _ => f.1 b o e) k5, fun b o h1 h2 e o' e' => ?_⟩
  · obtain ⟨sl, e'⟩ := up b o h1 h2 e
    exact ⟨_, e', rfl, rfl⟩
  · obtain ⟨sl, e''⟩ := up b o h1 h2 e
    rw [show ({ s with heap := h, toks := tk } : Shared).heap = h from rfl, e''] at e'; cases e'; rfl
/-- the exception's record and its arguments -/
theorem Fly.exc {X : String} (m : Fly G F V l s s' a (.type X) ws) : ∃ t, s'.heap.ExcAt a X (.ref t) ∧ s'.heap.TupAt t ws := by
  obtain ⟨base, t, f, k1, _⟩ := m
  obtain ⟨oe, vs, e1, e2, e3, e4⟩ := f.first
  exact ⟨t, ⟨oe, vs, e1, e2, e3, e4⟩, k1⟩

/-- a built-in name, wherever it is read -/
theorem blt_good {M : Model} {A' : Around} {env : Env} {x : Str} {pos : Pos} {v : Value} {Q E : Value → Shared → Prop} (g : Good G s) (hk : env.scope.kind = .function) (hg : env.globals = mainGlobals) (hbn : env.builtins = builtinsNs) (hl : env.kindOf x = some .globalImplicit)
    (h : nsIn G.K mainGlobals x = some Option.none) (hb : bootBuiltins x = some v) (hn : x ≠ "__name__") (hx : (x == ("__debug__" : Str)) = false) (q : Q v s) : wpAny M A' (eval (.Name x pos) env) Q E s := by
  refine wpAny_Name ?_ hx
  rw [loadName_glob hk hl]
  unfold loadGlobal
  refine wpAny_bind (wpAny_nsGet (by rw [hg]; exact g.g) ?_)
  rw [mg_none' g.ok h]
  refine wpAny_bind (wpAny_nsGet (by rw [hbn]; exact g.b) ?_)
  rw [g.ok.mbs x hn, hb]
  exact wpAny_pure q
end

section
variable {X : Cx} {A : Around} {env : Env} {F V : List Addr} {s s' : Shared} {outer : List Env} {a : Addr} {ws : List Value} {XN T' : String} {x : Str} {np pos : Pos} {b₀ : Stmt} {suite : List Stmt} {rest : List ExceptHandler} {Q : Flow → Shared → Prop} {E : Value → Shared → Prop}
/-- an exception on its way is caught: up to the test of the handler -/
theorem caught_pre {hs : List ExceptHandler} (hfr : A.frames = some (env :: outer)) (hfL : ∃ L, env.frame = some L) (m : Fly X.G F V (env :: outer) s s' a (.type XN) ws)
    (k : ∀ s₅, Fly X.G F V (env :: outer) s s₅ a (.type XN) ws → wpAny (model X.G.prog X.G.w) A (handleBy (.ref a) env hs) Q E s₅) :
    wpAny (model X.G.prog X.G.w) A (noteFrame (.ref a) env) (fun _ s₂ => wpAny (model X.G.prog X.G.w) A (setFlight (.ref a) none) (fun _ s₃ => wpAny (model X.G.prog X.G.w) A (handleBy (.ref a) env hs) Q E s₃) E s₂) E s' := by
  obtain ⟨L, hf⟩ := hfL
  obtain ⟨base, t, f, k1, k2, k3, k4, k5, h, tk, rfl⟩ := m
  refine wpAny_looks_onW hfr hf f fun h₄ hheld u₄ => ?_
  refine wpAny_landsW hheld fun h₅ hfl u₅ => ?_
  exact k _ ⟨base, t, hfl, (k1.of_slots u₄).of_slots u₅, k2, k3, (k4.trans u₄).trans u₅, k5, h₅, tk, rfl⟩
/-- the handler takes it, without a name -/
theorem caught_0 (hV : ∀ b ∈ V, X.G.s1.heap.get? b = none) (I : In X A env F s) (hx : X.sc.names.lookup x = some .globalImplicit) (hK : nsIn X.G.K mainGlobals x = some Option.none) (hb : bootBuiltins x = some (.type T')) (hn : x ≠ "__name__") (hd : (x == ("__debug__" : Str)) = false)
    (hexc : isSubtype (.type T') (.type "BaseException") = pure true) (hnt : isSubtype (.type ((Manifest.find? T').elim "type" fun y => y.metatype)) (.type "tuple") = pure false) (hsub : isSubtype (.type XN) (.type T') = pure true)
    (m : Fly X.G F V (env :: outer) s s' a (.type XN) ws)
    (k : ∀ s₆, Fly X.G F V (env :: outer) s s₆ a (.type XN) ws → wpAny (model X.G.prog X.G.w) (A.mark (some (.ref a))) (execs (b₀ :: suite) env) Q (fun _ _ => False) s₆) :
    wpAny (model X.G.prog X.G.w) A (handleBy (.ref a) env (.ExceptHandler (some (.Name x np)) none (b₀ :: suite) pos :: rest)) Q E s' := by
  have g' : Good X.G s' := I.good.step I.room.freshF hV (m.step I.room.dicts)
  refine wpAny_handleBy_builtin (X := XN) (T := T') (b := true) hexc hnt hsub (blt_good g' (by rw [I.env.scope]; exact I.env.kind) I.env.globals I.env.builtins (by unfold Env.kindOf; rw [I.env.scope]; exact hx) hK hb hn hd ⟨rfl, ?_, ?_⟩)
  · obtain ⟨t, q, _⟩ := m.exc
    exact q.typeIs
  · obtain ⟨base, t, f, k1, k2, k3, k4, k5, h, tk, rfl⟩ := m
    refine lands_againW f fun h₆ hfl u₆ => ?_
    exact wpAny_mono (k _ ⟨base, t, hfl, k1.of_slots u₆, k2, k3, k4.trans u₆, k5, h₆, tk, rfl⟩) (fun _ _ q => q) fun _ _ q => q.elim
/-- the handler takes it by a name -/
theorem caught_as {n : Str} (hV : ∀ b ∈ V, X.G.s1.heap.get? b = none) (I : In X A env F s) (hx : X.sc.names.lookup x = some .globalImplicit) (hK : nsIn X.G.K mainGlobals x = some Option.none) (hb : bootBuiltins x = some (.type T')) (hn : x ≠ "__name__") (hd : (x == ("__debug__" : Str)) = false)
    (hexc : isSubtype (.type T') (.type "BaseException") = pure true) (hnt : isSubtype (.type ((Manifest.find? T').elim "type" fun y => y.metatype)) (.type "tuple") = pure false) (hsub : isSubtype (.type XN) (.type T') = pure true)
    (m : Fly X.G F V (env :: outer) s s' a (.type XN) ws)
    (k : ∀ s₆, Fly X.G F V (env :: outer) s s₆ a (.type XN) ws → wpAny (model X.G.prog X.G.w) (A.mark (some (.ref a))) (storeName env n (.ref a)) (fun _ s₃ => wpAny (model X.G.prog X.G.w) (A.mark (some (.ref a))) (execs (b₀ :: suite) env)
      (fun f s₄ => wpAny (model X.G.prog X.G.w) A (do bindName env n .none; unbindBehindTheSuite env n pos) (fun _ s₅ => Q f s₅) E s₄) (fun _ _ => False) s₃) (fun _ _ => False) s₆) :
    wpAny (model X.G.prog X.G.w) A (handleBy (.ref a) env (.ExceptHandler (some (.Name x np)) (some n) (b₀ :: suite) pos :: rest)) Q E s' := by
  have g' : Good X.G s' := I.good.step I.room.freshF hV (m.step I.room.dicts)
  refine wpAny_handleBy_builtin_as (X := XN) (T := T') (b := true) hexc hnt hsub (blt_good g' (by rw [I.env.scope]; exact I.env.kind) I.env.globals I.env.builtins (by unfold Env.kindOf; rw [I.env.scope]; exact hx) hK hb hn hd ⟨rfl, ?_, ?_⟩)
  · obtain ⟨t, q, _⟩ := m.exc
    exact q.typeIs
  · obtain ⟨base, t, f, k1, k2, k3, k4, k5, h, tk, rfl⟩ := m
    refine lands_againW f fun h₆ hfl u₆ => ?_
    exact wpAny_mono (k _ ⟨base, t, hfl, k1.of_slots u₆, k2, k3, k4.trans u₆, k5, h₆, tk, rfl⟩) (fun _ s₃ q => wpAny_mono q (fun _ _ q => q) fun _ _ q => q.elim) fun _ _ q => q.elim

/-- the frame's own names may stand otherwise -/
theorem In.locals {h' : Heap} {m' : Str → Option Value} {tk : Nat} (I : In X A env F s) (hs : Heap.SameBut env.locals s.heap h') (hn : h'.Ns env.locals m') : Step X.G F [env.locals] s { s with heap := h', toks := tk } ∧ In (X.setρ []) A env F { s with heap := h', toks := tk } := by
  obtain ⟨m, hm⟩ := I.env.loc
  obtain ⟨oL, esL, epL, eL, dL, _⟩ := id hm
  have hfL : ∀ o, s.heap.get? env.locals = some o → ∀ vs, o.data ≠ .fields vs := fun o e vs => by rw [eL] at e; cases e; rw [dL]; exact fun q => nomatch q
  have hT : env.locals ≠ X.G.T := ne_T' I.good eL (hfL _ eL)
  have x : Step X.G F [env.locals] s { s with heap := h', toks := tk } := Step.of_but hs.extBut hT hfL
  have hW : env.locals ∉ wOf X.σ := fun q => by obtain ⟨o, e, _, h, _⟩ := I.W_live q; rw [eL] at e; cases e; exact h _ _ dL
  refine ⟨x, I.stepO x ?_ ?_ ?_ (ρ := []) (fun _ p hp => absurd hp List.not_mem_nil) (fun p hp => absurd hp List.not_mem_nil) ⟨_, hn⟩ fun z c e => ?_⟩
  · intro b hb; rw [List.mem_singleton.mp hb]; exact I.env.locNew
  · intro b hb; rw [List.mem_singleton.mp hb]; exact ⟨hW, fun o e => by rw [eL] at e; cases e; rw [dL]; exact ⟨fun _ _ q => Data.noConfusion q, fun _ q => Data.noConfusion q⟩⟩
  · intro b hb; rw [List.mem_singleton.mp hb]
    obtain ⟨o, es, ep, e, d, _⟩ := hn
    exact .inr ⟨o, es, ep, e, d⟩
  · obtain ⟨⟨v', hv'⟩, _⟩ := I.env.cell z c e
    refine ⟨v', hv'.sameBut hs ?_⟩
    rintro rfl
    obtain ⟨o, e, d⟩ := hv'
    rw [eL] at e; cases e; rw [dL] at d; cases d
end

section
variable {X : Cx} {V : List Addr} {Φ : Out → Prop} {cls : Value} {P : List Value → Prop}
/-- a name of the frame's, wherever it is read -/
theorem name_good {A A' : Around} {env : Env} {F : List Addr} {s : Shared} {x : Str} {pos : Pos} {d : D} {Q E : Value → Shared → Prop} (I : In X A env F s) (h : (x, d) ∈ X.ρ) (q : ∀ v, Rep (wOf X.σ) s.heap v d → Q v s) : wpAny (model X.G.prog X.G.w) A' (eval (.Name x pos) env) Q E s := by
  have hx := I.env.nice _ h
  have hk : env.scope.kind = .function := by rw [I.env.scope]; exact I.env.kind
  rcases I.env.names _ h with ⟨k, m, v, h1, h2, h3⟩ | ⟨k | k, c, v, h1, h2, h3⟩
  · exact wpAny_Name (wpAny_loadName_local hk k h1 h2 (q v h3)) hx.1
  · exact wpAny_Name (wpAny_loadName_cell hk k h1 h2 (q v h3)) hx.1
  · exact wpAny_Name (wpAny_loadName_free hk k h1 h2 (q v h3) hx.2) hx.1
/-- statements that let an exception of a call through -/
def StF (X : Cx) (V : List Addr) (ss : List Stmt) (cls : Value) (P : List Value → Prop) : Prop :=
  ∀ A env F s outer, In X A env F s → A.frames = some (env :: outer) → wpAny (model X.G.prog X.G.w) A (execs ss env) (fun _ _ => False) (fun e s' => ∃ a ws, e = .ref a ∧ P ws ∧ Fly X.G F V (env :: outer) s s' a cls ws) s
def EvF (X : Cx) (V : List Addr) (e : Expr) (cls : Value) (P : List Value → Prop) : Prop :=
  ∀ A env F s outer, In X A env F s → A.frames = some (env :: outer) → wpAny (model X.G.prog X.G.w) A (eval e env) (fun _ _ => False) (fun e s' => ∃ a ws, e = .ref a ∧ P ws ∧ Fly X.G F V (env :: outer) s s' a cls ws) s
/-- the body of a def whose frame is the innermost -/
def StTop (X : Cx) (V : List Addr) (ss : List Stmt) (Φ : Out → Prop) : Prop :=
  ∀ A env F s outer, In X A env F s → A.frames = some (env :: outer) → (∃ L, env.frame = some L) → wpAny (model X.G.prog X.G.w) A (execs ss env) (fun fl s' => OutOk X V A env F s s' Φ fl) (fun _ _ => False) s
def StTop1 (X : Cx) (V : List Addr) (st : Stmt) (Φ : Out → Prop) : Prop :=
  ∀ A env F s outer, In X A env F s → A.frames = some (env :: outer) → (∃ L, env.frame = some L) → wpAny (model X.G.prog X.G.w) A (exec st env) (fun fl s' => OutOk X V A env F s s' Φ fl) (fun _ _ => False) s
theorem EvF.call {fe e : Expr} {es : List Expr} {f : Value} {ds : List D} {pos : Pos} (hf : Ev X fe (.fn f)) (ha : Evs X (e :: es) ds) (hc : CallR X.G X.n X.σ V f ds [] cls P) (hk : KeepV X.G X.n X.σ f) (hn : notAttr fe = true := by rfl) (hp : plainEs (e :: es) = true := by rfl) :
    EvF X V (.Call fe (e :: es) [] pos) cls P := by
  intro A env F s outer I hfr
  rw [eval_Call hn]
  refine wpAny_bind (wpAny_mono (hf A env F s I) (fun v s₁ ⟨x₁, r⟩ => ?_) fun _ _ e => e.elim)
  obtain rfl := r.fnI
  have I₁ := I.step x₁
  refine callWith_okE I₁ ha hp hk fun vs s₂ x₂ rs => ?_
  refine wpAny_mono (hc A F s₂ _ (env :: outer) (I₁.step x₂).g hfr rs) (fun _ _ e => e) fun e s' m => ?_
  obtain ⟨a, ws, rfl, hP, m⟩ := m
  exact ⟨a, ws, rfl, hP, m.before (x₁.trans x₂) I.good fun _ h _ => h⟩
theorem StF.expr {pos : Pos} {e : Expr} {rest : List Stmt} (he : EvF X V e cls P) (hs : ∀ env, swapsWith e none pos.line env = pure false := by intro _; rfl) : StF X V (.Expr e pos :: rest) cls P := fun A env F s outer I hf => by
  refine wpAny_execs_cons (wpAny_Expr_any (wpAny_mono (he A env F s outer I hf) (fun _ _ e => e.elim) fun _ _ e => e) ?_ (hs env))
  unfold interactive
  rw [I.env.scope, I.env.kind]; rfl
theorem StTop.cons {G : Gd} {n : Nat} {sc : Scope} {cd : Value} {ρ : Env0} {σ : Sig} {st : Stmt} {rest : List Stmt} (h : St1 ⟨G, n, sc, cd, ρ, σ⟩ V st (fun o => match o with | .next ρ' σ' V' => StTop ⟨G, n, sc, cd, ρ', σ'⟩ V' rest Φ | o => Φ o)) : StTop ⟨G, n, sc, cd, ρ, σ⟩ V (st :: rest) Φ := fun A env F s outer I hf hL => by
  refine wpAny_execs_cons (wpAny_mono (h A env F s I) (fun fl s' h' => ?_) fun _ _ e => e)
  cases fl with
  | next =>
    obtain ⟨ρ, σ, V', a, b, c⟩ := h'
    exact wpAny_mono (c A env F s' outer b hf hL) (fun fl s'' o => o.after a I b) fun _ _ e => e
  | brk => exact h'
  | cont => exact h'
  | ret v => exact h'
/-- a statement behind which nothing is reached -/
theorem StTop.last {st : Stmt} {rest : List Stmt} (h : StTop1 X V st (fun o => match o with | .ret d σ => Φ (.ret d σ) | _ => False)) : StTop X V (st :: rest) Φ := fun A env F s outer I hf hL => by
  refine wpAny_execs_cons (wpAny_mono (h A env F s outer I hf hL) (fun fl s' h' => ?_) fun _ _ e => e)
  cases fl with
  | next => obtain ⟨_, _, _, _, _, c⟩ := h'; exact c.elim
  | brk => obtain ⟨_, _, _, _, _, c⟩ := h'; exact c.elim
  | cont => obtain ⟨_, _, _, _, _, c⟩ := h'; exact c.elim
  | ret v => exact h'
theorem CallsM.of_top {G : Gd} {n : Nat} {σ : Sig} {V : List Addr} {a : Addr} {body : List Stmt} {sc : Scope} {cd : Value} {fd : FuncData} {ds : List D} {kw : List (Str × Value)} {Ψ : D → Sig → Prop} {xs : List Str} {es : List D}
    (K : FnK G a body sc cd fd) (bind : ∀ s vs, G.K.In s.heap → vs.length = ds.length → ∃ ws, BindsTo s fd ⟨vs, kw⟩ (xs.zip ws) ∧ (Reps (wOf σ) s.heap vs ds → Reps (wOf σ) s.heap ws es))
    (hx : namesOk sc xs = true) (hnd : xs.Nodup) (hnice : ∀ x ∈ xs, niceName x) (hlen : xs.length = es.length)
    (hb : StTop ⟨G, n, sc, cd, xs.zip es, σ⟩ V body (fun o => match o with | .ret d σ' => Ψ d σ' | _ => False)) : CallsM G (n + 1) σ V (.ref a) ds kw Ψ := by
  intro A F s vs g rs
  refine enter_fn K bind hx hnd hnice hlen g rs fun env s₁ I e_fr x1 hnew => ?_
  obtain ⟨outer, h1, _⟩ := id g.room.frames
  refine wpAny_mono (hb (A.deeper env) env (s.heap.objs.size :: F) s₁ outer I (Around.frames_deeper h1) ⟨_, e_fr⟩) (fun fl s' o => ?_) fun _ _ e => e.elim
  cases fl with
  | ret v =>
    obtain ⟨ρ', σ', d, M, I', a3, a4⟩ := o
    have st : Step G F V s s' := ((x1.mono (F' := s.heap.objs.size :: F) (O' := ownA env ++ V) (fun _ h _ => .inl (.tail _ h)) (fun _ h _ => absurd h List.not_mem_nil)).trans M.step).mono (fun b hb hne => by
      rcases List.mem_cons.mp hb with rfl | hb
      · exact absurd (hnew _ (.head _)) hne
      · exact .inl hb) fun b hb hne => by
      rcases List.mem_append.mp hb with hb | hb
      · exact absurd (hnew _ (.tail _ hb)) hne
      · exact hb
    exact ⟨st, d, σ', ⟨I'.good, ⟨g.room.handled, g.room.depth, g.room.units, g.room.frames, fun L hL => I'.room.fresh L (.tail _ hL)⟩, I'.sig, I'.own⟩, a3, a4⟩
  | next => obtain ⟨_, _, _, _, _, a4⟩ := o; exact a4.elim
  | brk => obtain ⟨_, _, _, _, _, a4⟩ := o; exact a4.elim
  | cont => obtain ⟨_, _, _, _, _, a4⟩ := o; exact a4.elim

/-- try: a call that raises; except ValueError as n: return str(n) -/
theorem StTop1.refused {e : Expr} {x n y : Str} {ep np p1 p2 p3 p4 pos tpos : Pos} {msg : Str} (hb : StF X [] [.Expr e ep] (.type "ValueError") (fun ws => ∃ t, ws = [.str msg t])) (hx : X.sc.names.lookup x = some .globalImplicit) (hK : nsIn X.G.K mainGlobals x = some Option.none) (hbx : bootBuiltins x = some (.type "ValueError")) (hn : x ≠ "__name__") (hd : (x == ("__debug__" : Str)) = false)
    (hy : X.sc.names.lookup y = some .globalImplicit) (hKy : nsIn X.G.K mainGlobals y = some Option.none) (hby : bootBuiltins y = some (.type "str")) (hny : y ≠ "__name__") (hdy : (y == ("__debug__" : Str)) = false) (hln : X.sc.names.lookup n = some .local) (hnn : niceName n) (h : Φ (.ret (.str msg) X.σ)) :
    StTop1 X [] (.Try [.Expr e ep] [.ExceptHandler (some (.Name x np)) (some n) [.Return (some (.Call (.Name y p1) [.Name n p2] [] p3)) p4] pos] [] [] tpos) Φ := by
  intro A env F s outer I hfr hL
  have hsc : env.scope.kind = .function := by rw [I.env.scope]; exact I.env.kind
  have hkn : env.kindOf n = some .local := by unfold Env.kindOf; rw [I.env.scope]; exact hln
  refine wpAny_Try_except (wpAny_mono (hb A env F s outer I hfr) (fun _ _ e => e.elim) fun e s' m => ?_)
  obtain ⟨a, ws, rfl, ⟨t, rfl⟩, m⟩ := m
  refine caught_pre hfr hL m fun s₅ m₅ => ?_
  refine caught_as (fun _ q => absurd q List.not_mem_nil) I hx hK hbx hn hd PySem.F.isExc_ValueError PySem.F.notTuple_ValueError (by rw [isSubtype_type]; kernel_rfl) m₅ fun s₆ m₆ => ?_
  have x₆ : Step X.G F [] s s₆ := m₆.step I.room.dicts
  have I₆ := I.step x₆
  obtain ⟨tp, hex, htp⟩ := m₆.exc
  obtain ⟨m, hm⟩ := I₆.env.loc
  refine wpAny_storeName_local hkn hm (fun h₁ hn₁ hs₁ => ?_) (by rw [hsc]; rfl)
  obtain ⟨x₇, I₇⟩ := I₆.locals (tk := s₆.toks + 1) hs₁ hn₁
  have noL : ∀ b o, s₆.heap.get? b = some o → (∀ es ep, o.data ≠ .dict es ep) → h₁.get? b = some o := fun b o e hd => by
    refine hs₁.extBut b o (fun q => ?_) e
    obtain ⟨oL, es, ep, eL, dL, _⟩ := hm
    rw [q, eL] at e; cases e; exact hd _ _ dL
  have hex' : h₁.ExcAt a "ValueError" (.ref tp) := by
    obtain ⟨o, vs, e1, e2, e3, e4⟩ := hex
    exact ⟨o, vs, noL _ _ e1 (fun _ _ q => by rw [e3] at q; cases q), e2, e3, e4⟩
  have htp' : h₁.TupAt tp [.str msg t] := by
    obtain ⟨o, n, e1, e2, e3⟩ := htp
    exact ⟨o, n, noL _ _ e1 (fun _ _ q => by rw [e3] at q; cases q), e2, e3⟩
  refine wpAny_execs_cons (wpAny_Return_some ?_)
  rw [eval_Call rfl]
  refine wpAny_bind (blt_good I₇.good hsc I₇.env.globals I₇.env.builtins (by unfold Env.kindOf; rw [I₇.env.scope]; exact hy) hKy hby hny hdy ?_)
  refine callWith_of (P := fun _ => True) rfl (fun _ _ => ⟨.machine, .inr (.inl rfl), Looks.of_pure rfl⟩) ?_
  refine evalArgs_plain (wpAny_items_cons (pos := p3) (e := .Name n p2) (rest := []) (wpAny_Name (wpAny_loadName_local hsc hkn hn₁ (if_pos rfl) (wpAny_items_nil ⟨trivial, ?_⟩)) hnn.1))
  refine P.str_of_exc_one PySem.F.excStr_ValueError ?_ hex' htp' ?_
  · have := I.room.units
    show A.units + 2 < cLine
    unfold cLine; omega
  · refine wpAny_nameGoes hkn hn₁ (by rw [hsc]; rfl) fun h₂ m₂ hn₂ hs₂ => ?_
    obtain ⟨x₈, I₈⟩ := I₆.locals (tk := s₆.toks + 1 + 1) (hs₁.trans hs₂) hn₂
    refine ⟨[], X.σ, .str msg, ⟨?_, fun _ q => absurd q List.not_mem_nil⟩, I₈, .str _ _, h⟩
    exact x₆.weak.trans (x₈.mono (fun _ h _ => .inl h) fun b hb _ => by rw [List.mem_singleton.mp hb]; exact List.mem_append_left _ (.head _))
end
end Mine
end
section
local macro_rules | `(tactic| omega) => `(tactic| lia)
open PySem PySem.W PySem.Calls PyProof.Rows PySem.Builtin
namespace Mine

/-- an exception that a loop of the frame L has noted -/
def FlyH (G : Gd) (F V : List Addr) (l : List Env) (L : Addr) (s s' : Shared) (a : Addr) (cls : Value) (ws : List Value) : Prop :=
  ∃ base t, Heap.HeldW base l a cls (.ref t) L s'.heap ∧ s'.heap.TupAt t ws ∧ base.get? t = none ∧ (∀ b o, b ≠ G.T → b ∉ F → b ∉ V → s.heap.get? b = some o → base.get? b = some o) ∧
    s.heap.UpToSlots s'.heap ∧ TabInv G base ∧ ∃ h tk, s' = { s with heap := h, toks := tk }

section
variable {M : Model} {G : Gd} {n : Nat} {A : Around} {F V : List Addr} {s s' : Shared} {l outer : List Env} {env : Env} {a L : Addr} {cls : Value} {ws : List Value} {E : Value → Shared → Prop}
theorem noted_fly (hfr : A.frames = some (env :: outer)) (hf : env.frame = some L) (m : Fly G F V (env :: outer) s s' a cls ws) (k : ∀ s'', FlyH G F V (env :: outer) L s s'' a cls ws → E (.ref a) s'') : notedBy M A env E (.ref a) s' := by
  obtain ⟨base, t, f, k1, k2, k3, k4, k5, h, tk, rfl⟩ := m
  exact wpAny_looks_onW hfr hf f fun h₄ hheld u₄ => k _ ⟨base, t, hheld, k1.of_slots u₄, k2, k3, k4.trans u₄, k5, h₄, tk, rfl⟩
theorem cameBack_held (hf : env.frame = some L) (m : FlyH G F V l L s s' a cls ws) (k : ∀ s'', FlyH G F V l L s s'' a cls ws → E (.ref a) s'') : cameBackBy M A env E (.ref a) s' := by
  obtain ⟨base, t, ⟨hkb, hen, hl, ht⟩, k1, k2, k3, k4, k5, h, tk, rfl⟩ := m
  obtain ⟨oe, vs, T, oT, ts, he, hcls, hd, h1, hnT, hTe, hT, hdT, h3⟩ := ht
  have hsz3 : 3 < ts.size := (Array.getElem?_eq_some_iff.mp h3).1
  unfold cameBackBy
  refine wpAny_bind (wpAny_field he hd h1 ?_)
  rw [if_neg (show ¬ ((Value.ref T == Value.none) = true) from Bool.false_ne_true)]
  rw [hf]
  unfold setFlight
  refine wpAny_bind (wpAny_field he hd h1 ?_)
  rw [if_pos (show (Value.ref T != Value.none) = true from rfl)]
  have other : ∀ b, b ≠ T → (h.update T (Obj.mapFields (·.setIfInBounds 3 ((some L).elim Value.none fun f => rawInt f)))).get? b = h.get? b :=
    fun b hb => Heap.get?_update_other _ _ (Ne.symm hb)
  have noRecord : ∀ b o, h.get? b = some o → (∀ vs, o.data ≠ .fields vs) → b ≠ T := fun b o hb hnf q => by
    rw [q] at hb
    have : h.get? T = some oT := hT
    rw [this] at hb; injection hb with hb; subst hb; exact hnf ts hdT
  refine wpAny_setField hT hdT hsz3 (k _ ?_)
  have up : h.UpToSlots (h.update T (Obj.mapFields (·.setIfInBounds 3 ((some L).elim Value.none fun f => rawInt f)))) := fun b o hb hn => ⟨o.slots, (other b (noRecord b o hb hn)).trans hb⟩
  refine ⟨base, t, ⟨fun b o hbo => (other b fun q => by rw [q, hnT] at hbo; cases hbo).trans (hkb b o hbo), hen, hl.of_keeps fun b o hb hnf => ⟨o, (other b (noRecord b o hb hnf)).trans hb, rfl⟩, ?_⟩, k1.of_slots up, k2, k3, k4.trans up, k5, _, tk, rfl⟩
  exact ⟨oe, vs, T, _, _, (other a (Ne.symm hTe)).trans he, hcls, hd, h1, hnT, hTe, Heap.get?_update_self _ hT (Obj.isFreed_of_fields (Obj.data_mapFields hdT _)), Obj.data_mapFields hdT _, by simp [hsz3]⟩
end

section
variable {X : Cx} {V : List Addr} {Φ : Out → Prop} {cls : Value} {P : List Value → Prop}
/-- a for loop of which some turn raises -/
theorem for_raises {target iter : Expr} {body orelse : List Stmt} {pos : Pos} {keys : List Str} {n : Nat} {bs : Nat → Env0} {ρ₀ : Env0} (hit : IterEx X iter target keys n bs) (hk : (keys.all fun k => storable X.sc k) = true)
    (V₂ : List Addr) (hV : ∀ a ∈ V, a ∈ wOf X.σ) (Inv : Nat → Env0 → Sig → Prop) (Ψ : Env0 → Sig → Prop) (hρ₀ : ∀ p ∈ ρ₀, p ∈ X.ρ) (h0 : Inv 0 ρ₀ X.σ)
    (turn : ∀ i ρ σ, i < n → wOf σ = wOf X.σ → Inv i ρ σ → (∀ p ∈ ρ, p.1 ∉ keys) ∧ (St (X.at_ (bs i ++ ρ) σ) V body (fun o => match o with
        | .next ρ' σ' V' | .cont ρ' σ' V' => ∃ ρ'', (∀ p ∈ ρ'', p ∈ ρ') ∧ wOf σ' = wOf X.σ ∧ V' = V ∧ Inv (i + 1) ρ'' σ'
        | _ => False) ∨ (StF (X.at_ (bs i ++ ρ) σ) V₂ body cls P ∧ Ψ (bs i ++ ρ) σ)))
    (fin : ∀ ρ σ, wOf σ = wOf X.σ → ¬ Inv n ρ σ)
    (hs : ∀ env x, foldedSetIterable iter env x = pure x := by intro _ _; rfl) : ∀ A env F s outer, In X A env F s → A.frames = some (env :: outer) → (hL : ∃ L, env.frame = some L) →
    wpAny (model X.G.prog X.G.w) A (exec (.For target iter body orelse pos) env) (fun _ _ => False) (fun e s' => ∃ a ws s₁ ρ σ, e = .ref a ∧ P ws ∧ Moved X V env F s s₁ V ∧ In (X.at_ ρ σ) A env F s₁ ∧ wOf σ = wOf X.σ ∧ Ψ ρ σ ∧ FlyH X.G F V₂ (env :: outer) (hL.choose) s₁ s' a cls ws) s := by
  intro A env F s outer I hframes hL'
  have hL := hL'.choose_spec
  generalize hL'.choose = L at *
  refine wpAny_For ?_ (hs env)
  refine wpAny_mono (hit A env F s I) (fun v s₁ h₁ => wpAny_mono h₁.2 (fun it s₂ h₂ => ?_) fun _ _ e => e.elim) fun _ _ e => e.elim
  obtain ⟨x₁, _⟩ := h₁
  obtain ⟨x₂, I₀, fp, wr, Sr, rfl, T, st, hfr, hfp⟩ := h₂
  have x₁₂ : Step X.G F [] s s₂ := x₁.trans x₂
  have I₂ := I.step x₁₂
  have hwr : ∀ b ∈ wr, b ∉ wOf X.σ ∧ X.G.s1.heap.get? b = none := fun b hb => ⟨hfp b (T.sub b hb), I.good.fresh (hfr b hb)⟩
  refine codeAny_forLoop_any (fun m s' => ∃ i ρ σ, i ≤ n ∧ m = n - i ∧ wOf σ = wOf X.σ ∧ Inv i ρ σ ∧ Moved X V env F s s' V ∧ In (X.at_ ρ σ) A env F s' ∧ Sr (wOf X.σ) i s'.heap) ?_ n
    ⟨0, ρ₀, X.σ, Nat.zero_le _, rfl, rfl, h0, Moved.pure x₁₂, I₂.weak hρ₀, st⟩
  rintro m s' ⟨i, ρ, σ, hin, rfl, hσ, hI, hM, IJ, stJ⟩
  have hwrσ : ∀ b ∈ wr, b ∉ wOf σ ∧ X.G.s1.heap.get? b = none := fun b hb => by rw [hσ]; exact hwr b hb
  have stJ' : Sr (wOf σ) i s'.heap := by rw [hσ]; exact stJ
  by_cases hi : i < n
  · obtain ⟨hkρ, hbody⟩ := turn i ρ σ hi hσ hI
    refine wpAny_mono (T.item (X.at_ ρ σ) env F i s' rfl hi stJ' hwrσ IJ hk hkρ) (fun r s₅ h₅ => ?_) fun _ _ e => e.elim
    obtain ⟨v, rfl, h₅⟩ := h₅
    refine wpAny_mono h₅ (fun _ s₆ h₆ => wpAny_mono h₆ (fun _ s₇ ⟨x₇, st₇, I₇⟩ => ?_) fun _ _ e => e.elim) fun _ _ e => e.elim
    have M₇ : Moved X V env F s s₇ V := by
      refine ⟨(hM.step.mono (fun _ h _ => .inl h) fun b hb _ => List.mem_append_left wr hb).trans (x₇.mono (fun _ h _ => .inl h) fun b hb _ => ?_) |>.mono (fun _ h _ => .inl h) fun b hb hne => ?_, fun _ h => .inl h⟩
      · rcases List.mem_append.mp hb with hb | hb
        · exact List.mem_append_right _ hb
        · exact List.mem_append_left _ (List.mem_append_left _ (ownT_own b hb))
      · rcases List.mem_append.mp hb with hb | hb
        · exact hb
        · exact absurd (hfr b hb) hne
    have st₇' : Sr (wOf X.σ) (i + 1) s₇.heap := by rw [← hσ]; exact st₇
    have hlive7 := T.live _ _ _ st₇'
    -- what the body leaves of the source
    have after : ∀ s₈ V', Moved (X.at_ (bs i ++ ρ) σ) V env F s₇ s₈ V' → Sr (wOf X.σ) (i + 1) s₈.heap := fun s₈ V' M => by
      refine T.keep _ _ _ _ st₇' (keepO I₇ M.step hlive7 fun b hb q => ?_) (fun r => ?_)
      · obtain ⟨o, e, _, nd, nc⟩ := hlive7 b q
        rcases List.mem_append.mp hb with hb | hb
        · obtain ⟨o', e', h, _⟩ := I₇.ownLive hb
          rw [e] at e'; cases e'
          rcases h with ⟨_, _, h⟩ | ⟨_, h⟩
          · exact nd _ _ h
          · exact nc _ h
        · exact hfp b q (hV b hb)
      · refine (M.step.rep I₇.good (W := wOf X.σ) (fun b hb => ?_) (by rw [← hσ]; exact I₇.sig.noTuple)).2 r
        rcases List.mem_append.mp hb with hb | hb
        · refine .inr fun o e xs k d => ?_
          obtain ⟨o', e', h, _⟩ := I₇.ownLive hb
          rw [e] at e'; cases e'; rw [d] at h
          rcases h with ⟨_, _, h⟩ | ⟨_, h⟩ <;> cases h
        · exact .inl (hV b hb)
    rcases hbody with hbody | ⟨hbody, hΨ⟩
    · refine wpAny_mono (hbody A env F s₇ I₇) (fun fl s₈ o => ?_) fun _ _ e => e.elim
      have nx : ∀ ρ' σ' V', Moved (X.at_ (bs i ++ ρ) σ) V env F s₇ s₈ V' → In (X.at_ ρ' σ') A env F s₈ → (∃ ρ'', (∀ p ∈ ρ'', p ∈ ρ') ∧ wOf σ' = wOf X.σ ∧ V' = V ∧ Inv (i + 1) ρ'' σ') →
          ∃ m, m < n - i ∧ ∃ i ρ σ, i ≤ n ∧ m = n - i ∧ wOf σ = wOf X.σ ∧ Inv i ρ σ ∧ Moved X V env F s s₈ V ∧ In (X.at_ ρ σ) A env F s₈ ∧ Sr (wOf X.σ) i s₈.heap := by
        rintro ρ' σ' V' M I₈ ⟨ρ'', hρ, hσ', rfl, hI'⟩
        exact ⟨n - (i + 1), by omega, i + 1, ρ'', σ', by omega, rfl, hσ', hI', M₇.trans I I₇ M, I₈.weak hρ, after s₈ _ M⟩
      cases fl with
      | next => obtain ⟨ρ', σ', V', a, b, c⟩ := o; exact nx ρ' σ' V' a b c
      | cont => obtain ⟨ρ', σ', V', a, b, c⟩ := o; exact nx ρ' σ' V' a b c
      | brk => obtain ⟨ρ', σ', V', a, b, c⟩ := o; exact c.elim
      | ret v => obtain ⟨ρ', σ', d, a, b, c, e⟩ := o; exact e.elim
    · refine wpAny_mono (hbody A env F s₇ outer I₇ hframes) (fun _ _ e => e.elim) fun e s₈ o => ?_
      obtain ⟨a, ws, rfl, hP, m⟩ := o
      refine noted_fly hframes hL m fun s₉ m₉ => ?_
      exact cameBack_held hL m₉ fun s₀ m₀ => ⟨a, ws, s₇, bs i ++ ρ, σ, rfl, hP, M₇, I₇, hσ, hΨ, m₀⟩
  · have : i = n := by omega
    subst this
    exact absurd hI (fin ρ σ hσ)
/-- iterators have turned or ended -/
theorem In.turnO {A : Around} {env : Env} {F O : List Addr} {s s' : Shared} (I : In X A env F s) (x : Step X.G F O s s') (ht : ∀ b ∈ O, Turner s.heap b) (hw : ∀ b ∈ O, b ∉ wOf X.σ ∧ X.G.s1.heap.get? b = none) : In X A env F s' := by
  have hk : ∀ b ∈ O, b ∉ wOf X.σ ∧ ∀ o, s.heap.get? b = some o → (∀ xs n, o.data ≠ .seq xs n) ∧ ∀ vs, o.data = .fields vs → ∀ x t, vs[1]? ≠ some (.str x t) := fun b hb => ⟨(hw b hb).1, fun o e => by
    obtain ⟨o', fs, e', _, d', hn⟩ := ht b hb
    rw [e] at e'; cases e'; rw [d']
    exact ⟨fun _ _ q => Data.noConfusion q, fun vs q x t r => by cases q; exact hn x t r⟩⟩
  have nd : ∀ b ∈ O, ∀ o, s.heap.get? b = some o → (∀ es ep, o.data ≠ .dict es ep) ∧ ∀ v, o.data ≠ .cell v := fun b hb o e => by
    obtain ⟨o', fs, e', _, d', _⟩ := ht b hb
    rw [e] at e'; cases e'; rw [d']; exact ⟨(fun _ _ q => Data.noConfusion q), (fun _ q => Data.noConfusion q)⟩
  have hloc : ∀ m, s.heap.Ns env.locals m → s'.heap.Ns env.locals m := fun m hm => x.ns I.good (fun q => by
    obtain ⟨o, es, ep, e, d, _⟩ := hm
    exact (nd _ q o e).1 _ _ d) hm
  have hcel : ∀ c v, s.heap.IsCell c v → s'.heap.IsCell c v := fun c v hc => x.cell I.good (fun q => by
    obtain ⟨o, e, d⟩ := hc
    exact (nd _ q o e).2 _ d) hc
  have I' := I.stepO x (fun b hb => (hw b hb).2) hk (fun b hb => .inl fun q => by
    obtain ⟨_, _, o, es, ep, e, d⟩ := I.room.fresh b q
    exact (nd b hb o e).1 _ _ d) (ρ := X.ρ) (fun hr p hp => ?_) I.env.nice (let ⟨m, hm⟩ := I.env.loc; ⟨m, hloc m hm⟩) (fun y c e => let ⟨⟨v, hv⟩, _⟩ := I.env.cell y c e; ⟨v, hcel c v hv⟩)
  · exact I'
  · rcases I.env.names p hp with ⟨k, m', w, e1, e2, e3⟩ | ⟨k, c, w, e1, e2, e3⟩
    · exact .inl ⟨k, m', w, hloc _ e1, e2, hr e3⟩
    · exact .inr ⟨k, c, w, e1, hcel _ _ e2, hr e3⟩
/-- try: a loop of which some turn raises; except x: return y -/
theorem StTop1.stopped {lp : Stmt} {x y : Str} {np p1 p2 pos tpos : Pos} {σ' : Sig} {Ψ : Env0 → Sig → Prop} (V₂ : List Addr) (hV₂ : ∀ a ∈ V₂, a ∈ V)
    (hb : ∀ A env F s outer, In X A env F s → A.frames = some (env :: outer) → (hL : ∃ L, env.frame = some L) →
      wpAny (model X.G.prog X.G.w) A (exec lp env) (fun _ _ => False) (fun e s' => ∃ a ws s₁ ρ σ, e = .ref a ∧ ws = [] ∧ Moved X V env F s s₁ V ∧ In (X.at_ ρ σ) A env F s₁ ∧ wOf σ = wOf X.σ ∧ Ψ ρ σ ∧ FlyH X.G F V₂ (env :: outer) (hL.choose) s₁ s' a (.type "StopIteration") ws) s)
    (hx : X.sc.names.lookup x = some .globalImplicit) (hK : nsIn X.G.K mainGlobals x = some Option.none) (hbx : bootBuiltins x = some (.type "StopIteration")) (hn : x ≠ "__name__") (hd : (x == ("__debug__" : Str)) = false)
    (hΨ : ∀ ρ σ, wOf σ = wOf X.σ → Ψ ρ σ → ∃ l ds, (y, D.fn (.ref l)) ∈ ρ ∧ (l, Own.list ds) ∈ σ ∧ (∀ p ∈ σ', p ∈ σ ∧ p.1 ≠ l ∧ p.1 ∉ V₂) ∧ ((wOf σ).Nodup → (wOf σ').Nodup) ∧ l ∉ V₂ ∧ (∀ a ∈ V₂, ∃ es i, (a, Own.iter es i) ∈ σ) ∧ Φ (.ret (.list ds) σ')) :
    StTop1 X V (.Try [lp] [.ExceptHandler (some (.Name x np)) none [.Return (some (.Name y p1)) p2] pos] [] [] tpos) Φ := by
  intro A env F s outer I hfr hL'
  refine wpAny_Try_except (wpAny_execs_cons (wpAny_mono (hb A env F s outer I hfr hL') (fun _ _ e => e.elim) fun e s' m => ?_))
  have hL := hL'.choose_spec
  generalize hL'.choose = L at *
  obtain ⟨a, ws, s₁, ρ, σ, rfl, rfl, M, I₁, hσ, hΨ', m⟩ := m
  obtain ⟨base, t, f, k1, k2, k3, k4, k5, h, tk, rfl⟩ := m
  obtain ⟨l, ds, hy, hl, hs', hnd, hlV, hit, hΦ⟩ := hΨ ρ σ hσ hΨ'
  refine wpAny_noteFrame_againW hL f.2.2.2 ?_
  refine wpAny_landsW f fun h₅ hfl u₅ => ?_
  have m₅ : Fly X.G F V₂ (env :: outer) s₁ { s₁ with heap := h₅, toks := tk } a (.type "StopIteration") [] := ⟨base, t, hfl, k1.of_slots u₅, k2, k3, k4.trans u₅, k5, h₅, tk, rfl⟩
  have hV1 : ∀ b ∈ V₂, X.G.s1.heap.get? b = none := fun b hb => by
    obtain ⟨es, i, q⟩ := hit b hb
    exact I₁.own b (List.mem_map.mpr ⟨_, q, rfl⟩)
  refine caught_0 (X := X.at_ ρ σ) hV1 I₁ hx hK hbx hn hd (by rw [isSubtype_type]; kernel_rfl) (by kernel_rfl) (by rw [isSubtype_type]; kernel_rfl) m₅ fun s₆ m₆ => ?_
  have x₆ : Step X.G F V₂ s₁ s₆ := m₆.step I₁.room.dicts
  -- the iterator is forgotten, then the list is frozen
  have hlσ : l ∉ wOf σ' := fun q => by obtain ⟨p, hp, e⟩ := List.mem_map.mp q; exact (hs' p hp).2.1 e
  have I₁' : In (X.at_ ρ ((l, .list ds) :: σ')) A env F s₁ := In.weakσ (X := X.at_ ρ σ) I₁ (fun p hp => by
    rcases List.mem_cons.mp hp with rfl | hp
    · exact hl
    · exact (hs' p hp).1) (List.nodup_cons.mpr ⟨hlσ, hnd I₁.sig.nodup⟩)
  have I₆ : In (X.at_ ρ ((l, .list ds) :: σ')) A env F s₆ := I₁'.turnO x₆ (fun b hb => by
    obtain ⟨es, i, q⟩ := hit b hb
    have ho : OwnAt (wOf σ) s₁.heap b (.iter es i) := I₁.sig.at_ _ q
    cases ho with
    | iter h1 _ _ _ =>
      obtain ⟨o, e, c, d⟩ := h1
      exact ⟨o, _, e, by rw [c]; exact fun q => Value.noConfusion q, d, fun x t => by simp⟩) fun b hb => by
    refine ⟨fun q => ?_, hV1 b hb⟩
    rcases List.mem_cons.mp q with rfl | q
    · exact hlV hb
    · obtain ⟨p, hp, e⟩ := List.mem_map.mp q
      exact (hs' p hp).2.2 (e ▸ hb)
  have hpp : ∀ p ∈ σ', p ∈ (X.at_ ρ ((l, Own.list ds) :: σ')).σ ∧ p.1 ≠ l := fun p hp => ⟨.tail _ hp, (hs' p hp).2.1⟩
  have I₇ : In (X.at_ [] σ') A env F s₆ := I₆.freeze (.head _) hpp (hnd I₁.sig.nodup) fun p hp => absurd hp List.not_mem_nil
  have r₇ : Rep (wOf σ') s₆.heap (.ref l) (.list ds) := Rep.freeze I₆ (.head _) hpp
  refine wpAny_execs_cons (wpAny_Return_some (name_good (X := X.at_ ρ ((l, .list ds) :: σ')) I₆ hy fun v r => ?_))
  obtain rfl := r.fnI
  refine ⟨[], σ', .list ds, ⟨M.step.trans (x₆.mono (fun _ h _ => .inl h) fun b hb _ => List.mem_append_right _ (hV₂ b hb)), fun _ q => absurd q List.not_mem_nil⟩, I₇, r₇, hΦ⟩
end
end Mine
end
section
local macro_rules | `(tactic| omega) => `(tactic| lia)
open PySem PySem.W PySem.Calls PyProof.Rows PySem.Builtin
namespace Mine

/-- the tree of questions, answered by lt; all questions below N -/
def krun {α : Type} (lt : Nat → Nat → Bool) (N : Nat) : KasT α → (α → Prop) → Prop
  | .ret a, Q => Q a
  | .ask i j k, Q => i < N ∧ j < N ∧ krun lt N (k (lt i j)) Q
theorem krun_bind {α β : Type} {lt : Nat → Nat → Bool} {N : Nat} {f : α → KasT β} {Q : β → Prop} : ∀ (t : KasT α), krun lt N t (fun a => krun lt N (f a) Q) → krun lt N (t.bind f) Q
  | .ret _, h => h
  | .ask i j k, h => ⟨h.1, h.2.1, krun_bind (k (lt i j)) h.2.2⟩
theorem krun_wp {α : Type} {lt : Nat → Nat → Bool} {N : Nat} {cmp : Nat → Nat → (Bool → Shared → Prop) → Shared → Prop} {s : Shared} (hc : ∀ i j C, i < N → j < N → C (lt i j) s → cmp i j C s) {Q : α → Shared → Prop} : ∀ (t : KasT α), krun lt N t (fun a => Q a s) → t.kasWp cmp Q s
  | .ret _, h => h
  | .ask i j k, h => hc i j _ h.1 h.2.1 (krun_wp hc (k (lt i j)) h.2.2)

structure Ord (lt : Nat → Nat → Bool) (N : Nat) : Prop where
  tri : ∀ i j, i < N → j < N → i ≠ j → lt i j = true ∨ lt j i = true
  asym : ∀ i j, lt i j = true → lt j i = false
  trans : ∀ i j k, lt i j = true → lt j k = true → lt i k = true

section
variable {lt : Nat → Nat → Bool} {N : Nat}
/-- an arrangement of the numbers below N -/
def Arr (N : Nat) (p : Array Nat) : Prop := p.Perm (List.range N).toArray
theorem Arr.size {p : Array Nat} (a : Arr N p) : p.size = N := by have := a.size_eq; simpa using this
theorem Arr.bd {p : Array Nat} (a : Arr N p) {i : Nat} (h : i < N) : p.getD i 0 < N := by
  have hi : i < p.size := by rw [a.size]; exact h
  have : p.getD i 0 ∈ p := by simp [Array.getD, hi]
  have := a.mem_iff.mp this
  simpa using this
theorem Arr.inj {p : Array Nat} (a : Arr N p) {i j : Nat} (hi : i < N) (hj : j < N) (h : i ≠ j) : p.getD i 0 ≠ p.getD j 0 := by
  have hn : p.toList.Nodup := (Array.Perm.toList a).nodup_iff.mpr (by simpa using List.nodup_range)
  have hi' : i < p.toList.length := by rw [Array.length_toList, a.size]; exact hi
  have hj' : j < p.toList.length := by rw [Array.length_toList, a.size]; exact hj
  intro q
  have e1 : p.getD i 0 = p.toList[i] := by simp at hi'; simp [Array.getD, hi']
  have e2 : p.getD j 0 = p.toList[j] := by simp at hj'; simp [Array.getD, hj']
  rw [e1, e2] at q
  exfalso
  rcases Nat.lt_or_gt_of_ne h with hl | hl
  · exact List.pairwise_iff_getElem.mp hn i j hi' hj' hl q
  · exact List.pairwise_iff_getElem.mp hn j i hj' hi' hl q.symm
theorem Arr.tri (O : Ord lt N) {p : Array Nat} (a : Arr N p) {i j : Nat} (hi : i < N) (hj : j < N) (h : i ≠ j) (hl : lt (p.getD i 0) (p.getD j 0) = false) : lt (p.getD j 0) (p.getD i 0) = true := by
  rcases O.tri _ _ (a.bd hi) (a.bd hj) (a.inj hi hj h) with q | q
  · rw [hl] at q; cases q
  · exact q
def Srt (lt : Nat → Nat → Bool) (p : Array Nat) (k : Nat) : Prop := ∀ i j, i < j → j < k → lt (p.getD i 0) (p.getD j 0) = true
theorem Srt.of_chain (O : Ord lt N) {p : Array Nat} {k : Nat} (h : ∀ i, 1 ≤ i → i < k → lt (p.getD (i - 1) 0) (p.getD i 0) = true) : Srt lt p k := by
  intro i j hij hj
  induction j with
  | zero => omega
  | succ j ih =>
    have h1 := h (j + 1) (by omega) hj
    rw [Nat.add_sub_cancel] at h1
    by_cases q : i = j
    · subst q; exact h1
    · exact O.trans _ _ _ (ih (by omega) (by omega)) h1

theorem run_asc (O : Ord lt N) {p : Array Nat} (a : Arr N p) {Q : Nat → Prop} : ∀ (f n : Nat), 1 ≤ n → n + f ≤ N → (∀ m, n ≤ m → m ≤ n + f → (∀ k, n ≤ k → k < m → lt (p.getD (k - 1) 0) (p.getD k 0) = true) → (m < n + f → lt (p.getD m 0) (p.getD (m - 1) 0) = true) → Q m) → krun lt N (kas_asc p f n) Q
  | 0, n, h1, h2, h => h n (Nat.le_refl _) (by omega) (fun k a b => by omega) (fun q => by omega)
  | f + 1, n, h1, h2, h => by
    refine ⟨a.bd (by omega), a.bd (by omega), ?_⟩
    cases hc : lt (p.getD n 0) (p.getD (n - 1) 0) with
    | true => exact h n (Nat.le_refl _) (by omega) (fun k a b => by omega) fun _ => hc
    | false =>
      show krun lt N (if false = true then KasT.ret n else kas_asc p f (n + 1)) Q
      rw [if_neg (by decide)]
      refine run_asc O a f (n + 1) (by omega) (by omega) fun m m1 m2 m3 m4 => h m (by omega) (by omega) (fun k k1 k2 => ?_) fun q => m4 (by omega)
      by_cases q : k = n
      · subst q; exact a.tri O (by omega) (by omega) (by omega) hc
      · exact m3 k (by omega) k2
theorem run_desc (O : Ord lt N) {p : Array Nat} (a : Arr N p) {Q : Array Nat × Nat × Nat → Prop} : ∀ (f n : Nat), 1 ≤ n → n + f ≤ N → (∀ m, n ≤ m → m ≤ n + f → (∀ k, n ≤ k → k < m → lt (p.getD k 0) (p.getD (k - 1) 0) = true) → Q (p, m, 0)) → krun lt N (kas_desc f p n 0) Q
  | 0, n, h1, h2, h => h n (Nat.le_refl _) (by omega) (fun k a b => by omega)
  | f + 1, n, h1, h2, h => by
    refine ⟨a.bd (by omega), a.bd (by omega), ?_⟩
    cases hc : lt (p.getD n 0) (p.getD (n - 1) 0) with
    | true =>
      show krun lt N (if true = true then (if 0 > 0 then _ else kas_desc f p (n + 1) 0) else _) Q
      rw [if_pos rfl, if_neg (by decide)]
      refine run_desc O a f (n + 1) (by omega) (by omega) fun m m1 m2 m3 => h m (by omega) (by omega) fun k k1 k2 => ?_
      by_cases q : k = n
      · subst q; exact hc
      · exact m3 k (by omega) k2
    | false =>
      have hd := a.tri O (i := n) (j := n - 1) (by omega) (by omega) (by omega) hc
      show krun lt N (if false = true then _ else KasT.ask (p.getD (n - 1) 0) (p.getD n 0) fun d => if d = true then .ret (p, n, 0) else kas_desc f p (n + 1) (0 + 1)) Q
      rw [if_neg (by decide)]
      refine ⟨a.bd (by omega), a.bd (by omega), ?_⟩
      rw [hd]
      show krun lt N (if true = true then _ else _) Q
      rw [if_pos rfl]
      exact h n (Nat.le_refl _) (by omega) fun k a b => by omega

theorem getD_of {p q : Array Nat} {i j : Nat} (h : p[i]? = q[j]?) : p.getD i 0 = q.getD j 0 := by
  simp only [Array.getD_eq_getD_getElem?, h]
theorem run_count (O : Ord lt N) {Q : Nat × Array Nat → Prop} {p : Array Nat} (a : Arr N p) (hN : 2 ≤ N) (h : ∀ m p', 1 ≤ m → m ≤ N → Arr N p' → Srt lt p' m → Q (m, p')) : krun lt N (kas_count N p) Q := by
  unfold kas_count
  refine krun_bind _ (run_asc O a _ 1 (Nat.le_refl _) (by omega) fun n n1 n2 n3 n4 => ?_)
  have hs : Srt lt p n := Srt.of_chain O fun i i1 i2 => n3 i i1 i2
  by_cases e : n = N
  · subst e
    rw [if_pos (by simp)]
    exact h n p n1 (Nat.le_refl _) a hs
  · rw [if_neg (by simpa using e)]
    by_cases e1 : n > 1
    · rw [if_pos e1]
      refine ⟨a.bd (by omega), a.bd (by omega), ?_⟩
      rw [hs 0 (n - 1) (by omega) (by omega)]
      show krun lt N (if true = true then _ else _) Q
      rw [if_pos rfl]
      exact h n p n1 (by omega) a hs
    · rw [if_neg e1]
      have e2 : n = 1 := by omega
      subst e2
      have hd1 := n4 (by omega)
      unfold kas_descPart
      refine krun_bind _ (run_desc O a _ (1 + 1) (by omega) (by omega) fun m m1 m2 m3 => ?_)
      show krun lt N (if 0 > 0 then _ else kas_tail3 m N p) Q
      rw [if_neg (by decide)]
      unfold kas_tail3
      have hmN : m ≤ p.size := by rw [a.size]; omega
      have hrev : ∀ k, k < m → (kas_rev p 0 m).getD k 0 = p.getD (m - 1 - k) 0 := fun k hk => getD_of (by
        unfold kas_rev
        rw [getElem?_mirror_all hmN, if_pos ⟨Nat.zero_le _, hk⟩]
        congr 1; omega)
      have a' : Arr N (kas_rev p 0 m) := (mirror_perm _ _ _ _).trans a
      refine krun_bind _ (run_asc O a' _ m (by omega) (by omega) fun l l1 l2 l3 l4 => ?_)
      refine h l _ (by omega) (by omega) a' (Srt.of_chain O fun i i1 i2 => ?_)
      by_cases q : m ≤ i
      · exact l3 i q i2
      · rw [hrev i (by omega), hrev (i - 1) (by omega)]
        have hk : m - 1 - (i - 1) = m - i := by omega
        have hk2 : m - 1 - i = m - i - 1 := by omega
        rw [hk, hk2]
        by_cases q1 : m - i = 1
        · rw [q1]; exact hd1
        · exact m3 (m - i) (by omega) (by omega)
theorem run_place (O : Ord lt N) {p : Array Nat} (a : Arr N p) {k : Nat} (hk : k < N) (hs : Srt lt p k) {Q : Nat → Prop} : ∀ (f l r : Nat), l ≤ r → r ≤ k → r - l ≤ f → (∀ i, i < l → lt (p.getD i 0) (p.getD k 0) = true) → (∀ i, r ≤ i → i < k → lt (p.getD k 0) (p.getD i 0) = true) →
    (∀ l, l ≤ k → (∀ i, i < l → lt (p.getD i 0) (p.getD k 0) = true) → (∀ i, l ≤ i → i < k → lt (p.getD k 0) (p.getD i 0) = true) → Q l) → krun lt N (kas_place p k f l r) Q
  | 0, l, r, h1, h2, h3, h4, h5, h => by
    have : l = r := by omega
    subst this
    exact h l h2 h4 h5
  | f + 1, l, r, h1, h2, h3, h4, h5, h => by
    unfold kas_place
    by_cases e : l ≥ r
    · rw [if_pos e]
      have : l = r := by omega
      subst this
      exact h l h2 h4 h5
    · rw [if_neg e]
      have hm1 : l ≤ (l + r) / 2 := by omega
      have hm2 : (l + r) / 2 < r := by omega
      refine ⟨a.bd hk, a.bd (by omega), ?_⟩
      generalize (l + r) / 2 = M at hm1 hm2
      cases hc : lt (p.getD k 0) (p.getD M 0) with
      | true =>
        show krun lt N (if true = true then _ else _) Q
        rw [if_pos rfl]
        refine run_place O a hk hs f l M hm1 (by omega) (by omega) h4 (fun i i1 i2 => ?_) h
        by_cases q : i = M
        · subst q; exact hc
        · exact O.trans _ _ _ hc (hs M i (by omega) i2)
      | false =>
        show krun lt N (if false = true then _ else _) Q
        rw [if_neg (by decide)]
        have hc' := a.tri O hk (show M < N by omega) (by omega) hc
        refine run_place O a hk hs f (M + 1) r (by omega) h2 (by omega) (fun i i1 => ?_) h5 h
        by_cases q : i = M
        · subst q; exact hc'
        · exact O.trans _ _ _ (hs i M (by omega) (by omega)) hc'
theorem run_bin (O : Ord lt N) {Q : Array Nat → Prop} : ∀ (f : Nat) (p : Array Nat) (k : Nat), Arr N p → Srt lt p k → k + f = N → (∀ p', Arr N p' → Srt lt p' N → Q p') → krun lt N (kas_bin f p k) Q
  | 0, p, k, a, hs, hk, h => h p a (by rw [← hk]; exact hs)
  | f + 1, p, k, a, hs, hk, h => by
    unfold kas_bin
    refine krun_bind _ (run_place O a (by omega) hs k 0 k (Nat.zero_le _) (Nat.le_refl _) (by omega) (fun i q => by omega) (fun i q r => by omega) fun l l1 l2 l3 => ?_)
    have hks : k < p.size := by rw [a.size]; omega
    have hb : ∀ i, (bubble p k (k - l)).getD i 0 = if i = l then p.getD k 0 else if l < i ∧ i ≤ k then p.getD (i - 1) 0 else p.getD i 0 := fun i => by
      have q := getElem?_bubble hks (k - l) (by omega) i
      rw [show k - (k - l) = l by omega] at q
      by_cases e : i = l
      · rw [if_pos e] at q ⊢; exact getD_of q
      · rw [if_neg e] at q ⊢
        by_cases e2 : l < i ∧ i ≤ k
        · rw [if_pos e2] at q ⊢; exact getD_of q
        · rw [if_neg e2] at q ⊢; exact getD_of q
    refine run_bin O f _ (k + 1) ((bubble_perm _ _ _).trans a) (fun i j hij hj => ?_) (by omega) h
    rw [hb i, hb j]
    by_cases ei : i = l
    · subst ei
      rw [if_pos rfl, if_neg (by omega), if_pos (by omega)]
      exact l3 (j - 1) (by omega) (by omega)
    · rw [if_neg ei]
      by_cases ei2 : l < i
      · rw [if_pos (by omega), if_neg (by omega), if_pos (by omega)]
        exact hs _ _ (by omega) (by omega)
      · rw [if_neg (by omega)]
        by_cases ej : j = l
        · rw [if_pos ej]; exact l2 i (by omega)
        · rw [if_neg ej]
          by_cases ej2 : l < j
          · rw [if_pos (by omega)]
            by_cases e3 : i = j - 1
            · omega
            · exact hs _ _ (by omega) (by omega)
          · rw [if_neg (by omega)]
            exact hs _ _ hij (by omega)
theorem run_sort (O : Ord lt N) (hN : 2 ≤ N) {Q : Array Nat → Prop} (h : ∀ p, Arr N p → Srt lt p N → Q p) : krun lt N (kas_sort N) Q := by
  unfold kas_sort
  refine krun_bind _ (run_count O (Array.Perm.refl _) hN fun m p m1 m2 a hs => ?_)
  by_cases e : m < N
  · rw [if_pos e, show max m 1 = m by omega]
    exact run_bin O _ p m a hs (by omega) h
  · rw [if_neg e]
    have : m = N := by omega
    subst this
    exact h p a hs
end
end Mine
end
section
local macro_rules | `(tactic| omega) => `(tactic| lia)
open PySem PySem.W PySem.Calls PyProof.Rows PySem.Builtin
namespace Mine

abbrev pairD (p : Int × Int) : D := .tup [.int p.1, .int p.2]
def pairLt (a b : Int × Int) : Prop := a.1 < b.1 ∨ (a.1 = b.1 ∧ a.2 < b.2)
def pairLtB (a b : Int × Int) : Bool := if a.1 == b.1 then decide (a.2 < b.2) else decide (a.1 < b.1)
theorem pairLtB_iff {a b : Int × Int} : pairLtB a b = true ↔ pairLt a b := by
  unfold pairLtB pairLt
  by_cases h : a.1 = b.1
  · simp [h]
  · simp [h]
theorem pairLt_irrefl {a : Int × Int} : ¬ pairLt a a := by unfold pairLt; omega
theorem pairLt_trans {a b c : Int × Int} (h : pairLt a b) (k : pairLt b c) : pairLt a c := by unfold pairLt at *; omega
theorem pairLt_tri {a b : Int × Int} (h : a ≠ b) : pairLt a b ∨ pairLt b a := by
  unfold pairLt
  by_cases h1 : a.1 = b.1
  · have : a.2 ≠ b.2 := fun q => h (Prod.ext h1 q)
    omega
  · omega

/-- tuples of two numbers in the heap -/
def PairsAt (h : Heap) : List Value → List (Int × Int) → Prop
  | [], [] => True
  | v :: vs, p :: ps => (∃ a t u, v = .ref a ∧ h.IsTuple a #[.int p.1 t, .int p.2 u]) ∧ PairsAt h vs ps
  | _, _ => False
theorem Reps.two_ints {W : List Addr} {h : Heap} {vs : List Value} {a b : Int} (r : Reps W h vs [.int a, .int b]) : ∃ t u, vs = [.int a t, .int b u] := by
  obtain ⟨_, _, rfl, r1, r2⟩ := r.twoI
  obtain ⟨t, rfl⟩ := r1.intI
  obtain ⟨u, rfl⟩ := r2.intI
  exact ⟨t, u, rfl⟩
theorem PairsAt.of_reps {W : List Addr} {h : Heap} {vs : List Value} {ps : List (Int × Int)} (r : Reps W h vs (ps.map pairD)) : PairsAt h vs ps := by
  induction ps generalizing vs with
  | nil => rw [r.nilI]; trivial
  | cons p ps ih =>
    obtain ⟨_, _, rfl, r1, r2⟩ := r.consI
    obtain ⟨a, _, rfl, ht, rt⟩ := Rep.tupI r1
    obtain ⟨t, u, rfl⟩ := Reps.two_ints rt
    exact ⟨⟨a, t, u, rfl, ht⟩, ih r2⟩
theorem PairsAt.len {h : Heap} : ∀ {vs : List Value} {ps : List (Int × Int)}, PairsAt h vs ps → vs.length = ps.length
  | [], [], _ => rfl
  | _ :: _, _ :: _, h => congrArg (· + 1) (PairsAt.len h.2)
theorem PairsAt.keeps {h h' : Heap} (k : ∀ a xs, h.IsTuple a xs → h'.IsTuple a xs) : ∀ {vs : List Value} {ps : List (Int × Int)}, PairsAt h vs ps → PairsAt h' vs ps
  | [], [], _ => trivial
  | _ :: _, _ :: _, ⟨⟨a, t, u, e, ht⟩, r⟩ => ⟨⟨a, t, u, e, k _ _ ht⟩, r.keeps k⟩
theorem PairsAt.get {h : Heap} : ∀ {vs : List Value} {ps : List (Int × Int)}, PairsAt h vs ps → ∀ i, i < ps.length → ∃ a t u, vs.getD i .none = .ref a ∧ h.IsTuple a #[.int (ps.getD i (0, 0)).1 t, .int (ps.getD i (0, 0)).2 u]
  | [], [], _, i, hi => absurd hi (Nat.not_lt_zero _)
  | _ :: _, _ :: _, ⟨⟨a, t, u, e, ht⟩, r⟩, 0, _ => ⟨a, t, u, e, ht⟩
  | _ :: _, _ :: _, ⟨_, r⟩, i + 1, hi => by
    have := PairsAt.get r i (by simpa using hi)
    simpa using this
theorem PairsAt.tups {h : Heap} : ∀ {vs : List Value} {ps : List (Int × Int)}, PairsAt h vs ps → ∃ fs, KatTups h vs fs ∧ fs.length = vs.length ∧ ∀ f ∈ fs, ∃ i t, f = .int i t
  | [], [], _ => ⟨[], trivial, rfl, fun _ q => absurd q List.not_mem_nil⟩
  | _ :: _, p :: _, ⟨⟨a, t, u, e, ht⟩, r⟩ => by
    obtain ⟨fs, h1, h2, h3⟩ := r.tups
    obtain ⟨o, eo, c, n, d⟩ := ht
    refine ⟨.int p.1 t :: fs, ⟨⟨a, o, _, n, e, eo, c, d, rfl⟩, h1⟩, congrArg (· + 1) h2, fun f hf => ?_⟩
    rcases List.mem_cons.mp hf with rfl | hf
    · exact ⟨_, _, rfl⟩
    · exact h3 f hf

section
variable {prog : Program} {w : World} {A : Around} {E : Value → Shared → Prop} {s : Shared}
theorem pair_lt {x y : Addr} {p q : Int × Int} {t u t' u' : Tok} {C : Bool → Shared → Prop} (hx : s.heap.IsTuple x #[.int p.1 t, .int p.2 u]) (hy : s.heap.IsTuple y #[.int q.1 t', .int q.2 u']) (h : C (pairLtB p q) s) :
    wpAny (model prog w) A (keyLt' (tuples' true) (.ref x) (.ref y)) C (fun _ _ => False) s := by
  obtain ⟨ox, ex, _, n, dx⟩ := hx
  obtain ⟨oy, ey, _, k, dy⟩ := hy
  refine kat_lt ex dx ey dy (kat_cons (wpAny_eqBool_int ?_))
  cases hc : (p.1 == q.1) with
  | true =>
    refine kat_yes (kat_cons (wpAny_eqBool_int ?_))
    cases hd : (p.2 == q.2) with
    | true =>
      refine kat_yes (kat_nil ?_)
      have e2 : p.2 = q.2 := by simpa using hd
      rw [show pairLtB p q = false by unfold pairLtB; rw [hc]; simp [e2]] at h
      exact h
    | false =>
      refine kat_no (kat_one _ _ (PySem.P.lt_int ?_))
      show C _ _
      rw [show pairLtB p q = decide (p.2 < q.2) by unfold pairLtB; rw [hc]; rfl] at h
      exact h
  | false =>
    refine kat_no ?_
    refine kat_lt_int ?_
    rw [show pairLtB p q = decide (p.1 < q.1) by unfold pairLtB; rw [hc]; rfl] at h
    exact h

/-- the numbers of the places, told apart by the pairs that stand there -/
theorem ord_pairs {ps : List (Int × Int)} (hn : ps.Nodup) : Ord (fun i j => pairLtB (ps.getD i (0, 0)) (ps.getD j (0, 0))) ps.length := by
  refine ⟨fun i j hi hj hij => ?_, fun i j h => ?_, fun i j k h1 h2 => ?_⟩
  · simp only [pairLtB_iff]
    refine pairLt_tri fun q => ?_
    have e1 : ps.getD i (0, 0) = ps[i] := by simp [hi]
    have e2 : ps.getD j (0, 0) = ps[j] := by simp [hj]
    rw [e1, e2] at q
    rcases Nat.lt_or_gt_of_ne hij with hl | hl
    · exact List.pairwise_iff_getElem.mp hn i j hi hj hl q
    · exact List.pairwise_iff_getElem.mp hn j i hj hi hl q.symm
  · have h' := pairLtB_iff.mp h
    cases e : pairLtB (ps.getD j (0, 0)) (ps.getD i (0, 0)) with
    | false => rfl
    | true => exact absurd (pairLt_trans h' (pairLtB_iff.mp e)) pairLt_irrefl
  · exact pairLtB_iff.mpr (pairLt_trans (pairLtB_iff.mp h1) (pairLtB_iff.mp h2))

theorem list_sort_pairs {a : Addr} {n : Nat} {vs : List Value} {ps : List (Int × Int)} {P : PySem.Fin → Shared → Prop} (ho : s.heap.get? a = some (seqObj "list" vs.toArray n)) (hp : PairsAt s.heap vs ps) (hn : ps.Nodup) (h2 : 2 ≤ vs.length) (h64 : vs.length < 64)
    (h : ∀ p h' c, Arr ps.length p → Srt (fun i j => pairLtB (ps.getD i (0, 0)) (ps.getD j (0, 0))) p ps.length → (∀ b o, b ≠ a → s.heap.get? b = some o → h'.get? b = some o) → h'.get? a = some (seqObj "list" (List.toArray (p.toList.map fun i => vs.getD i Value.none)) c) → P (.done (.ret .none)) { s with heap := h' }) :
    wpAny (model prog w) A (Builtin.«list.sort» ⟨[.ref a], []⟩) P E s := by
  have ha : a < s.heap.objs.size := Heap.lt_size ho
  have hpl := hp.len
  have s1 := Heap.SameBut.update s.heap a (Obj.mapSeq fun _ => (#[] : Array Value))
  obtain ⟨e1, ho1⟩ : ∃ e1, (s.heap.update a (Obj.mapSeq fun _ => (#[] : Array Value))).get? a = some (seqObj "list" #[] e1) := ⟨_, get?_update_seq ho fun _ => #[]⟩
  have keep : ∀ b o, b ≠ a → s.heap.get? b = some o → (((s.heap.update a (Obj.mapSeq fun _ => (#[] : Array Value))).push (seqObj "tuple" vs.toArray 0)).push (seqObj "list" #[] 0)).get? b = some o := fun b o hb e =>
    Heap.get?_push_of_some _ (Heap.get?_push_of_some _ (s1.extBut b o hb e))
  have hoa : (((s.heap.update a (Obj.mapSeq fun _ => (#[] : Array Value))).push (seqObj "tuple" vs.toArray 0)).push (seqObj "list" #[] 0)).get? a = some (seqObj "list" #[] e1) := Heap.get?_push_of_some _ (Heap.get?_push_of_some _ ho1)
  have hp' : PairsAt (((s.heap.update a (Obj.mapSeq fun _ => (#[] : Array Value))).push (seqObj "tuple" vs.toArray 0)).push (seqObj "list" #[] 0)) vs ps := hp.keeps fun b xs ht => by
    obtain ⟨o, e, c, k, d⟩ := ht
    exact ⟨o, keep b o (fun q => by subst q; rw [ho] at e; cases e; simp [seqObj] at c) e, c, k, d⟩
  rw [list_sort_plain]
  refine wpAny_bind (listItems_at ho rfl ?_)
  refine wpAny_bind (listUpdate_at ho rfl ?_ (by rw [List.size_toArray, sizeLine_eq]; omega) (Nat.zero_le _))
  refine wpAny_bind (seqEpoch_at ho1 rfl ?_)
  refine wpAny_bind (wpAny_newTuple ?_ (by show vs.length ≤ _; rw [sizeLine_eq]; omega))
  refine wpAny_bind (wpAny_newList ?_ (Nat.zero_le _))
  refine wpAny_holding ?_
  show wpAny (model prog w) A _ P E { s with heap := ((s.heap.update a (Obj.mapSeq fun _ => (#[] : Array Value))).push (seqObj "tuple" vs.toArray 0)).push (seqObj "list" #[] 0) }
  generalize hh : ((s.heap.update a (Obj.mapSeq fun _ => (#[] : Array Value))).push (seqObj "tuple" vs.toArray 0)).push (seqObj "list" #[] 0) = h₁ at *
  dsimp only
  have hn2 : ¬ vs.toArray.size < 2 := by rw [List.size_toArray]; omega
  rw [if_neg hn2, if_neg hn2]
  obtain ⟨fs, ht, hfl, hfi⟩ := hp'.tups
  refine wpAny_bind (kat_kind (s := { s with heap := h₁ }) (T := .type "int") ht (by omega) (fun v hv => by obtain ⟨i, t, rfl⟩ := hfi v hv; exact Looks.of_pure rfl) rfl ?_)
  rw [show (Value.type "int" != Value.type "tuple") = true by decide]
  have hk : (kas_sort vs.length).kasWp (kas_ask prog w A (tuples' true) vs) (fun p s'' => s'' = { s with heap := h₁ } ∧ Arr ps.length p ∧ Srt (fun i j => pairLtB (ps.getD i (0, 0)) (ps.getD j (0, 0))) p ps.length) { s with heap := h₁ } := by
    rw [hpl]
    refine krun_wp (fun i j C hi hj hC => ?_) _ (run_sort (ord_pairs hn) (by omega) fun p a s => ⟨rfl, a, s⟩)
    obtain ⟨x, t, u, ex, hx⟩ := hp'.get i hi
    obtain ⟨y, t', u', ey, hy⟩ := hp'.get j hj
    show wpAny _ _ (keyLt' _ (vs.getD i Value.none) (vs.getD j Value.none)) _ _ _
    rw [ex, ey]
    exact pair_lt hx hy hC
  refine wpAny_bind (wpAny_mono (kat_run (Q := fun st' s' => ∃ p : Array Nat, p.size = vs.length ∧ arrOf st' = p.map (kas_item (vs.toArray.zip vs.toArray)) ∧ failedOf st' = none ∧ s' = { s with heap := h₁ } ∧ Arr ps.length p ∧ Srt (fun i j => pairLtB (ps.getD i (0, 0)) (ps.getD j (0, 0))) p ps.length)
    rfl h2 h64 (fun p' st' s' a1 a2 a3 a4 => ⟨p', a1, a2, a3, a4⟩) hk) ?_ fun _ _ e => e)
  rintro ⟨⟨⟩, st'⟩ s' ⟨p, hps, har, hf, rfl, hA, hS⟩
  dsimp only
  have hout := kat_snds rfl har
  have hsz : (List.toArray (p.toList.map fun i => vs.getD i Value.none)).size = vs.length := by rw [List.size_toArray, List.length_map, Array.length_toList, hps]
  rw [hout]
  have s2 := Heap.SameBut.update h₁ a (Obj.mapSeq fun _ => List.toArray (p.toList.map fun i => vs.getD i Value.none))
  obtain ⟨c2, hc2⟩ : ∃ c2, (h₁.update a (Obj.mapSeq fun _ => List.toArray (p.toList.map fun i => vs.getD i Value.none))).get? a = some (seqObj "list" (List.toArray (p.toList.map fun i => vs.getD i Value.none)) c2) := ⟨_, get?_update_seq hoa fun _ => List.toArray (p.toList.map fun i => vs.getD i Value.none)⟩
  refine wpAny_bind (seqEpoch_at hoa rfl ?_)
  refine wpAny_bind (listUpdate_at hoa rfl ?_ (Nat.zero_le _) (Nat.le_trans (Nat.le_of_eq hsz) (by rw [sizeLine_eq]; omega)))
  rw [hf]
  simp only [bne_self_eq_false, Bool.false_eq_true, if_false]
  exact wpAny_pure (h p _ c2 hA hS (fun b o hb e => s2.extBut b o hb (keep b o hb e)) hc2)

theorem sorted_pairs {l : Addr} {vs : List Value} {ps : List (Int × Int)} {Q : Value → Shared → Prop} (hl : s.heap.IsList l vs.toArray) (hp : PairsAt s.heap vs ps) (hn : ps.Nodup) (h2 : 2 ≤ vs.length) (h64 : vs.length < 64)
    (h : ∀ p h' D c, Arr ps.length p → Srt (fun i j => pairLtB (ps.getD i (0, 0)) (ps.getD j (0, 0))) p ps.length → (∀ b o, s.heap.get? b = some o → h'.get? b = some o) → s.heap.get? D = none → h'.get? D = some (seqObj "list" (List.toArray (p.toList.map fun i => vs.getD i Value.none)) c) → Q (.ref D) { s with heap := h' }) :
    wpAny (model prog w) A (call (.builtin "sorted") [.ref l]) Q E s := by
  refine Calls.call_function_entry kind_sorted plain_sorted entry_sorted (args_sorted1 _) ?_
  unfold Builtin.«sorted»
  refine wpAny_bind (m := checkCount "sorted" 1 1 _) (wpAny_pure ?_)
  refine wpAny_bind (collect_list hl ?_ (by rw [sizeLine_eq]; omega))
  refine wpAny_bind (wpAny_newList ?_ (by rw [sizeLine_eq]; omega))
  have hsz : ((s.heap.push (seqObj "list" #[] 0)).update s.heap.objs.size (Obj.mapSeq (· ++ vs.toArray))).objs.size = s.heap.objs.size + 1 := by
    rw [Heap.size_update, size_push']
  have hoL : (((s.heap.push (seqObj "list" #[] 0)).update s.heap.objs.size (Obj.mapSeq (· ++ vs.toArray))).push (seqObj "list" vs.toArray 0)).get? (s.heap.objs.size + 1) = some (seqObj "list" vs.toArray 0) := by
    rw [← hsz]; exact Heap.get?_push_size _ rfl
  have keep : ∀ b o, s.heap.get? b = some o → (((s.heap.push (seqObj "list" #[] 0)).update s.heap.objs.size (Obj.mapSeq (· ++ vs.toArray))).push (seqObj "list" vs.toArray 0)).get? b = some o := fun b o q => by
    have hlt : b < s.heap.objs.size := Heap.lt_size q
    rw [Heap.get?_push_ne _ _ _ (by rw [hsz]; exact Nat.ne_of_lt (Nat.lt_succ_of_lt hlt)), Heap.get?_update_ne _ _ _ _ (Nat.ne_of_lt hlt), Heap.get?_push_ne _ _ _ (Nat.ne_of_lt hlt)]
    exact q
  show wpAny _ _ _ _ _ { s with heap := ((s.heap.push (seqObj "list" #[] 0)).update s.heap.objs.size (Obj.mapSeq (· ++ vs.toArray))).push (seqObj "list" vs.toArray 0) }
  rw [hsz]
  have hnone : s.heap.get? (s.heap.objs.size + 1) = none := Heap.get?_none_of_le (Nat.le_succ _)
  refine wpAny_bind (wpAny_holding (wpAny_call_entry slot_list_sort ⟨_, hoL, rfl⟩ entry_list_sort ?body (args_list_sort _)))
  case body =>
    refine list_sort_pairs (s := { s with heap := ((s.heap.push (seqObj "list" #[] 0)).update s.heap.objs.size (Obj.mapSeq (· ++ vs.toArray))).push (seqObj "list" vs.toArray 0) })
      hoL (hp.keeps fun b xs ht => by obtain ⟨o, e, r⟩ := ht; exact ⟨o, keep _ _ e, r⟩) hn h2 h64 fun p h' c hA hS hk hD => ?_
    exact ⟨_, rfl, wpAny_pure ⟨_, rfl, h p h' _ c hA hS (fun b o e => hk b o (fun q => by rw [q, hnone] at e; cases e) (keep b o e)) hnone hD⟩⟩
/-- the pairs as the sort lays them -/
theorem pairs_out {ps qs : List (Int × Int)} {p : Array Nat} (hperm : qs.Perm ps) (hq : qs.Pairwise pairLt) (hA : Arr ps.length p) (hS : Srt (fun i j => pairLtB (ps.getD i (0, 0)) (ps.getD j (0, 0))) p ps.length) : (p.toList.map fun i => ps.getD i (0, 0)) = qs := by
  have hsz : p.toList.length = ps.length := by rw [Array.length_toList, hA.size]
  refine List.Perm.eq_of_pairwise (le := pairLt) (fun a b _ _ h k => absurd (pairLt_trans h k) pairLt_irrefl) ?_ hq ?_
  · rw [List.pairwise_iff_getElem]
    intro i j hi hj hij
    rw [List.length_map, hsz] at hi hj
    have hi' : i < p.size := by rw [hA.size]; exact hi
    have hj' : j < p.size := by rw [hA.size]; exact hj
    have := pairLtB_iff.mp (hS i j hij hj)
    simpa [Array.getD, hi', hj'] using this
  · have h1 : p.toList.Perm (List.range ps.length) := by simpa using Array.Perm.toList hA
    have h2 := h1.map fun i => ps.getD i (0, 0)
    have h3 : (List.range ps.length).map (fun i => ps.getD i (0, 0)) = ps := by
      apply List.ext_getElem (by simp)
      intro i h1 h2
      simp [h2]
    rw [h3] at h2
    exact h2.trans hperm.symm
theorem reps_at {W : List Addr} {h : Heap} {vs : List Value} {ps : List (Int × Int)} (r : Reps W h vs (ps.map pairD)) : ∀ (l : List Nat), (∀ i ∈ l, i < ps.length) → Reps W h (l.map fun i => vs.getD i Value.none) ((l.map fun i => ps.getD i (0, 0)).map pairD)
  | [], _ => .nil
  | i :: l, hl => by
    refine .cons ?_ (reps_at r l fun j hj => hl j (.tail _ hj))
    have hi := hl i (.head _)
    obtain ⟨v, hv, rv⟩ := r.get (k := i) (d := pairD (ps.getD i (0, 0))) (by simp [hi])
    have : vs.getD i Value.none = v := by simp [hv]
    show Rep W h (vs.getD i Value.none) _
    rw [this]; exact rv
end
/-- sorted of distinct pairs -/
theorem Calls.sortedPairs {G : Gd} {n : Nat} {σ : Sig} {ps qs : List (Int × Int)} (h2 : 2 ≤ ps.length) (h64 : ps.length < 64) (hperm : qs.Perm ps) (hq : qs.Pairwise pairLt) : Calls G n σ (.builtin "sorted") [.list (ps.map pairD)] (.list (qs.map pairD)) := by
  intro A F s _ g rr
  obtain ⟨_, rfl, r⟩ := rr.oneI
  obtain ⟨_, _, rfl, hw, hl, rs⟩ := r.listI
  have hlen : _ = ps.length := rs.len.trans (List.length_map ..)
  have hnd : ps.Nodup := hperm.nodup_iff.mp (hq.imp fun h q => by subst q; exact pairLt_irrefl h)
  refine sorted_pairs hl.1 (PairsAt.of_reps rs) hnd (by omega) (by omega) fun p h' D c hA hS hk hD hD' => ?_
  have x : Step G F [] s { s with heap := h' } := Step.of_keep (h' := h') (tk := s.toks) hk
  have g' : GIn G n σ A F { s with heap := h' } := ⟨g.good.step g.room.freshF (fun _ q => absurd q List.not_mem_nil) x, g.room.step x (fun _ q => absurd q List.not_mem_nil), g.sig.step0 g.good g.room.dicts x, g.own⟩
  refine ⟨x, ?_⟩
  rw [← pairs_out hperm hq hA hS]
  refine .list (fun q => ?_) ⟨⟨_, hD', rfl, _, rfl⟩, ⟨_, hD', rfl⟩⟩ (reps_at ((x.rep0 g.good g.sig).2 rs) p.toList fun i hi => ?_)
  · obtain ⟨w, hw, e⟩ := List.mem_map.mp q
    obtain ⟨o, e', _⟩ := (g.sig.at_ w hw).live
    rw [e, hD] at e'; cases e'
  · have := hA.mem_iff.mp (Array.mem_toList_iff.mp hi)
    simpa using this
end Mine
end
section
open PySem PySem.W PySem.Calls PyProof.Rows PySem.Builtin
namespace Mine

section
variable {G : Gd} {n : Nat} {σ : Sig} {X : Cx}
/-- an object of the ground other than the code table stands -/
theorem Good.stands {s : Shared} (g : Good G s) {a : Addr} {o : Obj} (e : G.s1.heap.get? a = some o) (h : ∀ vs, o.data ≠ .fields vs) : s.heap.get? a = some o := by
  refine g.keep a o (fun q => ?_) e
  obtain ⟨ps, h1⟩ := g.ok.tab
  rw [q, h1] at e; cases e; exact h _ rfl
theorem stands_text {s : Shared} {a : Addr} {D : List (Str × PyData)} (g : Good G s) (T : KTD.TabOf (fun d v => PyProof.V.Flat v d) G.s1.heap a D) : KTD.Here s.heap s.heap a (D.map fun p => (p.1, KTD.Dat.flat p.2)) := by
  obtain ⟨lo, o, es, ep, ho, hc, hd, hr⟩ := T
  exact ⟨KTD.TabOf.text ⟨lo, o, es, ep, g.stands ho (fun vs q => by rw [hd] at q; cases q), hc, hd, hr⟩, fun _ _ e => e⟩
theorem datumAt_flat {k : Str} : ∀ {D : List (Str × PyData)}, KTD.datumAt k (D.map fun p => (p.1, KTD.Dat.flat p.2)) = (KTD.datumAt k D).map KTD.Dat.flat
  | [] => rfl
  | (i, d) :: D => by
    show (if decide (k = i) = true then some (KTD.Dat.flat d) else KTD.datumAt k (D.map fun p => (p.1, KTD.Dat.flat p.2))) = (if decide (k = i) = true then some d else KTD.datumAt k D).map KTD.Dat.flat
    rw [datumAt_flat]
    split <;> rfl
/-- a word looked up in a table of the text -/
theorem Sub1.text {a : Addr} {D : List (Str × PyData)} {k : Str} {i : Int} (T : KTD.TabOf (fun d v => PyProof.V.Flat v d) X.G.s1.heap a D) (hk : KTD.datumAt k D = some (.int i)) : Sub1 X (.fn (.ref a)) (.str k) (.int i) := by
  intro A env F s _ _ value slice I r1 r2 hs
  obtain rfl := r1.fnI
  obtain ⟨_, rfl⟩ := r2.strI
  have T' := stands_text I.good T
  obtain ⟨ops, hs⟩ := hs (.ref a) (.str k _)
  refine tail_any T'.typeIs PySem.F.slot_dict_getitem.lookup ?_ hs
  unfold getItem
  try with_reducible refine wpAny_holding ?_
  refine wpAny_bind (wpAny_sequenceKey T'.typeIs (by decide) ?_)
  refine wpAny_bind (wpAny_callSpecial?_slot (name := Str.ofString "__getitem__") T'.typeIs PySem.F.slot_dict_getitem
    (wpAny_call_entry PySem.F.slot_dict_getitem T'.typeIs PySem.F.entry_dict_getitem ?_ (args_dict_getitem _ _)))
  show wpAny _ _ (dictGet a (.str k _) >>= _) _ _ s
  refine wpAny_bind (KTD.dictGet_text T' (fun d v ha hv => wpAny_pure ⟨v, rfl, wpAny_pure ⟨Step.toks, ?_⟩⟩) fun hn => ?_)
  · rw [datumAt_flat, hk] at ha
    cases ha
    obtain ⟨t, rfl⟩ := PyProof.V.Flat.int_inv hv
    exact .int _ _
  · rw [datumAt_flat, hk] at hn; cases hn
theorem stands_int {s : Shared} {a : Addr} {D : List (PyData × PyData)} (g : Good G s) (T : IntTab G.prog G.w G.s1.heap a D) : IntTab G.prog G.w s.heap a D := by
  obtain ⟨lo, kvs, ⟨o, es, ep, ho, hc, hd, r⟩, hf⟩ := T
  exact ⟨lo, kvs, ⟨o, es, ep, g.stands ho (fun vs q => by rw [hd] at q; cases q), hc, hd, r⟩, hf⟩
theorem Meth.getInt {a : Addr} {D : List (PyData × PyData)} (T : IntTab X.G.prog X.G.w X.G.s1.heap a D) : Meth X (.fn (.ref a)) "get" "dict.get" := by
  intro A env F s _ pl Q I r1 h
  obtain rfl := r1.fnI
  exact getMethod_intTab_get (stands_int I.good T) (h s.toks)
theorem Calls.getInt {a : Addr} {D : List (PyData × PyData)} {i : Int} {x y : Str} (T : IntTab G.prog G.w G.s1.heap a D) (h : (PySem.Spec.lookup (.int i) D).getD (.str x) = .str y) : Calls G n σ (.builtin "dict.get") [.fn (.ref a), .int i, .str x] (.str y) := by
  intro A F s _ g rs
  obtain ⟨_, _, _, rfl, r1, r2, r3⟩ := rs.threeI
  obtain rfl := r1.fnI
  obtain ⟨_, rfl⟩ := r2.intI
  obtain ⟨_, rfl⟩ := r3.strI
  refine call_get2_intTab (stands_int g.good T) (PyProof.V.Flat.str _ _) fun v hv => ⟨Step.toks, ?_⟩
  rw [h] at hv
  obtain ⟨t, rfl⟩ := PyProof.V.Flat.str_inv hv
  exact .str _ _
end
end Mine
end
section
local macro_rules | `(tactic| omega) => `(tactic| lia)
open PySem PySem.W PySem.Calls PyProof.Rows PySem.Builtin
namespace Mine

section
variable {prog : Program} {w : World} {A : Around} {E : Value → Shared → Prop} {s : Shared} {env : Env}
/-- a slice of what is not a name -/
theorem subscript_slice {value : Expr} {lower upper : Option Expr} {p pos : Pos} {T id : String} {Q : Value → Shared → Prop} (hl : typeLookup (.type T) "__getitem__" = pure (some (.builtin id)))
    (h : wpAny (model prog w) A (eval value env) (fun o s₁ => wpAny (model prog w) A (eval (.Slice lower upper none p) env) (fun i s₂ => s₂.TypeIs o T ∧ wpAny (model prog w) A (getItem o i) Q E s₂) E s₁) E s) :
    wpAny (model prog w) A (eval (.Subscript value (.Slice lower upper none p) pos) env) Q E s := by
  rw [eval_Subscript]
  refine wpAny_bind (wpAny_mono h (fun o s₁ h₁ => wpAny_bind (wpAny_holding (wpAny_mono h₁ (fun i s₂ h₂ => wpAny_bind (wpAny_standAt ?_)) fun _ _ x => x)))
    fun _ _ x => x)
  have fin : wpAny (model prog w) A (operate [i, o] (getItem o i)) (fun r s₃ => wpAny (model prog w) A (letTemporaryGo value o r >>= fun _ => pure r) Q E s₃) E s₂ :=
    wpAny_operating (wpAny_mono h₂.2 (fun r s₃ h₃ => wpAny_bind (wpAny_letTemporaryGo (wpAny_pure h₃))) fun _ _ x => x)
  first
    | (refine wpAny_bind ?_
       rw [getitemInPython_of_ne h₂.1.not_modules]
       refine wpAny_bind (wpAny_specialOf h₂.1 hl ?_)
       first
         | exact wpAny_pure (wpAny_bind fin)
         | exact wpAny_bind (wpAny_pure (wpAny_bind fin))
         | exact wpAny_bind fin)
    | (refine wpAny_bind (wpAny_specialOf h₂.1 hl ?_)
       first
         | exact wpAny_bind (wpAny_pure (wpAny_bind fin))
         | exact wpAny_bind fin)
end
section
variable {X : Cx}
/-- a slice of a text that an expression gives -/
theorem Ev.sliceT {value : Expr} {lo hi : Option Expr} {l h : Option Int} {p pos : Pos} {x : Str} (hd : Ev X value (.str x)) (hl : PartEv X lo l) (hh : PartEv X hi h) (hb : x.length ≤ 100000) : Ev X (.Subscript value (.Slice lo hi none p) pos) (.str (Txt.slice x l h)) := fun A env F s I => by
  refine subscript_slice (T := "str") PySem.F.slot_str_getitem.lookup (wpAny_mono (hd A env F s I) (fun v s₁ ⟨x₁, r₁⟩ => wpAny_Slice (wpAny_mono (hl.at (I.step x₁)) (fun vl s₂ ⟨x₂, pl, e₂, f₂⟩ => wpAny_mono (hh.at ((I.step x₁).step x₂)) (fun vh s₃ ⟨x₃, ph, e₃, f₃⟩ => ?_) fun _ _ e => e) fun _ _ e => e)) fun _ _ e => e)
  obtain ⟨t, rfl⟩ := r₁.strI
  subst e₂ e₃
  rw [evalPart_none]
  refine wpAny_pure ⟨typeIs_str _ x t, wpAny_getItem_str_slice (l := pl) (u := ph) (st := none) ⟨_, Heap.get?_push_size _ rfl, rfl, rfl⟩ rfl ?_⟩
  have y := step_push (G := X.G) (F := F) (O := []) (s := s₃) (o := { cls := .type "slice", data := .fields #[partValue pl, partValue ph, .none] })
  have st := ((x₁.trans x₂).trans x₃).trans y
  unfold sliceMade
  subst f₂ f₃
  unfold Txt.slice
  show (if (1 == 1 && (slicePicked x pl ph none).length == x.length) = true then Made.val (.str x t) else Made.str ⟨((slicePicked x pl ph none).filterMap (x.cps[·]?)).toArray⟩).post _ _
  have e : slicePicked x pl ph none = Builtin.Str.strSliceIndices (pl.map (·.1)) (ph.map (·.1)) 1 x.length := rfl
  rw [e]
  by_cases c : ((1 : Int) == 1 && (Builtin.Str.strSliceIndices (pl.map (·.1)) (ph.map (·.1)) 1 x.length).length == x.length) = true
  · rw [if_pos c, if_pos c]
    exact ⟨st, .str _ _⟩
  · rw [if_neg c, if_neg c]
    refine ⟨?_, st.trans Step.toks, .str _ _⟩
    show (List.toArray _).size ≤ sizeLine
    rw [sizeLine_eq]
    refine Nat.le_trans (Nat.le_of_eq (List.size_toArray ..)) (Nat.le_trans (List.length_filterMap_le ..) (Nat.le_trans (sliceIndices_le _ _ _) (by omega)))

/-- a list's items at the places of a slice with a step -/
def pickL (ds : List D) (l h st : Option Int) : List D := (sliceRange (sliceBounds l h st ds.length).1 (sliceBounds l h st ds.length).2.1 (sliceBounds l h st ds.length).2.2).filterMap (ds[·]?)
theorem Reps.places {W : List Addr} {h : Heap} {vs : List Value} {ds : List D} (r : Reps W h vs ds) : ∀ l : List Nat, Reps W h (l.filterMap (vs[·]?)) (l.filterMap (ds[·]?))
  | [] => .nil
  | i :: l => by
    have ih := Reps.places r l
    cases e : ds[i]? with
    | some d =>
      obtain ⟨v, hv, rv⟩ := r.get e
      simp only [List.filterMap_cons, e, hv]
      exact .cons rv ih
    | none =>
      have hv : vs[i]? = none := by
        rw [List.getElem?_eq_none_iff] at e ⊢
        rw [r.len]; exact e
      simp only [List.filterMap_cons, e, hv]
      exact ih
theorem Ev.sliceL3 {value : Expr} {lo hi : Option Expr} {ste : Expr} {l h : Option Int} {k : Int} {p pos : Pos} {ds : List D} (hd : Ev X value (.list ds)) (hl : PartEv X lo l) (hh : PartEv X hi h) (hk : Ev X ste (.int k)) (hk0 : k ≠ 0) (hb : ds.length ≤ 100000)
    (ht : ∀ o r, letTemporaryGo value o r = pure () := by intro _ _; rfl) : Ev X (.Subscript value (.Slice lo hi (some ste) p) pos) (.list (pickL ds l h (some k))) := fun A env F s I => by
  refine wpAny_Subscript_Slice_step (T := "list") slot_list_getitem.lookup (wpAny_mono (hd A env F s I) (fun v s₁ ⟨x₁, r₁⟩ => wpAny_Slice (wpAny_mono (hl.at (I.step x₁)) (fun vl s₂ ⟨x₂, pl, e₂, f₂⟩ => wpAny_mono (hh.at ((I.step x₁).step x₂)) (fun vh s₃ ⟨x₃, ph, e₃, f₃⟩ => wpAny_mono (hk A env F s₃ (((I.step x₁).step x₂).step x₃)) (fun vk s₄ ⟨x₄, r₄⟩ => ?_) fun _ _ e => e) fun _ _ e => e) fun _ _ e => e)) fun _ _ e => e) ht
  have I₄ := (((I.step x₁).step x₂).step x₃).step x₄
  have x₁₄ := ((x₁.trans x₂).trans x₃).trans x₄
  obtain ⟨tk, rfl⟩ := r₄.intI
  have r₁' := (((I.step x₁).step x₂).step x₃).rep x₄ (((I.step x₁).step x₂).rep x₃ ((I.step x₁).rep x₂ r₁))
  obtain ⟨a, vs, rfl, hw, hls, rs⟩ := r₁'.listI
  have y := step_push (G := X.G) (F := F) (O := []) (s := s₄) (o := { cls := .type "slice", data := .fields #[vl, vh, .int k tk] })
  have I₅ := I₄.step y
  refine ⟨(hls.1.push _).typeIs, wpAny_getItem_list_slice (lo := l) (hi := h) (st := some k) (hls.1.push _) (Heap.IsSliceOf.new ..) (by rw [e₂, ← f₂]; exact partIs) (by rw [e₃, ← f₃]; exact partIs) (IsPart.int _ _) (by simpa using hk0) ?_ (by rw [List.size_toArray, rs.len]; unfold sizeLine; omega)⟩
  have z := step_push (G := X.G) (F := F) (O := []) (s := { s₄ with heap := s₄.heap.push { cls := .type "slice", data := .fields #[vl, vh, .int k tk] } }) (o := { cls := .type "list", data := .seq (slicePick vs.toArray l h (some k)) })
  refine ⟨(x₁₄.trans y).trans z, ?_⟩
  have e : (slicePick vs.toArray l h (some k)).toList = (sliceRange (sliceBounds l h (some k) ds.length).1 (sliceBounds l h (some k) ds.length).2.1 (sliceBounds l h (some k) ds.length).2.2).filterMap (vs[·]?) := by
    simp [slicePick, rs.len]
  have q : Reps (wOf X.σ) (s₄.heap.push { cls := .type "slice", data := .fields #[vl, vh, .int k tk] }) (slicePick vs.toArray l h (some k)).toList (pickL ds l h (some k)) := by
    rw [e]; exact (I₄.reps y rs).places _
  have := I₅.new_list q
  rw [Array.toArray_toList] at this
  exact this
end
end Mine
end
section
local macro_rules | `(tactic| omega) => `(tactic| lia)
open PySem PySem.W PySem.Calls PyProof.Rows PySem.Builtin
namespace Mine

def stmtAt (i : Nat) : Option Stmt := PySem.Challenge.pw_ta0064_01.main.body[i]?
def bodyAt (i : Nat) : List Stmt := match stmtAt i with
  | some (.FunctionDef _ _ b _ _ _ _ _ _ _) => b
  | _ => []
def scopeAt (i : Nat) : Scope := match stmtAt i with
  | some (.FunctionDef _ _ _ _ _ _ s _ _ _) => s
  | _ => ⟨.function, [], false, false, []⟩

section
variable {X : Cx} {V : List Addr} {Φ : Out → Prop}
theorem Ev.at (i : Nat) {x : Str} {pos : Pos} {d : D} (h : X.ρ[i]? = some (x, d)) : Ev X (.Name x pos) d := Ev.name (List.mem_of_getElem? h)
theorem mem_erase {ρ : Env0} {i : Nat} : ∀ p ∈ ρ.eraseIdx i, p ∈ ρ := fun p h => List.mem_of_mem_eraseIdx h
theorem ne_all {ρ : Env0} {y : Str} (h : (ρ.all fun p => p.1 != y) = true) : ∀ p ∈ ρ, p.1 ≠ y := fun p hp q => by
  have := List.all_eq_true.mp h p hp
  rw [q] at this; simp at this
/-- go on with the rest, the frame's standing parts written out -/
def goC (G : Gd) (n : Nat) (sc : Scope) (cd : Value) (rest : List Stmt) (Φ : Out → Prop) : Out → Prop
  | .next ρ σ V => St ⟨G, n, sc, cd, ρ, σ⟩ V rest Φ
  | o => Φ o
theorem St.c {G : Gd} {n : Nat} {sc : Scope} {cd : Value} {ρ : Env0} {σ : Sig} {st : Stmt} {rest : List Stmt} (h : St1 ⟨G, n, sc, cd, ρ, σ⟩ V st (goC G n sc cd rest Φ)) : St ⟨G, n, sc, cd, ρ, σ⟩ V (st :: rest) Φ :=
  St.cons (h.mono fun o ho => by cases o <;> exact ho)
theorem St.end_ {G : Gd} {n : Nat} {sc : Scope} {cd : Value} {ρ : Env0} {σ : Sig} (h : Φ (.next ρ σ V)) : St ⟨G, n, sc, cd, ρ, σ⟩ V [] Φ := St.nil h
/-- a name is assigned; i: where it stood -/
theorem St1.set (i : Nat) {G : Gd} {n : Nat} {sc : Scope} {cd : Value} {ρ : Env0} {σ : Sig} {y : Str} {py pos : Pos} {e : Expr} {d : D} (he : Ev ⟨G, n, sc, cd, ρ, σ⟩ e d) (h : Φ (.next ((y, d) :: ρ.eraseIdx i) σ V))
    (hk : storable sc y = true := by kernel_rfl) (h2 : ((ρ.eraseIdx i).all fun p => p.1 != y) = true := by kernel_rfl) (hy : niceName y := by decide +kernel)
    (hs : ∀ env, env.scope = sc → swapsWith e (some (.Name y py)) pos.line env = pure false := by intro _ _; rfl) : St1 ⟨G, n, sc, cd, ρ, σ⟩ V (.Assign [.Name y py] e pos) Φ :=
  St1.assign he hk mem_erase (ne_all h2) hy h hs
/-- the names told in another order, or fewer of them -/
theorem St.re (ρ' : Env0) {G : Gd} {n : Nat} {sc : Scope} {cd : Value} {ρ : Env0} {σ : Sig} {ss : List Stmt} (h : St ⟨G, n, sc, cd, ρ', σ⟩ V ss Φ) (hm : ∀ p ∈ ρ', p ∈ ρ) : St ⟨G, n, sc, cd, ρ, σ⟩ V ss Φ :=
  St.weak (X := ⟨G, n, sc, cd, ρ, σ⟩) hm (fun _ h => h) id h
theorem Sub1.listN {d : D} {ds : List D} {i : Nat} {r : D} (l : LstAt X.σ d ds) (hb : i ≤ 100000) (hr : ds[i]? = some r) : Sub1 X d (.int i) r :=
  Sub1.list l (by omega) (by omega) (by rw [Int.toNat_natCast]; exact hr)
/-- what the binding of the parameters gives -/
def BindAs (G : Gd) (fd : FuncData) (kw : List (Str × Value)) (xs : List Str) (ds es : List D) : Prop :=
  ∀ (σ : Sig) s vs, G.K.In s.heap → vs.length = ds.length → ∃ ws, BindsTo s fd ⟨vs, kw⟩ (xs.zip ws) ∧ (Reps (wOf σ) s.heap vs ds → Reps (wOf σ) s.heap ws es)
end

theorem c_isterminal {G : Gd} {n : Nat} {σ : Sig} {V : List Addr} {a : Addr} {cd : Value} {fd : FuncData} {t : Tok} (K : FnK G a (bodyAt 63) (scopeAt 63) cd fd) (hb : ∀ d, BindAs G fd [] ["x"] [d] [d]) (hN : nsIn G.K mainGlobals "NT_OFFSET" = some (some (.int 256 t))) {x : Int} :
    CallsM G (n + 1) σ V (.ref a) [.int x] [] (fun d σ' => d = .bool (decide (x < 256)) ∧ σ' = σ) := by
  refine CallsM.of_body K (hb _ σ) (by kernel_rfl) (by simp) (by intro y hy; rw [List.mem_singleton.mp hy]; decide +kernel) rfl ?_
  refine St.c (St1.ret (Ev.cmp (Ev.at 0 rfl) (Ev.globD (by kernel_rfl) hN (fun _ _ => .int 256 t) (by decide +kernel)) Bin.lt) ⟨rfl, rfl⟩)
end Mine
end
section
local macro_rules | `(tactic| omega) => `(tactic| lia)
open PySem PySem.W PySem.Calls PyProof.Rows PySem.Builtin
namespace Mine

/-- the keys of a list's items, as bisect sees them: the items themselves or what a function gives of them -/
def KeysAt (G : Gd) (n : Nat) (σ : Sig) (dk : D) (ds : List D) (ks : List Int) : Prop :=
  (dk = .none ∧ ds = ks.map .int) ∨ ∃ f, dk = .fn f ∧ (f == Value.none) = false ∧ KeepV G n σ f ∧ ks.length = ds.length ∧ ∀ (i : Nat) (d : D) (k : Int), ds[i]? = some d → ks[i]? = some k → Calls G n σ f [d] (.int k)
theorem KeysAt.len {G : Gd} {n : Nat} {σ : Sig} {dk : D} {ds : List D} {ks : List Int} (h : KeysAt G n σ dk ds ks) : ks.length = ds.length := by
  rcases h with ⟨_, rfl⟩ | ⟨f, _, _, _, h, _⟩
  · simp
  · exact h

theorem half_eq {lo hi : Nat} : ((lo : Int) + hi).fdiv 2 = ((lo + hi) / 2 : Nat) := by
  rw [Int.fdiv_eq_ediv_of_nonneg _ (by omega)]; omega
theorem small_div {i j : Int} (hi : -1000000 ≤ i ∧ i ≤ 1000000) (hj : -1000000 ≤ j ∧ j ≤ 1000000) : Builtin.divisionGoesByPylong i j = false := PyProof.noPylong_small (by omega)

section
variable {G : Gd} {n : Nat} {σ : Sig} {V : List Addr}
abbrev srchρ (lo hi : Nat) (da : D) (x : Int) (dk : D) : Env0 := [("lo", .int lo), ("hi", .int hi), ("a", da), ("x", .int x), ("key", dk)]

/-- the loop of a search: bounds around c come together -/
theorem srch_while {sc : Scope} {cd : Value} {da dk : D} {x : Int} {c len lo H : Nat} {test : Expr} {body : List Stmt} {pos : Pos} {Φ : Out → Prop}
    (hT : ∀ lo hi : Nat, Tv ⟨G, n, sc, cd, srchρ lo hi da x dk, σ⟩ test (decide ((lo : Int) < hi)))
    (hB : ∀ lo hi : Nat, lo < hi → lo ≤ c → c ≤ hi → hi ≤ len → St ⟨G, n, sc, cd, srchρ lo hi da x dk, σ⟩ V body (fun o => match o with
      | .next ρ' σ' V' => σ' = σ ∧ V' = V ∧ ∃ lo' hi' : Nat, lo' ≤ c ∧ c ≤ hi' ∧ hi' ≤ len ∧ hi' - lo' < hi - lo ∧ ∀ p ∈ srchρ lo' hi' da x dk, p ∈ ρ'
      | _ => False))
    (h1 : lo ≤ c) (h2 : c ≤ H) (h3 : H ≤ len) (h : ∀ hi : Nat, Φ (.next (srchρ c hi da x dk) σ V)) : St1 ⟨G, n, sc, cd, srchρ lo H da x dk, σ⟩ V (.While test body [] pos) Φ := by
  refine St1.while_ (fun m ρ σ' V' => ∃ lo hi : Nat, lo ≤ c ∧ c ≤ hi ∧ hi ≤ len ∧ m = hi - lo ∧ ρ = srchρ lo hi da x dk ∧ σ' = σ ∧ V' = V) (H - lo) ⟨lo, H, h1, h2, h3, rfl, rfl, rfl, rfl⟩ ?_
  rintro m ρ σ' V' ⟨lo, hi, a1, a2, a3, rfl, rfl, rfl, rfl⟩
  refine ⟨decide ((lo : Int) < hi), hT lo hi, fun hb => ?_, fun hb => St.nil ?_⟩
  · refine St.mono (hB lo hi (by have := of_decide_eq_true hb; omega) a1 a2 a3) fun o ho => ?_
    cases o with
    | next ρ' σ' V' =>
      obtain ⟨rfl, rfl, lo', hi', b1, b2, b3, b4, b5⟩ := ho
      exact ⟨hi' - lo', _, b4, b5, lo', hi', b1, b2, b3, rfl, rfl, rfl, rfl⟩
    | _ => exact ho.elim
  · have : lo = c := by have := of_decide_eq_false hb; omega
    subst this
    exact h hi

theorem Ev.half {X : Cx} {l h : Expr} {k : Nat} {p : Const → Expr} {lo hi : Nat} {p1 p2 p3 : Pos} (hl : Ev X l (.int lo)) (hh : Ev X h (.int hi)) (hb : lo ≤ 100000) (hb' : hi ≤ 100000) : Ev X (.BinOp (.BinOp l .Add h p1) .FloorDiv (.Constant (.int 2) k p2) p3) (.int ((lo + hi) / 2 : Nat)) := by
  have := Ev.bin (pos := p3) (Ev.bin (pos := p1) hl hh Bin.add) (Ev.int (i := 2) (k := k) (pos := p2)) (Bin.div (X := X) (i := (lo : Int) + hi) (j := 2) (by decide) (small_div (by omega) (by omega)))
  rwa [half_eq] at this

theorem Bin.lt' {X : Cx} {i j : Int} {b : Bool} (h : decide (i < j) = b) : Bin X (compareOp .Lt) (.int i) (.int j) (.bool b) := h ▸ Bin.lt
theorem Bin.is_none' {X : Cx} {d : D} {b : Bool} (h : isNoneD d = b) : Bin X (compareOp .Is) d .none (.bool b) := h ▸ Bin.is_none

theorem bisR_body {da dk dh : D} {ds : List D} {ks : List Int} {x : Int} {lo c : Nat} {hi : Option Nat} {cd : Value}
    (hlen : nsIn G.K mainGlobals "len" = some none) (L : LstAt σ da ds) (hz : ds.length ≤ 100000) (hk : KeysAt G n σ dk ds ks)
    (hh : dh = (match hi with | none => D.none | some k => .int (k : Nat))) (h1 : lo ≤ c) (h2 : c ≤ hi.getD ds.length) (h3 : hi.getD ds.length ≤ ds.length)
    (hle : ∀ (i : Nat) (k : Int), ks[i]? = some k → i < c → k ≤ x) (hgt : ∀ (i : Nat) (k : Int), ks[i]? = some k → c ≤ i → x < k) :
    St ⟨G, n, scopeAt 2, cd, [("a", da), ("x", .int x), ("lo", .int lo), ("hi", dh), ("key", dk)], σ⟩ V (bodyAt 2) (fun o => match o with | .ret d σ' => d = .int c ∧ σ' = σ | _ => False) := by
  refine St.c (St1.skip (Tv.cmp (Ev.at 2 rfl) Ev.int (Bin.lt' (decide_eq_false (by omega)))) ?_)
  have hkl := hk.len
  have rest : ∀ H : Nat, c ≤ H → H ≤ ds.length → St ⟨G, n, scopeAt 2, cd, srchρ lo H da x dk, σ⟩ V ((bodyAt 2).drop 2) (fun o => match o with | .ret d σ' => d = .int c ∧ σ' = σ | _ => False) := by
    intro H hcH hH
    rcases hk with ⟨rfl, rfl⟩ | ⟨f, rfl, hf, hkv, hl, hc⟩
    · refine St.c (St1.ifs (b := true) (Tv.cmp (Ev.at 4 rfl) Ev.cnone Bin.is_none) (fun _ => ?_) fun q => nomatch q)
      refine St.c (srch_while (len := ks.length) (fun lo hi => Tv.cmp (Ev.at 0 rfl) (Ev.at 1 rfl) Bin.lt) (fun lo hi hlt a1 a2 a3 => ?_) h1 hcH (by simpa using hH) fun hi => St.end_ (St.c (St1.ret (Ev.at 0 rfl) ⟨rfl, rfl⟩)))
      have hm : (lo + hi) / 2 < ks.length := by omega
      refine St.c (St1.set 5 (Ev.half (p := fun _ => .Constant .none 0 ⟨0, 0, 0, 0⟩) (Ev.at 0 rfl) (Ev.at 1 rfl) (by omega) (by omega)) ?_)
      refine St.c (St1.ifs (Tv.cmp (Ev.at 4 rfl) (Ev.sub (Ev.at 3 rfl) (Ev.at 0 rfl) (Sub1.listN (r := .int ks[(lo + hi) / 2]) L (by omega) (by simp [hm]))) Bin.lt) (fun hb => ?_) fun hb => ?_)
      · refine St.c (St1.set 2 (Ev.at 0 rfl) (St.end_ (St.end_ ⟨rfl, rfl, lo, (lo + hi) / 2, a1, ?_, by omega, by omega, ?_⟩)))
        · have := of_decide_eq_true hb
          exact Nat.le_of_not_lt fun q => absurd (hle ((lo + hi) / 2) _ (List.getElem?_eq_getElem hm) q) (by omega)
        · exact subK (by kernel_rfl)
      · refine St.c (St1.set 1 (Ev.bin (Ev.at 0 rfl) Ev.int Bin.add) (St.end_ (St.end_ ⟨rfl, rfl, (lo + hi) / 2 + 1, hi, ?_, a2, a3, by omega, ?_⟩)))
        · have := of_decide_eq_false hb
          exact Nat.lt_of_not_le fun q => absurd (hgt ((lo + hi) / 2) _ (List.getElem?_eq_getElem hm) q) (by omega)
        · exact subK (by kernel_rfl)
    · refine St.c (St1.ifs (b := false) (Tv.cmp (Ev.at 4 rfl) Ev.cnone (Bin.is_none' hf)) (fun q => nomatch q) fun _ => ?_)
      refine St.c (srch_while (len := ks.length) (fun lo hi => Tv.cmp (Ev.at 0 rfl) (Ev.at 1 rfl) Bin.lt) (fun lo hi hlt a1 a2 a3 => ?_) h1 hcH (by rw [hl]; exact hH) fun hi => St.end_ (St.c (St1.ret (Ev.at 0 rfl) ⟨rfl, rfl⟩)))
      have hm : (lo + hi) / 2 < ks.length := by omega
      have hd : (lo + hi) / 2 < ds.length := by omega
      refine St.c (St1.set 5 (Ev.half (p := fun _ => .Constant .none 0 ⟨0, 0, 0, 0⟩) (Ev.at 0 rfl) (Ev.at 1 rfl) (by omega) (by omega)) ?_)
      refine St.c (St1.ifs (Tv.cmp (Ev.at 4 rfl) (Ev.call (Ev.at 5 rfl) (Evs.cons (Ev.sub (Ev.at 3 rfl) (Ev.at 0 rfl) (Sub1.listN (r := ds[(lo + hi) / 2]) L (by omega) (List.getElem?_eq_getElem hd))) Evs.nil) (hc _ _ _ (List.getElem?_eq_getElem hd) (List.getElem?_eq_getElem hm)) hkv) Bin.lt) (fun hb => ?_) fun hb => ?_)
      · refine St.c (St1.set 2 (Ev.at 0 rfl) (St.end_ (St.end_ ⟨rfl, rfl, lo, (lo + hi) / 2, a1, ?_, by omega, by omega, ?_⟩)))
        · have := of_decide_eq_true hb
          exact Nat.le_of_not_lt fun q => absurd (hle ((lo + hi) / 2) _ (List.getElem?_eq_getElem hm) q) (by omega)
        · exact subK (by kernel_rfl)
      · refine St.c (St1.set 1 (Ev.bin (Ev.at 0 rfl) Ev.int Bin.add) (St.end_ (St.end_ ⟨rfl, rfl, (lo + hi) / 2 + 1, hi, ?_, a2, a3, by omega, ?_⟩)))
        · have := of_decide_eq_false hb
          exact Nat.lt_of_not_le fun q => absurd (hgt ((lo + hi) / 2) _ (List.getElem?_eq_getElem hm) q) (by omega)
        · exact subK (by kernel_rfl)
  cases hi with
  | none =>
    subst hh
    refine St.c (St1.ifs (b := true) (Tv.cmp (Ev.at 3 rfl) Ev.cnone Bin.is_none) (fun _ => ?_) fun q => nomatch q)
    refine St.c (St1.set 3 (Ev.call (Ev.blt (by kernel_rfl) hlen rfl (by decide +kernel) (by decide +kernel)) (Evs.cons (Ev.at 0 rfl) Evs.nil) (Calls.len_list L (by omega)) keepB) (St.end_ (St.re (srchρ lo ds.length da x dk) (rest _ h2 h3) ?_)))
    exact subK (by kernel_rfl)
  | some H =>
    subst hh
    refine St.c (St1.skip (Tv.cmp (c := false) (Ev.at 3 rfl) Ev.cnone (Bin.is_none' rfl)) (St.re (srchρ lo H da x dk) (rest _ h2 h3) ?_))
    exact subK (by kernel_rfl)
end
end Mine
end
section
local macro_rules | `(tactic| omega) => `(tactic| lia)
open PySem PySem.W PySem.Calls PyProof.Rows PySem.Builtin
namespace Mine
section
variable {G : Gd} {n : Nat} {σ : Sig} {V : List Addr}
theorem bisL_body {da dk dh : D} {ds : List D} {ks : List Int} {x : Int} {lo c : Nat} {hi : Option Nat} {cd : Value}
    (hlen : nsIn G.K mainGlobals "len" = some none) (L : LstAt σ da ds) (hz : ds.length ≤ 100000) (hk : KeysAt G n σ dk ds ks)
    (hh : dh = (match hi with | none => D.none | some k => .int (k : Nat))) (h1 : lo ≤ c) (h2 : c ≤ hi.getD ds.length) (h3 : hi.getD ds.length ≤ ds.length)
    (hle : ∀ (i : Nat) (k : Int), ks[i]? = some k → i < c → k < x) (hgt : ∀ (i : Nat) (k : Int), ks[i]? = some k → c ≤ i → x ≤ k) :
    St ⟨G, n, scopeAt 4, cd, [("a", da), ("x", .int x), ("lo", .int lo), ("hi", dh), ("key", dk)], σ⟩ V (bodyAt 4) (fun o => match o with | .ret d σ' => d = .int c ∧ σ' = σ | _ => False) := by
  refine St.c (St1.skip (Tv.cmp (Ev.at 2 rfl) Ev.int (Bin.lt' (decide_eq_false (by omega)))) ?_)
  have hkl := hk.len
  have rest : ∀ H : Nat, c ≤ H → H ≤ ds.length → St ⟨G, n, scopeAt 4, cd, srchρ lo H da x dk, σ⟩ V ((bodyAt 4).drop 2) (fun o => match o with | .ret d σ' => d = .int c ∧ σ' = σ | _ => False) := by
    intro H hcH hH
    rcases hk with ⟨rfl, rfl⟩ | ⟨f, rfl, hf, hkv, hl, hc⟩
    · refine St.c (St1.ifs (b := true) (Tv.cmp (Ev.at 4 rfl) Ev.cnone Bin.is_none) (fun _ => ?_) fun q => nomatch q)
      refine St.c (srch_while (len := ks.length) (fun lo hi => Tv.cmp (Ev.at 0 rfl) (Ev.at 1 rfl) Bin.lt) (fun lo hi hlt a1 a2 a3 => ?_) h1 hcH (by simpa using hH) fun hi => St.end_ (St.c (St1.ret (Ev.at 0 rfl) ⟨rfl, rfl⟩)))
      have hm : (lo + hi) / 2 < ks.length := by omega
      refine St.c (St1.set 5 (Ev.half (p := fun _ => .Constant .none 0 ⟨0, 0, 0, 0⟩) (Ev.at 0 rfl) (Ev.at 1 rfl) (by omega) (by omega)) ?_)
      refine St.c (St1.ifs (Tv.cmp (Ev.sub (Ev.at 3 rfl) (Ev.at 0 rfl) (Sub1.listN (r := .int ks[(lo + hi) / 2]) L (by omega) (by simp [hm]))) (Ev.at 4 rfl) Bin.lt) (fun hb => ?_) fun hb => ?_)
      · refine St.c (St1.set 1 (Ev.bin (Ev.at 0 rfl) Ev.int Bin.add) (St.end_ (St.end_ ⟨rfl, rfl, (lo + hi) / 2 + 1, hi, ?_, a2, a3, by omega, ?_⟩)))
        · have := of_decide_eq_true hb
          exact Nat.lt_of_not_le fun q => absurd (hgt ((lo + hi) / 2) _ (List.getElem?_eq_getElem hm) q) (by omega)
        · exact subK (by kernel_rfl)
      · refine St.c (St1.set 2 (Ev.at 0 rfl) (St.end_ (St.end_ ⟨rfl, rfl, lo, (lo + hi) / 2, a1, ?_, by omega, by omega, ?_⟩)))
        · have := of_decide_eq_false hb
          exact Nat.le_of_not_lt fun q => absurd (hle ((lo + hi) / 2) _ (List.getElem?_eq_getElem hm) q) (by omega)
        · exact subK (by kernel_rfl)
    · refine St.c (St1.ifs (b := false) (Tv.cmp (Ev.at 4 rfl) Ev.cnone (Bin.is_none' hf)) (fun q => nomatch q) fun _ => ?_)
      refine St.c (srch_while (len := ks.length) (fun lo hi => Tv.cmp (Ev.at 0 rfl) (Ev.at 1 rfl) Bin.lt) (fun lo hi hlt a1 a2 a3 => ?_) h1 hcH (by rw [hl]; exact hH) fun hi => St.end_ (St.c (St1.ret (Ev.at 0 rfl) ⟨rfl, rfl⟩)))
      have hm : (lo + hi) / 2 < ks.length := by omega
      have hd : (lo + hi) / 2 < ds.length := by omega
      refine St.c (St1.set 5 (Ev.half (p := fun _ => .Constant .none 0 ⟨0, 0, 0, 0⟩) (Ev.at 0 rfl) (Ev.at 1 rfl) (by omega) (by omega)) ?_)
      refine St.c (St1.ifs (Tv.cmp (Ev.call (Ev.at 5 rfl) (Evs.cons (Ev.sub (Ev.at 3 rfl) (Ev.at 0 rfl) (Sub1.listN (r := ds[(lo + hi) / 2]) L (by omega) (List.getElem?_eq_getElem hd))) Evs.nil) (hc _ _ _ (List.getElem?_eq_getElem hd) (List.getElem?_eq_getElem hm)) hkv) (Ev.at 4 rfl) Bin.lt) (fun hb => ?_) fun hb => ?_)
      · refine St.c (St1.set 1 (Ev.bin (Ev.at 0 rfl) Ev.int Bin.add) (St.end_ (St.end_ ⟨rfl, rfl, (lo + hi) / 2 + 1, hi, ?_, a2, a3, by omega, ?_⟩)))
        · have := of_decide_eq_true hb
          exact Nat.lt_of_not_le fun q => absurd (hgt ((lo + hi) / 2) _ (List.getElem?_eq_getElem hm) q) (by omega)
        · exact subK (by kernel_rfl)
      · refine St.c (St1.set 2 (Ev.at 0 rfl) (St.end_ (St.end_ ⟨rfl, rfl, lo, (lo + hi) / 2, a1, ?_, by omega, by omega, ?_⟩)))
        · have := of_decide_eq_false hb
          exact Nat.le_of_not_lt fun q => absurd (hle ((lo + hi) / 2) _ (List.getElem?_eq_getElem hm) q) (by omega)
        · exact subK (by kernel_rfl)
  cases hi with
  | none =>
    subst hh
    refine St.c (St1.ifs (b := true) (Tv.cmp (Ev.at 3 rfl) Ev.cnone Bin.is_none) (fun _ => ?_) fun q => nomatch q)
    refine St.c (St1.set 3 (Ev.call (Ev.blt (by kernel_rfl) hlen rfl (by decide +kernel) (by decide +kernel)) (Evs.cons (Ev.at 0 rfl) Evs.nil) (Calls.len_list L (by omega)) keepB) (St.end_ (St.re (srchρ lo ds.length da x dk) (rest _ h2 h3) ?_)))
    exact subK (by kernel_rfl)
  | some H =>
    subst hh
    refine St.c (St1.skip (Tv.cmp (c := false) (Ev.at 3 rfl) Ev.cnone (Bin.is_none' rfl)) (St.re (srchρ lo H da x dk) (rest _ h2 h3) ?_))
    exact subK (by kernel_rfl)
end
end Mine
end
section
local macro_rules | `(tactic| omega) => `(tactic| lia)
open PySem PySem.W PySem.Calls PyProof.Rows PySem.Builtin
namespace Mine

/-- a def of the text as the written part holds it, by its place and name -/
structure FnAt (G : Gd) (i : Nat) (name : Str) (a : Addr) (cd : Value) (fd : FuncData) : Prop where
  K : FnK G a (bodyAt i) (scopeAt i) cd fd
  ns : nsIn G.K mainGlobals name = some (some (.ref a))
  keep : keepIn G.K (.ref a) = true

abbrev srchXs : List Str := ["a", "x", "lo", "hi", "key"]
theorem srch_nice : ∀ x ∈ srchXs, niceName x := by
  intro x hx
  simp only [List.mem_cons, List.not_mem_nil, or_false] at hx
  rcases hx with rfl | rfl | rfl | rfl | rfl <;> decide +kernel

section
variable {G : Gd} {n : Nat} {σ : Sig} {V : List Addr} {a : Addr} {cd : Value} {fd : FuncData}
theorem c_bisR {args : List D} {kw : List (Str × Value)} {da dk dh : D} {ds : List D} {ks : List Int} {x : Int} {lo c : Nat} {hi : Option Nat} (F : FnAt G 2 "bisect_right" a cd fd) (hb : BindAs G fd kw srchXs args [da, .int x, .int lo, dh, dk])
    (hlen : nsIn G.K mainGlobals "len" = some none) (L : LstAt σ da ds) (hz : ds.length ≤ 100000) (hk : KeysAt G n σ dk ds ks)
    (hh : dh = (match hi with | none => D.none | some k => .int (k : Nat))) (h1 : lo ≤ c) (h2 : c ≤ hi.getD ds.length) (h3 : hi.getD ds.length ≤ ds.length)
    (hle : ∀ (i : Nat) (k : Int), ks[i]? = some k → i < c → k ≤ x) (hgt : ∀ (i : Nat) (k : Int), ks[i]? = some k → c ≤ i → x < k) :
    CallsM G (n + 1) σ V (.ref a) args kw (fun d σ' => d = .int c ∧ σ' = σ) :=
  CallsM.of_body F.K (hb σ) (by kernel_rfl) (by decide +kernel) srch_nice rfl (St.mono (bisR_body hlen L hz hk hh h1 h2 h3 hle hgt) fun o ho => by cases o <;> first | exact ho | exact ho.elim)
theorem c_bisL {args : List D} {kw : List (Str × Value)} {da dk dh : D} {ds : List D} {ks : List Int} {x : Int} {lo c : Nat} {hi : Option Nat} (F : FnAt G 4 "bisect_left" a cd fd) (hb : BindAs G fd kw srchXs args [da, .int x, .int lo, dh, dk])
    (hlen : nsIn G.K mainGlobals "len" = some none) (L : LstAt σ da ds) (hz : ds.length ≤ 100000) (hk : KeysAt G n σ dk ds ks)
    (hh : dh = (match hi with | none => D.none | some k => .int (k : Nat))) (h1 : lo ≤ c) (h2 : c ≤ hi.getD ds.length) (h3 : hi.getD ds.length ≤ ds.length)
    (hle : ∀ (i : Nat) (k : Int), ks[i]? = some k → i < c → k < x) (hgt : ∀ (i : Nat) (k : Int), ks[i]? = some k → c ≤ i → x ≤ k) :
    CallsM G (n + 1) σ V (.ref a) args kw (fun d σ' => d = .int c ∧ σ' = σ) :=
  CallsM.of_body F.K (hb σ) (by kernel_rfl) (by decide +kernel) srch_nice rfl (St.mono (bisL_body hlen L hz hk hh h1 h2 h3 hle hgt) fun o ho => by cases o <;> first | exact ho | exact ho.elim)

theorem EvM.wide {X : Cx} {e : Expr} {Ψ : D → Sig → Prop} (h : EvM X [] e Ψ) : EvM X V e Ψ := fun A env F s I => wpAny_mono (h A env F s I) (fun v s' ⟨d, σ', x, r⟩ => ⟨d, σ', x.weak, r⟩) fun _ _ e => e
/-- what a search for the key gives, called from an insort -/
def Finds (G : Gd) (n : Nat) (σ : Sig) (aB : Addr) (da : D) (kx : Int) (dk : D) (c : Nat) : Prop :=
  (dk = .none → Calls G n σ (.ref aB) [da, .int kx, .int 0, .none] (.int c)) ∧ ∀ f, dk = .fn f → CallsM G n σ [] (.ref aB) [da, .int kx, .int 0, .none] [("key", f)] (fun d σ' => d = .int c ∧ σ' = σ)

theorem insR_body {aB A : Addr} {dx dk : D} {ds : List D} {kx : Int} {c : Nat} (hns : nsIn G.K mainGlobals "bisect_right" = some (some (.ref aB))) (hkp : keepIn G.K (.ref aB) = true) (hA : (A, Own.list ds) ∈ σ) (hAV : A ∈ V) (hz : ds.length ≤ 100000) (hc : c ≤ ds.length)
    (hf : Finds G n σ aB (.fn (.ref A)) kx dk c) (hkey : (dk = .none ∧ dx = .int kx) ∨ ∃ f, dk = .fn f ∧ (f == Value.none) = false ∧ KeepV G n σ f ∧ Calls G n σ f [dx] (.int kx)) :
    St ⟨G, n, scopeAt 1, cd, [("a", .fn (.ref A)), ("x", dx), ("lo", .int 0), ("hi", .none), ("key", dk)], σ⟩ V (bodyAt 1) (fun o => match o with | .next _ σ' _ => σ' = upd σ A (.list (ds.take c ++ dx :: ds.drop c)) | _ => False) := by
  rcases hkey with ⟨rfl, rfl⟩ | ⟨f, rfl, hfn, hkv, hkc⟩
  · refine St.c (St1.ifs (b := true) (Tv.cmp (Ev.at 4 rfl) Ev.cnone (Bin.is_none' rfl)) (fun _ => ?_) fun q => nomatch q)
    refine St.c (St1.set 2 (Ev.call (Ev.glob (by kernel_rfl) hns (by decide +kernel)) (Evs.cons (Ev.at 0 rfl) (Evs.cons (Ev.at 1 rfl) (Evs.cons (Ev.at 2 rfl) (Evs.cons (Ev.at 3 rfl) Evs.nil)))) (hf.1 rfl) (keepF hkp)) (St.end_ (St.c (St1.exprM (EvM.insert (Ev.at 1 rfl) (Ev.at 0 rfl) (Ev.at 2 rfl) hA hAV (Int.natCast_nonneg c) (by omega) hz (Ψ := fun d σ' => σ' = upd σ A (.list (ds.take c ++ .int kx :: ds.drop c))) (by rw [Int.toNat_natCast])) (fun d σ' h => St.end_ h) (by intro _; rfl)))))
  · refine St.c (St1.ifs (b := false) (Tv.cmp (Ev.at 4 rfl) Ev.cnone (Bin.is_none' hfn)) (fun q => nomatch q) fun _ => ?_)
    refine St.c (St1.assignM (ρ := [("a", .fn (.ref A)), ("x", dx), ("hi", .none), ("key", .fn f)]) (EvM.wide (EvM.callKw (V := []) (Ψ := fun d σ' => d = .int c ∧ σ' = σ) (Ev.glob (by kernel_rfl) hns (by decide +kernel)) (Evs.cons (Ev.at 0 rfl) (Evs.cons (Ev.call (Ev.at 4 rfl) (Evs.cons (Ev.at 1 rfl) Evs.nil) hkc hkv) (Evs.cons (Ev.at 2 rfl) (Evs.cons (Ev.at 3 rfl) Evs.nil)))) (Ev.at 4 rfl) (hf.2 f rfl) (fun _ q => absurd q List.not_mem_nil) (fun d σ' h a ha => by rw [h.2] at ha; exact ha) (keepF hkp))) (by kernel_rfl) (subK (by kernel_rfl)) (ne_all (by kernel_rfl)) (by decide +kernel) ?_ (by intro _ _; rfl))
    · rintro d σ' ⟨rfl, rfl⟩
      exact St.end_ (St.c (St1.exprM (EvM.insert (Ev.at 1 rfl) (Ev.at 0 rfl) (Ev.at 2 rfl) hA hAV (Int.natCast_nonneg c) (by omega) hz (Ψ := fun d σ' => σ' = upd _ A (.list (ds.take c ++ dx :: ds.drop c))) (by rw [Int.toNat_natCast])) (fun d σ' h => St.end_ h) (by intro _; rfl)))
theorem insL_body {aB A : Addr} {dx dk : D} {ds : List D} {kx : Int} {c : Nat} (hns : nsIn G.K mainGlobals "bisect_left" = some (some (.ref aB))) (hkp : keepIn G.K (.ref aB) = true) (hA : (A, Own.list ds) ∈ σ) (hAV : A ∈ V) (hz : ds.length ≤ 100000) (hc : c ≤ ds.length)
    (hf : Finds G n σ aB (.fn (.ref A)) kx dk c) (hkey : (dk = .none ∧ dx = .int kx) ∨ ∃ f, dk = .fn f ∧ (f == Value.none) = false ∧ KeepV G n σ f ∧ Calls G n σ f [dx] (.int kx)) :
    St ⟨G, n, scopeAt 3, cd, [("a", .fn (.ref A)), ("x", dx), ("lo", .int 0), ("hi", .none), ("key", dk)], σ⟩ V (bodyAt 3) (fun o => match o with | .next _ σ' _ => σ' = upd σ A (.list (ds.take c ++ dx :: ds.drop c)) | _ => False) := by
  rcases hkey with ⟨rfl, rfl⟩ | ⟨f, rfl, hfn, hkv, hkc⟩
  · refine St.c (St1.ifs (b := true) (Tv.cmp (Ev.at 4 rfl) Ev.cnone (Bin.is_none' rfl)) (fun _ => ?_) fun q => nomatch q)
    refine St.c (St1.set 2 (Ev.call (Ev.glob (by kernel_rfl) hns (by decide +kernel)) (Evs.cons (Ev.at 0 rfl) (Evs.cons (Ev.at 1 rfl) (Evs.cons (Ev.at 2 rfl) (Evs.cons (Ev.at 3 rfl) Evs.nil)))) (hf.1 rfl) (keepF hkp)) (St.end_ (St.c (St1.exprM (EvM.insert (Ev.at 1 rfl) (Ev.at 0 rfl) (Ev.at 2 rfl) hA hAV (Int.natCast_nonneg c) (by omega) hz (Ψ := fun d σ' => σ' = upd σ A (.list (ds.take c ++ .int kx :: ds.drop c))) (by rw [Int.toNat_natCast])) (fun d σ' h => St.end_ h) (by intro _; rfl)))))
  · refine St.c (St1.ifs (b := false) (Tv.cmp (Ev.at 4 rfl) Ev.cnone (Bin.is_none' hfn)) (fun q => nomatch q) fun _ => ?_)
    refine St.c (St1.assignM (ρ := [("a", .fn (.ref A)), ("x", dx), ("hi", .none), ("key", .fn f)]) (EvM.wide (EvM.callKw (V := []) (Ψ := fun d σ' => d = .int c ∧ σ' = σ) (Ev.glob (by kernel_rfl) hns (by decide +kernel)) (Evs.cons (Ev.at 0 rfl) (Evs.cons (Ev.call (Ev.at 4 rfl) (Evs.cons (Ev.at 1 rfl) Evs.nil) hkc hkv) (Evs.cons (Ev.at 2 rfl) (Evs.cons (Ev.at 3 rfl) Evs.nil)))) (Ev.at 4 rfl) (hf.2 f rfl) (fun _ q => absurd q List.not_mem_nil) (fun d σ' h a ha => by rw [h.2] at ha; exact ha) (keepF hkp))) (by kernel_rfl) (subK (by kernel_rfl)) (ne_all (by kernel_rfl)) (by decide +kernel) ?_ (by intro _ _; rfl))
    · rintro d σ' ⟨rfl, rfl⟩
      exact St.end_ (St.c (St1.exprM (EvM.insert (Ev.at 1 rfl) (Ev.at 0 rfl) (Ev.at 2 rfl) hA hAV (Int.natCast_nonneg c) (by omega) hz (Ψ := fun d σ' => σ' = upd _ A (.list (ds.take c ++ dx :: ds.drop c))) (by rw [Int.toNat_natCast])) (fun d σ' h => St.end_ h) (by intro _; rfl)))
end
end Mine
end
section
local macro_rules | `(tactic| omega) => `(tactic| lia)
open PySem PySem.W PySem.Calls PyProof.Rows PySem.Builtin
namespace Mine

section
variable {G : Gd} {n : Nat} {sc : Scope} {cd : Value} {ρ₁ : Env0} {σ₁ : Sig} {V : List Addr} {Φ : Out → Prop}
theorem St1.forC {target iter : Expr} {body orelse : List Stmt} {pos : Pos} {keys : List Str} {m : Nat} {bs : Nat → Env0} {ρ₀ : Env0} (hit : IterEx ⟨G, n, sc, cd, ρ₁, σ₁⟩ iter target keys m bs) (hk : (keys.all fun k => storable sc k) = true)
    (hV : ∀ a ∈ V, a ∈ wOf σ₁) (Inv : Nat → Env0 → Sig → Prop) (hρ₀ : ∀ p ∈ ρ₀, p ∈ ρ₁) (h0 : Inv 0 ρ₀ σ₁)
    (turn : ∀ i ρ σ, i < m → wOf σ = wOf σ₁ → Inv i ρ σ → (∀ p ∈ ρ, p.1 ∉ keys) ∧ St ⟨G, n, sc, cd, bs i ++ ρ, σ⟩ V body (fun o => match o with
        | .next ρ' σ' V' | .cont ρ' σ' V' => ∃ ρ'', (∀ p ∈ ρ'', p ∈ ρ') ∧ wOf σ' = wOf σ₁ ∧ V' = V ∧ Inv (i + 1) ρ'' σ'
        | .brk ρ' σ' V' => Φ (.next ρ' σ' V')
        | .ret d σ' => Φ (.ret d σ')))
    (fin : ∀ ρ σ, wOf σ = wOf σ₁ → Inv m ρ σ → St ⟨G, n, sc, cd, ρ, σ⟩ V orelse Φ)
    (hs : ∀ env x, foldedSetIterable iter env x = pure x := by intro _ _; rfl) : St1 ⟨G, n, sc, cd, ρ₁, σ₁⟩ V (.For target iter body orelse pos) Φ :=
  St1.for_ hit hk hV Inv hρ₀ h0 turn fin hs
theorem St1.inc (i : Nat) {y : Str} {py pos : Pos} {op : Operator} {e : Expr} {d0 d1 d : D} (h0 : ρ₁[i]? = some (y, d0)) (he : Ev ⟨G, n, sc, cd, ρ₁, σ₁⟩ e d1) (ho : Bin ⟨G, n, sc, cd, ρ₁, σ₁⟩ (inplaceOp op) d0 d1 d) (h : Φ (.next ((y, d) :: ρ₁.eraseIdx i) σ₁ V))
    (hk : storable sc y = true := by kernel_rfl) (h2 : ((ρ₁.eraseIdx i).all fun p => p.1 != y) = true := by kernel_rfl) (hy : niceName y := by decide +kernel) : St1 ⟨G, n, sc, cd, ρ₁, σ₁⟩ V (.AugAssign (.Name y py) op e pos) Φ :=
  St1.aug (List.mem_of_getElem? h0) he ho hk mem_erase (ne_all h2) hy h
theorem upd_head {σ : Sig} {a : Addr} {w w' : Own} (h : a ∉ wOf σ) : upd ((a, w) :: σ) a w' = (a, w') :: σ := by
  unfold upd
  rw [List.map_cons, if_pos rfl]
  congr 1
  refine (List.map_congr_left fun p hp => ?_).trans (List.map_id _)
  exact if_neg fun q => h (by rw [← q]; exact List.mem_map.mpr ⟨p, hp, rfl⟩)
theorem notKeys {ρ : Env0} {keys : List Str} (h : (ρ.all fun p => !keys.contains p.1) = true) : ∀ p ∈ ρ, p.1 ∉ keys := fun p hp q => by
  have := List.all_eq_true.mp h p hp
  simp at this
  exact this q
end

/-- what pretty_flags gathers -/
def pfRun (nm : Nat → Str) : Nat → Nat → Int → List Str → List Str
  | 0, _, fl, acc => acc ++ [baseText "0x" 16 fl]
  | k + 1, i, fl, acc => if (Builtin.bitAnd fl (1 * 2 ^ i) != 0) = true then (if (Builtin.bitXor fl (1 * 2 ^ i) != 0) = true then pfRun nm k (i + 1) (Builtin.bitXor fl (1 * 2 ^ i)) (acc ++ [nm i]) else acc ++ [nm i]) else pfRun nm k (i + 1) fl acc

section
variable {G : Gd} {n : Nat} {σ : Sig} {cd : Value}
set_option maxHeartbeats 2000000 in
theorem pretty_body {aD : Addr} {nm : Nat → Str} {fl : Int} {R : List Str} (hrange : nsIn G.K mainGlobals "range" = some none) (hhex : nsIn G.K mainGlobals "hex" = some none) (hD : nsIn G.K mainGlobals "COMPILER_FLAG_NAMES" = some (some (.ref aD)))
    (hmeth : ∀ X : Cx, X.G = G → Meth X (.fn (.ref aD)) "get" "dict.get") (hget : ∀ i σ, i < 32 → Calls G n σ (.builtin "dict.get") [.fn (.ref aD), .int (1 * 2 ^ i), .str (baseText "0x" 16 (1 * 2 ^ i))] (.str (nm i)))
    (hlen : ∀ i : Int, 0 ≤ i → i < 2 ^ 40 → (baseText "0x" 16 i).length ≤ 1000) (hfl : 0 ≤ fl ∧ fl < 2 ^ 40) (hxor : ∀ i, i < 32 → ∀ f : Int, 0 ≤ f ∧ f < 2 ^ 40 → 0 ≤ Builtin.bitXor f (1 * 2 ^ i) ∧ Builtin.bitXor f (1 * 2 ^ i) < 2 ^ 40)
    (hR : pfRun nm 32 0 fl [] = R) (hj : JoinOk ", " R = true) :
    St ⟨G, n, scopeAt 7, cd, [("flags", .int fl)], σ⟩ [] (bodyAt 7) (fun o => match o with | .ret d σ' => d = .str (Txt.join ", " R) ∧ ∀ p ∈ σ, p ∈ σ' | _ => False) := by
  refine St.c (St1.assignNew (ρ := [("flags", .int fl)]) EvNew.nil (by kernel_rfl) (fun _ h => h) (ne_all (by kernel_rfl)) (by decide +kernel) (fun a ha => ?_) (by intro _ _; rfl))
  have fin : ∀ ρ : Env0, ∀ σ' : Sig, (("names" : Str), D.fn (.ref a)) ∈ ρ → (a, Own.list (R.map .str)) ∈ σ' → (∀ p ∈ σ, p ∈ σ') → St ⟨G, n, scopeAt 7, cd, ρ, σ'⟩ [a] ((bodyAt 7).drop 2) (fun o => match o with | .ret d σ' => d = .str (Txt.join ", " R) ∧ ∀ p ∈ σ, p ∈ σ' | _ => False) := by
    intro ρ σ' h1 h2 h3
    exact St.c (St1.ret (Ev.meth Ev.str Meth.join (Evs.cons (Ev.name h1) Evs.nil) (Calls.join (LstAt.owned a _ h2) hj)) ⟨rfl, h3⟩)
  refine St.c (St1.forC (m := 32) (ρ₀ := [("names", .fn (.ref a)), ("flags", .int fl)]) (IterEx.range1 (n := 32) (Ev.blt (by kernel_rfl) hrange rfl (by decide +kernel) (by decide +kernel)) Ev.int (by decide) (by decide +kernel)) (by kernel_rfl) (fun b hb => by rw [List.mem_singleton.mp hb]; exact .head _)
    (fun i ρ σ' => ∃ f acc, ρ = ([("names", .fn (.ref a)), ("flags", .int f)] : Env0) ∧ σ' = (a, .list (acc.map .str)) :: σ ∧ (0 ≤ f ∧ f < 2 ^ 40) ∧ i ≤ 32 ∧ pfRun nm (32 - i) i f acc = R ∧ acc.length ≤ i)
    (subK (by kernel_rfl)) ⟨fl, [], rfl, rfl, hfl, by decide, hR, Nat.le_refl _⟩ ?_ ?_)
  · rintro i ρ σ' hi hw ⟨f, acc, rfl, rfl, hf, -, hr, hl⟩
    refine ⟨notKeys (by kernel_rfl), ?_⟩
    have hr' : pfRun nm (31 - i + 1) i f acc = R := by rw [← hr]; congr 1; omega
    unfold pfRun at hr'
    have hp : (0 : Int) ≤ 1 * 2 ^ i ∧ (1 * 2 ^ i : Int) < 2 ^ 40 := by
      have h1 : (2 : Nat) ^ i ≤ 2 ^ 32 := Nat.pow_le_pow_right (by decide) (by omega)
      have e : (2 : Int) ^ i = ((2 ^ i : Nat) : Int) := by simp
      rw [e]
      generalize (2 ^ i : Nat) = q at h1
      omega
    refine St.c (St1.set 3 (d := .int (1 * 2 ^ i)) (Ev.bin Ev.int (Ev.at 0 rfl) (Bin.shl (i := 1) (j := (i : Nat)) (by omega) (by omega) (by decide))) ?_)
    refine St.c (St1.ifs (Tv.val (Ev.bin (Ev.at 3 rfl) (Ev.at 0 rfl) Bin.and) rfl) (fun hb => ?_) fun hb => ?_)
    · rw [if_pos (show (Builtin.bitAnd f (1 * 2 ^ i) != 0) = true from hb)] at hr'
      refine St.c (St1.exprM (Ψ := fun d σ' => σ' = (a, .list ((acc ++ [nm i]).map .str)) :: σ) (EvM.append (ds := acc.map .str) (Φ := fun d σ' => d = .str (nm i) ∧ σ' = (a, .list (acc.map .str)) :: σ) (Ev.at 2 rfl) (EvM.ev (Ev.meth (Ev.glob (by kernel_rfl) hD (by decide +kernel)) (hmeth _ rfl) (Evs.cons (Ev.at 0 rfl) (Evs.cons (Ev.call (Ev.blt (by kernel_rfl) hhex rfl (by decide +kernel) (by decide +kernel)) (Evs.cons (Ev.at 0 rfl) Evs.nil) (Calls.hex (hlen _ hp.1 hp.2)) keepB) Evs.nil)) (hget i _ hi)) ⟨rfl, rfl⟩) (.head _) ?_ (.head _) (by rw [List.length_map]; omega)) (fun d σ' h => ?_) (by intro _; rfl))
      · rintro d σ' ⟨rfl, rfl⟩
        exact ⟨.head _, fun _ h => h, by rw [upd_head ha, List.map_append]; rfl⟩
      · subst h
        refine St.c (St1.inc 3 rfl (Ev.at 0 rfl) Bin.ixor ?_)
        have hf' := hxor i hi f hf
        refine St.c (St1.ifs (Tv.not (Tv.val (Ev.at 0 rfl) rfl)) (fun hc => ?_) fun hc => ?_)
        · have hc' : (Builtin.bitXor f (1 * 2 ^ i) != 0) = false := by
            have : (!(Builtin.bitXor f (1 * 2 ^ i) != 0)) = true := hc
            simpa using this
          rw [if_neg (by rw [hc']; decide)] at hr'
          subst hr'
          exact St.c (St1.brk (fin _ _ (.tail _ (.tail _ (.tail _ (.head _)))) (.head _) fun p hp => .tail _ hp))
        · have hc' : (Builtin.bitXor f (1 * 2 ^ i) != 0) = true := by
            have : (!(Builtin.bitXor f (1 * 2 ^ i) != 0)) = false := hc
            simpa using this
          rw [if_pos hc'] at hr'
          refine St.end_ (St.end_ (St.end_ ⟨[("names", .fn (.ref a)), ("flags", .int (Builtin.bitXor f (1 * 2 ^ i)))], ?_, rfl, rfl, _, acc ++ [nm i], rfl, rfl, hf', by omega, ?_, by rw [List.length_append]; exact Nat.succ_le_succ hl⟩))
          · exact subK (by kernel_rfl)
          · rw [← hr']; congr 1; omega
    · rw [if_neg (by rw [show (Builtin.bitAnd f (1 * 2 ^ i) != 0) = false from hb]; decide)] at hr'
      refine St.end_ (St.end_ ⟨[("names", .fn (.ref a)), ("flags", .int f)], ?_, rfl, rfl, f, acc, rfl, rfl, hf, by omega, ?_, by omega⟩)
      · exact subK (by kernel_rfl)
      · rw [← hr']; congr 1; omega
  · rintro ρ σ' hw ⟨f, acc, rfl, rfl, hf, -, hr, hl⟩
    have hr' : acc ++ [baseText "0x" 16 f] = R := hr
    subst hr'
    refine St.c (St1.exprM (Ψ := fun d σ' => σ' = (a, .list ((acc ++ [baseText "0x" 16 f]).map .str)) :: σ) (EvM.append (ds := acc.map .str) (Φ := fun d σ' => d = .str (baseText "0x" 16 f) ∧ σ' = (a, .list (acc.map .str)) :: σ) (Ev.at 0 rfl) (EvM.ev (Ev.call (Ev.blt (by kernel_rfl) hhex rfl (by decide +kernel) (by decide +kernel)) (Evs.cons (Ev.at 1 rfl) Evs.nil) (Calls.hex (hlen _ hf.1 hf.2)) keepB) ⟨rfl, rfl⟩) (.head _) ?_ (.head _) (by rw [List.length_map]; omega)) (fun d σ' h => ?_) (by intro _; rfl))
    · rintro d σ' ⟨rfl, rfl⟩
      exact ⟨.head _, fun _ h => h, by rw [upd_head ha, List.map_append]; rfl⟩
    · subst h
      exact St.end_ (fin _ _ (.head _) (.head _) fun p hp => .tail _ hp)
end
end Mine
end
section
open PySem PySem.W PySem.Calls PyProof.Rows PySem.Builtin
namespace Mine
theorem Bin.ishl' {X : Cx} {i j : Int} (hj : 0 ≤ j) (h1 : j ≤ 1000000) (hi : i.natAbs < 2 ^ 64) : Bin X (inplaceOp .LShift) (.int i) (.int j) (.int (i * 2 ^ j.toNat)) :=
  .ofInts fun _ _ _ _ _ => PyProof.Rows.ilshift_int_small hj h1 hi ⟨Step.toks, .int ..⟩

/-- what _parse_varint reads behind the first octet: the value and the next place -/
def pvRun (octs : List Int) : Nat → Nat → Int → Int → Option (Int × Nat)
  | 0, _, _, _ => none
  | k + 1, i, b, val => if (Builtin.bitAnd b 64 != 0) = true then (match octs[i]? with
      | some b' => if val.natAbs < 2 ^ 64 then pvRun octs k (i + 1) b' (Builtin.bitOr (val * 2 ^ 6) (Builtin.bitAnd b' 63)) else none
      | none => none) else some (val, i)

theorem upd_upd {σ : Sig} {a : Addr} {w w' : Own} : upd (upd σ a w) a w' = upd σ a w' := by
  unfold upd
  rw [List.map_map]
  refine List.map_congr_left fun p _ => ?_
  show (if (if p.1 = a then (a, w) else p).1 = a then (a, w') else (if p.1 = a then (a, w) else p)) = _
  by_cases h : p.1 = a
  · simp only [h, if_true]
  · simp only [if_neg h]

section
variable {G : Gd} {n : Nat} {σ : Sig} {cd : Value} {V : List Addr}
theorem varint_body {a : Addr} {octs : List Int} {i j k : Nat} {b v : Int} (hnext : nsIn G.K mainGlobals "next" = some none) (ha : (a, Own.iter (octs.map .int) i) ∈ σ) (haV : a ∈ V) (hb : octs[i]? = some b) (hr : pvRun octs k (i + 1) b (Builtin.bitAnd b 63) = some (v, j)) :
    St ⟨G, n, scopeAt 8, cd, [("iterator", .fn (.ref a))], σ⟩ V (bodyAt 8) (fun o => match o with | .ret d σ' => d = .int v ∧ σ' = upd σ a (.iter (octs.map .int) j) | _ => False) := by
  have haW : a ∈ wOf σ := List.mem_map.mpr ⟨_, ha, rfl⟩
  refine St.c (St1.assignM (ρ := [("iterator", .fn (.ref a))]) (Ψ := fun d σ' => d = .int b ∧ σ' = upd σ a (.iter (octs.map .int) (i + 1))) (EvM.next (Ev.blt (by kernel_rfl) hnext rfl (by decide +kernel) (by decide +kernel)) (Ev.at 0 rfl) ha haV (d := .int b) (by rw [List.getElem?_map, hb]; rfl) ⟨rfl, rfl⟩) (by kernel_rfl) (fun _ h => h) (ne_all (by kernel_rfl)) (by decide +kernel) ?_ (by intro _ _; rfl))
  rintro d σ' ⟨rfl, rfl⟩
  refine St.c (St1.set 2 (Ev.bin (Ev.at 0 rfl) Ev.int Bin.and) ?_)
  refine St.c (St1.while_ (fun m ρ σ' V' => ∃ i b val, pvRun octs m i b val = some (v, j) ∧ ρ = ([("val", .int val), ("b", .int b), ("iterator", .fn (.ref a))] : Env0) ∧ σ' = upd σ a (.iter (octs.map .int) i) ∧ V' = V) k ⟨i + 1, b, _, hr, rfl, rfl, rfl⟩ ?_)
  rintro m ρ σ' V' ⟨i, b, val, hr, rfl, rfl, rfl⟩
  match m, hr with
  | m + 1, hr =>
    unfold pvRun at hr
    refine ⟨_, Tv.val (Ev.bin (Ev.at (X := ⟨G, n, scopeAt 8, cd, [("val", .int val), ("b", .int b), ("iterator", .fn (.ref a))], _⟩) 1 rfl) Ev.int Bin.and) rfl, fun ht => ?_, fun ht => ?_⟩
    · rw [if_pos (show (Builtin.bitAnd b 64 != 0) = true from ht)] at hr
      cases e : octs[i]? with
      | none => rw [e] at hr; cases hr
      | some b' =>
        rw [e] at hr
        by_cases hv : val.natAbs < 2 ^ 64
        · rw [show (match some b' with | some b' => if val.natAbs < 2 ^ 64 then pvRun octs m (i + 1) b' (Builtin.bitOr (val * 2 ^ 6) (Builtin.bitAnd b' 63)) else none | none => none) = pvRun octs m (i + 1) b' (Builtin.bitOr (val * 2 ^ 6) (Builtin.bitAnd b' 63)) from if_pos hv] at hr
          refine St.c (St1.inc 0 rfl Ev.int (Bin.ishl' (j := 6) (by decide) (by decide) hv) ?_)
          refine St.c (St1.assignM (ρ := [("val", .int (val * 2 ^ 6)), ("iterator", .fn (.ref a))]) (Ψ := fun d σ' => d = .int b' ∧ σ' = upd σ a (.iter (octs.map .int) (i + 1))) (EvM.next (Ev.blt (by kernel_rfl) hnext rfl (by decide +kernel) (by decide +kernel)) (Ev.at 2 rfl) (mem_upd haW) haV (d := .int b') (by rw [List.getElem?_map, e]; rfl) ⟨rfl, upd_upd⟩) (by kernel_rfl) ?_ (ne_all (by kernel_rfl)) (by decide +kernel) ?_ (by intro _ _; rfl))
          · exact subK (by kernel_rfl)
          · rintro d σ' ⟨rfl, rfl⟩
            refine St.c (St1.inc 1 rfl (Ev.bin (Ev.at 0 rfl) Ev.int Bin.and) Bin.ior (St.end_ ⟨m, _, Nat.lt_succ_self _, fun _ h => h, i + 1, b', _, hr, rfl, rfl, rfl⟩))
        · exfalso
          rw [show (match some b' with | some b' => if val.natAbs < 2 ^ 64 then pvRun octs m (i + 1) b' (Builtin.bitOr (val * 2 ^ 6) (Builtin.bitAnd b' 63)) else none | none => none) = none from if_neg hv] at hr
          cases hr
    · rw [if_neg (by rw [show (Builtin.bitAnd b 64 != 0) = false from ht]; decide)] at hr
      cases hr
      exact St.end_ (St.c (St1.ret (Ev.at 0 rfl) ⟨rfl, rfl⟩))
end
end Mine
end
section
local macro_rules | `(tactic| omega) => `(tactic| lia)
open PySem PySem.W PySem.Calls PyProof.Rows PySem.Builtin
namespace Mine

section
variable {G : Gd} {n : Nat} {sc : Scope} {cd : Value} {ρ₀ : Env0} {σ : Sig}
theorem Ev.comp1 {elt target iter : Expr} {ifs : List Expr} {csc : Scope} {pos : Pos} {keys : List Str} {m : Nat} {bs : Nat → Env0} (ρ : Env0) {t : Nat → Bool} {f : Nat → D} (hit : IterEx ⟨G, n, sc, cd, ρ₀, σ⟩ iter target keys m bs) (hρ : ∀ p ∈ ρ, p ∈ ρ₀)
    (hT : ∀ i, i < m → ∀ σ, Tests ⟨G, n, relab csc sc, cd, bs i ++ ρ, σ⟩ ifs (t i)) (hE : ∀ i, i < m → t i = true → ∀ σ, Ev ⟨G, n, relab csc sc, cd, bs i ++ ρ, σ⟩ elt (f i)) (hm : m ≤ 1000000)
    (hc : compOk csc sc = true := by kernel_rfl) (hk : (keys.all fun k => storable (relab csc sc) k && (csc.names.lookup k == some .local || csc.names.lookup k == some .cell)) = true := by kernel_rfl)
    (hfree : (ρ.all fun p => csc.names.lookup p.1 == some .free) = true := by kernel_rfl) (hkρ : (ρ.all fun p => !keys.contains p.1) = true := by kernel_rfl)
    (hs : ∀ env x, foldedSetIterable iter env x = pure x := by intro _ _; rfl) : Ev ⟨G, n, sc, cd, ρ₀, σ⟩ (.ListComp elt [⟨target, iter, ifs, 0⟩] csc pos) (.list (((List.range m).filter t).map f)) :=
  Ev.of_comp (CompWp.one hc hit hk (fun p hp => ⟨hρ p hp, by have := List.all_eq_true.mp hfree p hp; exact beq_iff_eq.mp this⟩) (notKeys hkρ) hT hE hm hs)
theorem Bin.ge' {X : Cx} {i j : Int} {b : Bool} (h : decide (i ≥ j) = b) : Bin X (compareOp .GtE) (.int i) (.int j) (.bool b) := h ▸ Bin.ge
end

/-- the octets of a number -/
def octsOf (v : Int) : List Int := (((List.range 5).filter fun i => decide (v ≥ 64 ^ (5 - i))).map fun i => 64 + (v.fdiv (64 ^ (5 - i))).fmod 64) ++ [v.fmod 64]

section
variable {G : Gd} {n : Nat} {σ : Sig} {cd : Value} {V : List Addr}
theorem pow_ev {X : Cx} {i : Nat} {k : Nat} {p1 p2 p3 : Pos} {nm : Str} (hi : i < 5) (h : Ev X (.Name nm p2) (.int (5 + (i : Nat) * (-1)))) : Ev X (.BinOp (.Constant (.int 64) k p1) .Pow (.Name nm p2) p3) (.int (64 ^ (5 - i))) := by
  have := Ev.bin (pos := p3) (Ev.int (X := X) (i := 64) (k := k) (pos := p1)) h (Bin.pow (i := 64) (j := 5 + (i : Nat) * (-1)) (by omega) (by
    rw [show Builtin.Int.intBits 64 = 7 by decide +kernel]; omega))
  rwa [show (5 + (i : Int) * (-1)).toNat = 5 - i by omega] at this
theorem pow_ne {i : Nat} (hi : i < 5) : (64 : Int) ^ (5 - i) ≠ 0 ∧ ((64 : Int) ^ (5 - i)).natAbs.log2 < 9000 := by
  rcases i with _ | _ | _ | _ | _ | i
  · decide +kernel
  · decide +kernel
  · decide +kernel
  · decide +kernel
  · decide +kernel
  · omega
theorem octets_body {v o : Int} {os : List Int} (hrange : nsIn G.K mainGlobals "range" = some none) (ho : octsOf v = o :: os) :
    St ⟨G, n, scopeAt 68, cd, [("number", .int v)], σ⟩ V (bodyAt 68) (fun out => match out with | .ret d σ' => d = .list (((128 + o) :: os).map .int) ∧ σ' = σ | _ => False) := by
  have hl : (octsOf v).length ≤ 6 := by
    unfold octsOf
    rw [List.length_append, List.length_map]
    have := List.length_filter_le (fun i => decide (v ≥ 64 ^ (5 - i))) (List.range 5)
    rw [List.length_range] at this
    simp only [List.length_cons, List.length_nil]; omega
  refine St.c (St1.set 1 (d := .list ((octsOf v).map .int)) ?_ ?_)
  · have e : (octsOf v).map D.int = (((List.range 5).filter fun i => decide (v ≥ 64 ^ (5 - i))).map fun i => D.int (64 + (v.fdiv (64 ^ (5 - i))).fmod 64)) ++ [D.int (v.fmod 64)] := by
      unfold octsOf
      rw [List.map_append, List.map_map]; rfl
    have hlen : ((((List.range 5).filter fun i => decide (v ≥ 64 ^ (5 - i))).map fun i => D.int (64 + (v.fdiv (64 ^ (5 - i))).fmod 64))).length ≤ 5 := by
      rw [List.length_map]
      have := List.length_filter_le (fun i => decide (v ≥ 64 ^ (5 - i))) (List.range 5)
      rwa [List.length_range] at this
    rw [e]
    refine Ev.bin (Ev.comp1 [("number", .int v)] (m := 5) (IterEx.range3 (a := 5) (b := 0) (c := -1) (n := 5) (Ev.blt (by kernel_rfl) hrange rfl (by decide +kernel) (by decide +kernel)) Ev.int Ev.int (Ev.un Ev.int Un.neg) (by decide) (by decide +kernel) (by decide +kernel) (by decide +kernel) (by decide +kernel)) (fun _ h => h)
      (fun i hi σ => Tests.one (Tv.cmp (Ev.at 1 rfl) (pow_ev hi (Ev.at 0 rfl)) Bin.ge)) (fun i hi _ σ => ?_) (by decide)) (Ev.list (Evs.cons (Ev.bin (Ev.at 0 rfl) Ev.int (Bin.mod (by decide))) Evs.nil) (Nat.le_of_ble_eq_true rfl)) (Bin.addL (by simp only [List.length_cons, List.length_nil]; omega))
    exact Ev.bin Ev.int (Ev.bin (Ev.bin (Ev.at 1 rfl) (pow_ev hi (Ev.at 0 rfl)) (Bin.div (pow_ne hi).1 (PyProof.noPylong_of_log2 (pow_ne hi).2))) Ev.int (Bin.mod (by decide))) Bin.add
  · rw [ho] at hl ⊢
    refine St.c (St1.ret (d := .list (((128 + o) :: os).map .int)) ?_ ⟨rfl, rfl⟩)
    refine Ev.bin (Ev.list (ds := [.int (128 + o)]) (Evs.cons (Ev.bin Ev.int (Ev.sub (Ev.at 0 rfl) Ev.int (Sub1.list (r := .int o) (LstAt.frozen _) (by decide) (by decide) rfl)) Bin.add) Evs.nil) (Nat.le_of_ble_eq_true rfl)) (Ev.sliceL (l := some 1) (h := none) (r := os.map .int) (Ev.at 0 rfl) (LstAt.frozen _) Ev.int trivial (by rw [List.length_map]; omega) ?_) (Bin.addL (by rw [List.length_map]; simp only [List.length_cons, List.length_nil] at hl ⊢; omega))
    intro W h vs r
    obtain ⟨_, _, rfl, _, r⟩ := r.consI
    rw [show slicePick _ (some 1) none none = _ from slicePick_from _ 1 (by simp)]
    simpa using r
end
end Mine
end
section
local macro_rules | `(tactic| omega) => `(tactic| lia)
open PySem PySem.W PySem.Calls PyProof.Rows PySem.Builtin
namespace Mine
theorem methEq_const {x : Str} {k : Nat} {p1 apos pos : Pos} {name : Str} (h : (apos.endLine == pos.line) = true) : MethEq (.Constant (.str x) k p1) name apos pos [] := by
  intro env
  refine ⟨(do return (← importBound (.Constant (.str x) k p1) env).getD true), ?_⟩
  have e : methodCallPos true (.Constant (.str x) k p1) env apos pos = pure pos := by
    unfold methodCallPos
    rw [if_pos (by rw [h]; rfl)]
  show (do let ov ← eval (.Constant (.str x) k p1) env; standAt apos.atName; (do
    let (f, first) ← holding [ov] (getMethod ov name (do return (← importBound (.Constant (.str x) k p1) env).getD true))
    let callPos ← methodCallPos true (.Constant (.str x) k p1) env apos pos
    callWith callPos f first (backTo pos (starEach [] env)) [])) = _
  rw [e]
  rfl
theorem Ev.splitC {X : Cx} {x : Str} {k : Nat} {p1 apos pos : Pos} (h1 : x.length ≤ 100000) (h2 : (Builtin.Str.spaceWords x (x.length + 1)).length ≤ 100000) (hq : (apos.endLine == pos.line) = true) : Ev X (.Call (.Attribute (.Constant (.str x) k p1) "split" apos) [] [] pos) (.list ((Txt.words x).map .str)) :=
  Ev.meth0 Ev.str Meth.split (CallsNew.split0 h1 h2).calls (methEq_const hq)
theorem St1.splitC {G : Gd} {n : Nat} {sc : Scope} {cd : Value} {ρ : Env0} {σ : Sig} {V : List Addr} {Φ : Out → Prop} (i : Nat) {y x : Str} {k : Nat} {py p1 apos cpos pos : Pos} (h1 : x.length ≤ 100000) (h2 : (Builtin.Str.spaceWords x (x.length + 1)).length ≤ 100000) (h : Φ (.next ((y, .list ((Txt.words x).map .str)) :: ρ.eraseIdx i) σ V))
    (hq : (apos.endLine == cpos.line) = true) (hk : storable sc y = true) (h3 : ((ρ.eraseIdx i).all fun p => p.1 != y) = true) (hy : niceName y) : St1 ⟨G, n, sc, cd, ρ, σ⟩ V (.Assign [.Name y py] (.Call (.Attribute (.Constant (.str x) k p1) "split" apos) [] [] cpos) pos) Φ :=
  St1.set i (Ev.splitC h1 h2 hq) h hk h3 hy
/-- the names of the ten flags -/
def flagWords : List Str := Txt.words "OPTIMIZED NEWLOCALS VARARGS VARKEYWORDS NESTED GENERATOR NOFREE COROUTINE ITERABLE_COROUTINE ASYNC_GENERATOR"
/-- a flag's name by its place -/
def flagNameW (W : List Str) (p : Nat) : Str := if p < 10 then W.getD p ⟨#[]⟩ else ("0x" ++ (⟨#[("1248" : Str).cps.getD (p % 4) 0]⟩ : Str)) ++ Txt.mul "0" (p / 4 : Nat)

section
variable {G : Gd} {n : Nat} {σ : Sig} {cd : Value} {V : List Addr}
theorem names_body {base size : Nat} (hrange : nsIn G.K mainGlobals "range" = some none) (hb : base ≤ 100) (hs : size ≤ 100) :
    St ⟨G, n, scopeAt 67, cd, [("base", .int base), ("size", .int size)], σ⟩ V (bodyAt 67) (fun out => match out with | .ret d σ' => d = .list (((List.range size).map fun i => flagNameW flagWords (base + i)).map .str) ∧ σ' = σ | _ => False) := by
  have hw : flagWords.length = 10 := by decide +kernel
  have h4 : ("1248" : Str).cps.size = 4 := by decide +kernel
  refine St.c (St1.splitC 2 (by decide +kernel) (by decide +kernel) ?_ rfl (by kernel_rfl) (by kernel_rfl) (by decide +kernel))
  show St ⟨G, n, scopeAt 67, cd, [("names", .list (flagWords.map .str)), ("base", .int base), ("size", .int size)], σ⟩ V _ _
  generalize flagWords = W at *
  refine St.c (St1.ret (d := .list (((List.range size).map fun i => flagNameW W (base + i)).map .str)) ?_ ⟨rfl, rfl⟩)
  rw [List.map_map, show (List.range size).map (D.str ∘ fun i => flagNameW W (base + i)) = ((List.range size).filter fun _ => true).map (fun i => D.str (flagNameW W (base + i))) by rw [List.filter_eq_self.mpr (fun _ _ => rfl)]; rfl]
  refine Ev.comp1 [("names", .list (W.map .str))] (IterEx.range2 (a := base) (n := size) (Ev.blt (by kernel_rfl) hrange rfl (by decide +kernel) (by decide +kernel)) (Ev.at 1 rfl) (Ev.bin (Ev.at 1 rfl) (Ev.at 2 rfl) Bin.add) (by omega) (by omega) (by omega) (by decide +kernel))
    (subK (by kernel_rfl)) (fun i hi σ => Tests.nil) (fun i hi _ σ => ?_) (by omega)
  refine Ev.ite (Tv.cmp (Ev.at 0 rfl) Ev.int Bin.lt) (fun h => ?_) fun h => ?_
  · have h' := of_decide_eq_true h
    unfold flagNameW
    rw [if_pos (by omega)]
    refine Ev.sub (Ev.at 1 rfl) (Ev.at 0 rfl) (Sub1.list (LstAt.frozen _) (by omega) (by omega) ?_)
    rw [show ((base : Int) + (i : Int)).toNat = base + i by omega, List.getElem?_map, List.getElem?_eq_getElem (by rw [hw]; omega), Option.map_some, List.getD_eq_getElem?_getD, List.getElem?_eq_getElem (by rw [hw]; omega)]
    rfl
  · have h' := of_decide_eq_false h
    unfold flagNameW
    rw [if_neg (by omega)]
    have hd : ((base : Int) + (i : Int)).fdiv 4 = ((base + i) / 4 : Nat) := by rw [Int.fdiv_eq_ediv_of_nonneg _ (by omega)]; omega
    have hm : ((base : Int) + (i : Int)).fmod 4 = ((base + i) % 4 : Nat) := by rw [Int.fmod_eq_emod_of_nonneg _ (by omega)]; omega
    refine Ev.bin (Ev.bin Ev.str (Ev.sub (i := .int ((base + i) % 4 : Nat)) Ev.str (hm ▸ Ev.bin (Ev.at 0 rfl) Ev.int (Bin.mod (by decide))) (Sub1.str (c := ("1248" : Str).cps.getD ((base + i) % 4) 0) (by omega) (by omega) ?_)) (Bin.addS ?_)) (Ev.bin Ev.str (hd ▸ Ev.bin (Ev.at 0 rfl) Ev.int (Bin.div (by decide) (PyProof.noPylong_small (by decide)))) (Bin.mulS (by omega) ?_ ?_)) (Bin.addS ?_)
    · rw [Int.toNat_natCast, Array.getElem?_eq_getElem (by rw [h4]; omega)]
      simp [Array.getD, h4, Nat.mod_lt]
    · show ("0x" : Str).length + 1 ≤ 100000
      decide +kernel
    · decide +kernel
    · omega
    · have hm' : (Txt.mul "0" (((base + i) / 4 : Nat) : Int)).length ≤ 1 * 100 := len_mul_leN (by decide +kernel) (by omega)
      have h0 : ∀ y : Str, (("0x" : Str) ++ y).length = 2 + y.length := fun y => by
        rw [show (("0x" : Str) ++ y).length = ("0x" : Str).length + y.length from Array.size_append]
        congr 1
      rw [h0]
      show 2 + 1 + _ ≤ 100000
      omega
end
end Mine
end
section
local macro_rules | `(tactic| omega) => `(tactic| lia)
open PySem PySem.W PySem.Calls PyProof.Rows PySem.Builtin
namespace Mine
/-- the signs: those of the text x, and two more -/
def signsOf (x : Str) : List Str := Txt.words x ++ [(":" : Str) ++ "=", "!"]
section
variable {G : Gd} {n : Nat} {sc : Scope} {cd : Value} {ρ : Env0} {σ : Sig} {V : List Addr} {Φ : Out → Prop}
theorem St1.retSigns {x : Str} {k k1 k2 k3 : Nat} {p1 p2 p3 p4 p5 p6 p7 apos cpos pos : Pos} (h1 : x.length ≤ 100000) (h2 : (Builtin.Str.spaceWords x (x.length + 1)).length ≤ 100000) (h3 : (Txt.words x).length ≤ 1000) (hq : (apos.endLine == cpos.line) = true) (h : Φ (.ret (.list ((signsOf x).map .str)) σ)) :
    St1 ⟨G, n, sc, cd, ρ, σ⟩ V (.Return (some (.BinOp (.Call (.Attribute (.Constant (.str x) k p1) "split" apos) [] [] cpos) .Add (.List [.BinOp (.Constant (.str ":") k1 p2) .Add (.Constant (.str "=") k2 p3) p4, .Constant (.str "!") k3 p5] p6) p7)) pos) Φ := by
  refine St1.ret ?_ h
  unfold signsOf
  rw [List.map_append]
  exact Ev.bin (Ev.splitC h1 h2 hq) (Ev.list (ds := [.str ((":" : Str) ++ "="), .str "!"]) (Evs.cons (Ev.bin Ev.str Ev.str (Bin.addS (by decide +kernel))) (Evs.cons Ev.str Evs.nil)) (Nat.le_of_ble_eq_true rfl)) (Bin.addL (by rw [List.length_map]; simp only [List.length_cons, List.length_nil]; omega))
end
end Mine
end
section
local macro_rules | `(tactic| omega) => `(tactic| lia)
open PySem PySem.W PySem.Calls PyProof.Rows PySem.Builtin
namespace Mine

/-- the words of an ellipsis pattern sought one behind the other -/
def ellLoop (got : Str) (e : Int) : List Str → Int → Bool
  | [], _ => true
  | w :: ws, s => if find4 got w s e < 0 then false else ellLoop got e ws (find4 got w s e + w.length)
def ellEnd (got : Str) (ws : List Str) (s e : Int) : Bool := if s > e then false else ellLoop got e ws s
def ellTail (got : Str) (ws : List Str) (s : Int) : Bool :=
  if (ws.getLastD ⟨#[]⟩).length = 0 then ellEnd got ws s got.length else if Txt.endswith got (ws.getLastD ⟨#[]⟩) then ellEnd got ws.dropLast s (got.length - (ws.getLastD ⟨#[]⟩).length) else false
def ellRun (got : Str) (ws : List Str) : Bool :=
  if (ws.headD ⟨#[]⟩).length = 0 then ellTail got ws 0 else if Txt.startswith got (ws.headD ⟨#[]⟩) then ellTail got ws.tail (ws.headD ⟨#[]⟩).length else false

section
variable {G : Gd} {n : Nat} {σ : Sig} {cd : Value} {V : List Addr}
theorem Tv.strAt {sc : Scope} {ρ : Env0} (i : Nat) {x : Str} {pos : Pos} {y : Str} {b : Bool} (h : ρ[i]? = some (y, .str x)) (hx : x.length ≤ 1000000) (hb : (x.length ≠ 0) = (b = true)) : Tv ⟨G, n, sc, cd, ρ, σ⟩ (.Name y pos) b := by
  have := Tv.val (Ev.at (X := ⟨G, n, sc, cd, ρ, σ⟩) (pos := pos) i h) (by simpa [flat] using hx)
  rwa [show truthD (.str x) = b by
    unfold truthD
    cases b
    · simp at hb; simp [hb]
    · simp at hb; simpa using hb] at this

/-- fewer objects are turned -/
theorem St.fewer {X : Cx} {V V' : List Addr} {ss : List Stmt} {Φ : Out → Prop} (hV : ∀ a ∈ V', a ∈ V) (h : St X V' ss Φ) : St X V ss Φ := fun A env F s I => by
  have mv : ∀ {s' V''}, Moved X V' env F s s' V'' → Moved X V env F s s' V'' := fun m => ⟨m.step.mono (fun _ h _ => .inl h) fun b hb _ => (List.mem_append.mp hb).elim (fun q => List.mem_append_left _ q) fun q => List.mem_append_right _ (hV b q), fun b hb => (m.new b hb).imp (hV b) id⟩
  refine wpAny_mono (h A env F s I) (fun fl s' o => ?_) fun _ _ e => e
  cases fl with
  | next => obtain ⟨ρ', σ', V', a, b, c⟩ := o; exact ⟨ρ', σ', V', mv a, b, c⟩
  | cont => obtain ⟨ρ', σ', V', a, b, c⟩ := o; exact ⟨ρ', σ', V', mv a, b, c⟩
  | brk => obtain ⟨ρ', σ', V', a, b, c⟩ := o; exact ⟨ρ', σ', V', mv a, b, c⟩
  | ret v => obtain ⟨ρ', σ', d, a, b, c, e⟩ := o; exact ⟨ρ', σ', d, mv a, b, c, e⟩
abbrev EllPost (σ : Sig) (r : Bool) : Out → Prop := fun o => match o with | .ret d σ' => d = .bool r ∧ σ' = σ | _ => False

theorem ell_end {got : Str} {ws : List Str} {s e : Int} {a : Addr} {r : Bool} (ha : a ∉ wOf σ) (hg : got.length ≤ 10000) (hws : ∀ w ∈ ws, w.length ≤ 10000) (hlen : nsIn G.K mainGlobals "len" = some none) (hr : ellEnd got ws s e = r) :
    St ⟨G, n, scopeAt 11, cd, [("startpos", .int s), ("endpos", .int e), ("ws", .fn (.ref a)), ("got", .str got)], (a, .list (ws.map .str)) :: σ⟩ [a] ((bodyAt 11).drop 8) (EllPost σ r) := by
  refine St.freeze (X := ⟨G, n, scopeAt 11, cd, _, _⟩) (σ := σ) (ρ := [("startpos", .int s), ("endpos", .int e), ("ws", .list (ws.map .str)), ("got", .str got)]) (a := a) (ds := ws.map .str) (.head _) (fun p hp => ⟨.tail _ hp, fun q => ha (q ▸ List.mem_map.mpr ⟨p, hp, rfl⟩)⟩) (fun h => (List.nodup_cons.mp h).2) ?_ ?_
  · intro p hp
    simp only [List.mem_cons, List.not_mem_nil, or_false] at hp
    rcases hp with rfl | rfl | rfl | rfl
    · exact .inl (.head _)
    · exact .inl (.tail _ (.head _))
    · exact .inr ⟨_, rfl, .tail _ (.tail _ (.head _))⟩
    · exact .inl (.tail _ (.tail _ (.tail _ (.head _))))
  · refine St.fewer (V' := []) (fun _ h => absurd h List.not_mem_nil) ?_
    show St ⟨G, n, scopeAt 11, cd, [("startpos", .int s), ("endpos", .int e), ("ws", .list (ws.map .str)), ("got", .str got)], σ⟩ [] _ _
    unfold ellEnd at hr
    by_cases hse : s > e
    · rw [if_pos hse] at hr
      exact St.c (St1.ifs (b := true) (Tv.cmp (Ev.at 0 rfl) (Ev.at 1 rfl) (decide_eq_true hse ▸ Bin.gt)) (fun _ => St.c (St1.ret Ev.bool ⟨by rw [hr], rfl⟩)) fun q => nomatch q)
    rw [if_neg hse] at hr
    refine St.c (St1.ifs (b := false) (Tv.cmp (Ev.at 0 rfl) (Ev.at 1 rfl) (decide_eq_false hse ▸ Bin.gt)) (fun q => nomatch q) fun _ => St.end_ ?_)
    refine St.c (St1.forC (m := (ws.map D.str).length) (ρ₀ := [("startpos", .int s), ("endpos", .int e), ("ws", .list (ws.map .str)), ("got", .str got)]) (IterEx.list (d := .none) (Ev.at 2 rfl) (by decide +kernel)) (by kernel_rfl) (fun _ h => absurd h List.not_mem_nil)
      (fun i ρ σ' => ∃ t, ρ = ([("startpos", .int t), ("endpos", .int e), ("ws", .list (ws.map .str)), ("got", .str got)] : Env0) ∧ σ' = σ ∧ ellLoop got e (ws.drop i) t = r)
      (fun _ h => h) ⟨s, rfl, rfl, hr⟩ ?_ ?_)
    · rintro i ρ σ' hi hw ⟨t, rfl, rfl, hr⟩
      refine ⟨notKeys (by kernel_rfl), ?_⟩
      rw [List.length_map] at hi
      rw [show (ws.map D.str).getD i .none = .str ws[i] by simp [List.getD_eq_getElem?_getD, hi]]
      rw [List.drop_eq_getElem_cons hi] at hr
      unfold ellLoop at hr
      have hwl := hws _ (List.getElem_mem hi)
      generalize ws[i] = w at hr hwl
      refine St.c (St1.set 1 (Ev.meth (Ev.at 4 rfl) Meth.find (Evs.cons (Ev.at 0 rfl) (Evs.cons (Ev.at 1 rfl) (Evs.cons (Ev.at 2 rfl) Evs.nil))) Calls.find4) ?_)
      by_cases hf : find4 got w t e < 0
      · rw [if_pos hf] at hr
        exact St.c (St1.ifs (b := true) (Tv.cmp (Ev.at 0 rfl) Ev.int (decide_eq_true hf ▸ Bin.lt)) (fun _ => St.c (St1.ret Ev.bool ⟨by rw [hr], rfl⟩)) fun q => nomatch q)
      · rw [if_neg hf] at hr
        refine St.c (St1.ifs (b := false) (Tv.cmp (Ev.at 0 rfl) Ev.int (decide_eq_false hf ▸ Bin.lt)) (fun q => nomatch q) fun _ => St.end_ ?_)
        refine St.c (St1.inc 0 rfl (Ev.call (Ev.blt (by kernel_rfl) hlen rfl (by decide +kernel) (by decide +kernel)) (Evs.cons (Ev.at 1 rfl) Evs.nil) (Calls.len_str (by omega)) keepB) Bin.iadd ?_)
        refine St.end_ ?_
        exact ⟨_, subK (by kernel_rfl), rfl, rfl, _, rfl, rfl, hr⟩
    · rintro ρ σ' hw ⟨t, rfl, rfl, hr⟩
      rw [List.length_map, List.drop_length] at hr
      exact St.end_ (St.c (St1.ret Ev.bool ⟨by rw [← hr]; rfl, rfl⟩))
end
end Mine
end
section
local macro_rules | `(tactic| omega) => `(tactic| lia)
open PySem PySem.W PySem.Calls PyProof.Rows PySem.Builtin
namespace Mine

section
variable {G : Gd} {n : Nat} {σ : Sig} {cd : Value} {V : List Addr}
theorem strAt_map {ws : List Str} {k : Nat} {w : Str} (h : ws[k]? = some w) : (ws.map D.str)[k]? = some (.str w) := by rw [List.getElem?_map, h]; rfl
theorem last_get {ws : List Str} (h : ws ≠ []) : ws[ws.length - 1]? = some (ws.getLastD ⟨#[]⟩) := by
  rw [List.getLastD_eq_getLast?, ← List.getLast?_eq_getElem?]
  cases e : ws.getLast? with
  | none => exact absurd (List.getLast?_eq_none_iff.mp e) h
  | some w => rfl
theorem del_last {ws : List Str} : (ws.map D.str).eraseIdx (ws.length - 1) = ws.dropLast.map D.str := by
  rw [List.map_dropLast, List.dropLast_eq_take, List.length_map]
  by_cases h : ws = []
  · subst h; rfl
  · have : ws.length ≠ 0 := fun q => h (List.length_eq_zero_iff.mp q)
    rw [List.eraseIdx_eq_take_drop_succ, List.drop_eq_nil_of_le (by rw [List.length_map]; omega), List.append_nil]

theorem ell_tail {got : Str} {ws : List Str} {s : Int} {a : Addr} {r : Bool} (ha : a ∉ wOf σ) (hg : got.length ≤ 10000) (hws : ∀ w ∈ ws, w.length ≤ 10000) (hne : ws ≠ []) (hn : ws.length ≤ 10000) (hlen : nsIn G.K mainGlobals "len" = some none) (hr : ellTail got ws s = r) :
    St ⟨G, n, scopeAt 11, cd, [("startpos", .int s), ("endpos", .int got.length), ("ws", .fn (.ref a)), ("got", .str got)], (a, .list (ws.map .str)) :: σ⟩ [a] ((bodyAt 11).drop 6) (EllPost σ r) := by
  have hlast := last_get hne
  have hwl := hws _ (List.mem_of_getElem? hlast)
  have hne0 : ws.length ≠ 0 := fun q => hne (List.length_eq_zero_iff.mp q)
  unfold ellTail at hr
  generalize hw : ws.getLastD ⟨#[]⟩ = w at hlast hwl hr
  refine St.c (St1.set 4 (Ev.sub (Ev.at 2 rfl) (Ev.un Ev.int Un.neg) (Sub1.list_last (LstAt.owned a (ws.map .str) (.head _)) (r := .str w) (by rw [List.length_map]; exact strAt_map hlast))) ?_)
  by_cases h0 : w.length = 0
  · rw [if_pos h0] at hr
    refine St.c (St1.ifs (b := false) (Tv.strAt 0 rfl (by omega) (by simp [h0])) (fun q => nomatch q) fun _ => St.end_ ?_)
    exact St.re [("startpos", .int s), ("endpos", .int got.length), ("ws", .fn (.ref a)), ("got", .str got)] (ell_end ha hg hws hlen hr) (fun p hp => .tail _ hp)
  · rw [if_neg h0] at hr
    refine St.c (St1.ifs (b := true) (Tv.strAt 0 rfl (by omega) (by simp [h0])) (fun _ => ?_) fun q => nomatch q)
    by_cases he : Txt.endswith got w = true
    · rw [if_pos he] at hr
      refine St.c (St1.ifs (b := true) (Tv.val (d := .bool true) (he ▸ Ev.meth (Ev.at 4 rfl) Meth.endswith (Evs.cons (Ev.at 0 rfl) Evs.nil) Calls.endswith) rfl) (fun _ => ?_) fun q => nomatch q)
      refine St.c (St1.inc 2 rfl (Ev.call (Ev.blt (by kernel_rfl) hlen rfl (by decide +kernel) (by decide +kernel)) (Evs.cons (Ev.at 0 rfl) Evs.nil) (Calls.len_str (by omega)) keepB) Bin.isub ?_)
      refine St.c (St1.del (a := a) (ds := ws.map .str) (i := -1) (k := ws.length - 1) (Ev.at 3 rfl) (Ev.un Ev.int Un.neg) (.head _) (.head _) (by decide) ?_ (by rw [List.length_map]; omega) ?_)
      · unfold seqIndex?
        rw [List.length_map]
        have : (0 ≤ (-1 + (ws.length : Int)) && (-1 + (ws.length : Int)) < ws.length) = true := by simp; omega
        simp only [Int.reduceNeg, Int.reduceLT, if_true]
        rw [if_pos this]
        congr 1; omega
      · refine St.end_ (St.end_ ?_)
        rw [upd_head ha, del_last]
        exact St.re [("startpos", .int s), ("endpos", .int (got.length - w.length)), ("ws", .fn (.ref a)), ("got", .str got)] (ell_end ha hg (fun w hw => hws w (List.dropLast_subset _ hw)) hlen hr) (subK (by kernel_rfl))
    · rw [if_neg he] at hr
      have he' : Txt.endswith got w = false := by simpa using he
      refine St.c (St1.ifs (b := false) (Tv.val (d := .bool false) (he' ▸ Ev.meth (Ev.at 4 rfl) Meth.endswith (Evs.cons (Ev.at 0 rfl) Evs.nil) Calls.endswith) rfl) (fun q => nomatch q) fun _ => ?_)
      exact St.weak (σ := σ) (ρ := []) (fun _ h => absurd h List.not_mem_nil) (fun p hp => .tail _ hp) (fun h => (List.nodup_cons.mp h).2) (St.c (St1.ret Ev.bool ⟨by rw [hr], rfl⟩))
theorem ell_body {want got : Str} {ws : List Str} {r : Bool} {t : Tok} (hM : nsIn G.K mainGlobals "ELLIPSIS_MARKER" = some (some (.str "..." t))) (hlen : nsIn G.K mainGlobals "len" = some none) (hc : Txt.contains want "..." = true) (hs : Txt.split want "..." = ws) (h2 : 2 ≤ ws.length) (hn : ws.length ≤ 10000)
    (hwl : want.length ≤ 10000) (hg : got.length ≤ 10000) (hws : ∀ w ∈ ws, w.length ≤ 10000) (hp : (Builtin.Str.partsBetween want (Builtin.Str.occurrences want "..." 0 want.length (want.length + 1)) ("..." : Str).length).length ≤ 100000) (hr : ellRun got ws = r) :
    St ⟨G, n, scopeAt 11, cd, [("want", .str want), ("got", .str got)], σ⟩ [] (bodyAt 11) (EllPost σ r) := by
  refine St.c (St1.ifs (b := false) (Tv.cmp (Ev.globD (d := .str "...") (by kernel_rfl) hM (fun _ _ => .str _ _) (by decide +kernel)) (Ev.at 0 rfl) (by have := @Bin.notInS ⟨G, n, scopeAt 11, cd, [("want", .str want), ("got", .str got)], σ⟩ want "..."; rwa [hc] at this)) (fun q => nomatch q) fun _ => St.end_ ?_)
  refine St.c (St1.assignNew (ρ := [("want", .str want), ("got", .str got)]) (EvNew.meth (Ev.at 0 rfl) Meth.split (Evs.cons (Ev.globD (d := .str "...") (by kernel_rfl) hM (fun _ _ => .str _ _) (by decide +kernel)) Evs.nil) (CallsNew.split1 (by decide +kernel) (by omega) hp)) (by kernel_rfl) (fun _ h => h) (ne_all (by kernel_rfl)) (by decide +kernel) (fun a ha => ?_) (by intro _ _; rfl))
  show St ⟨G, n, scopeAt 11, cd, [("ws", .fn (.ref a)), ("want", .str want), ("got", .str got)], (a, .list ((Txt.split want "...").map .str)) :: σ⟩ [a] _ _
  rw [hs]
  refine St.c (St1.assert (Tv.cmp (Ev.call (Ev.blt (by kernel_rfl) hlen rfl (by decide +kernel) (by decide +kernel)) (Evs.cons (Ev.at 0 rfl) Evs.nil) (Calls.len_list (LstAt.owned a (ws.map .str) (.head _)) (by rw [List.length_map]; omega)) keepB) Ev.int (Bin.ge' (by rw [List.length_map]; exact decide_eq_true (by omega)))) ?_)
  refine St.c (St1.assign2 (a := ("startpos", _)) (b := ("endpos", _)) (ρ := [("ws", .fn (.ref a)), ("want", .str want), ("got", .str got)]) (d1 := .int 0) (d2 := .int got.length) Ev.int (Ev.call (Ev.blt (by kernel_rfl) hlen rfl (by decide +kernel) (by decide +kernel)) (Evs.cons (Ev.at 2 rfl) Evs.nil) (Calls.len_str (by omega)) keepB) (by kernel_rfl) (by kernel_rfl) (by decide +kernel) (by decide +kernel) (by decide +kernel) (fun _ h => h) (fun p hp => ⟨ne_all (ρ := [("ws", .fn (.ref a)), ("want", .str want), ("got", .str got)]) (by kernel_rfl) p hp, ne_all (ρ := [("ws", .fn (.ref a)), ("want", .str want), ("got", .str got)]) (by kernel_rfl) p hp⟩) ?_ rfl (by intro _ _; rfl) (by intro env h; cases env; cases h; rfl))
  -- the first word
  have hn0 : ws ≠ [] := fun q => by subst q; simp at h2
  have hfirst : ws[0]? = some (ws.headD ⟨#[]⟩) := by cases ws with
    | nil => exact absurd rfl hn0
    | cons w ws => rfl
  have hwl0 := hws _ (List.mem_of_getElem? hfirst)
  unfold ellRun at hr
  generalize hw0 : ws.headD ⟨#[]⟩ = w at hfirst hwl0 hr
  show St ⟨G, n, scopeAt 11, cd, [("startpos", .int 0), ("endpos", .int got.length), ("ws", .fn (.ref a)), ("want", .str want), ("got", .str got)], (a, .list (ws.map .str)) :: σ⟩ [a] _ _
  refine St.c (St1.set 5 (Ev.sub (Ev.at 2 rfl) Ev.int (Sub1.list (LstAt.owned a (ws.map .str) (.head _)) (r := .str w) (by decide) (by decide) (strAt_map hfirst))) ?_)
  have more : ∀ (ws' : List Str) (s : Int) (ρ : Env0), (∀ p ∈ ([("startpos", .int s), ("endpos", .int got.length), ("ws", .fn (.ref a)), ("got", .str got)] : Env0), p ∈ ρ) → ws' ≠ [] → (∀ w ∈ ws', w ∈ ws) → ws'.length ≤ 10000 → ellTail got ws' s = r → St ⟨G, n, scopeAt 11, cd, ρ, (a, .list (ws'.map .str)) :: σ⟩ [a] ((bodyAt 11).drop 6) (EllPost σ r) :=
    fun ws' s ρ hρ h1 h3 h4 h5 => St.re [("startpos", .int s), ("endpos", .int got.length), ("ws", .fn (.ref a)), ("got", .str got)] (ell_tail ha hg (fun w hw => hws w (h3 w hw)) h1 h4 hlen h5) hρ
  by_cases h0 : w.length = 0
  · rw [if_pos h0] at hr
    refine St.c (St1.ifs (b := false) (Tv.strAt 0 rfl (by omega) (by simp [h0])) (fun q => nomatch q) fun _ => St.end_ ?_)
    exact more ws 0 _ (subK (by kernel_rfl)) hn0 (fun _ h => h) hn hr
  · rw [if_neg h0] at hr
    refine St.c (St1.ifs (b := true) (Tv.strAt 0 rfl (by omega) (by simp [h0])) (fun _ => ?_) fun q => nomatch q)
    by_cases he : Txt.startswith got w = true
    · rw [if_pos he] at hr
      refine St.c (St1.ifs (b := true) (Tv.val (d := .bool true) (he ▸ Ev.meth (Ev.at 5 rfl) Meth.startswith (Evs.cons (Ev.at 0 rfl) Evs.nil) Calls.startswith) rfl) (fun _ => ?_) fun q => nomatch q)
      refine St.c (St1.set 1 (Ev.call (Ev.blt (by kernel_rfl) hlen rfl (by decide +kernel) (by decide +kernel)) (Evs.cons (Ev.at 0 rfl) Evs.nil) (Calls.len_str (by omega)) keepB) ?_)
      refine St.c (St1.del (a := a) (ds := ws.map .str) (i := 0) (k := 0) (Ev.at 3 rfl) Ev.int (.head _) (.head _) (by decide) ?_ (by rw [List.length_map]; omega) ?_)
      · unfold seqIndex?
        rw [List.length_map]
        have : (0 ≤ (0 : Int) && (0 : Int) < ws.length) = true := by simp; omega
        simp only [Int.lt_irrefl, if_false]
        rw [if_pos this]; rfl
      · refine St.end_ (St.end_ ?_)
        rw [upd_head ha]
        have e : (ws.map D.str).eraseIdx 0 = ws.tail.map D.str := by cases ws <;> rfl
        rw [e]
        refine more ws.tail w.length _ (subK (by kernel_rfl)) ?_ (fun w hw => List.mem_of_mem_tail hw) (by rw [List.length_tail]; omega) hr
        intro q
        have := congrArg List.length q
        rw [List.length_tail] at this
        simp at this; omega
    · rw [if_neg he] at hr
      have he' : Txt.startswith got w = false := by simpa using he
      refine St.c (St1.ifs (b := false) (Tv.val (d := .bool false) (he' ▸ Ev.meth (Ev.at 5 rfl) Meth.startswith (Evs.cons (Ev.at 0 rfl) Evs.nil) Calls.startswith) rfl) (fun q => nomatch q) fun _ => ?_)
      exact St.weak (σ := σ) (ρ := []) (fun _ h => absurd h List.not_mem_nil) (fun p hp => .tail _ hp) (fun h => (List.nodup_cons.mp h).2) (St.c (St1.ret Ev.bool ⟨by rw [hr], rfl⟩))
end
end Mine
end
section
local macro_rules | `(tactic| omega) => `(tactic| lia)
open PySem PySem.W PySem.Calls PyProof.Rows PySem.Builtin
namespace Mine

/-- how the four searches take their arguments -/
structure SrchBind (G : Gd) (fd : FuncData) : Prop where
  b2 : ∀ d x, BindAs G fd [] srchXs [d, x] [d, x, .int 0, .none, .none]
  b3 : ∀ d x lo, BindAs G fd [] srchXs [d, x, lo] [d, x, lo, .none, .none]
  b4 : ∀ d x lo hi, BindAs G fd [] srchXs [d, x, lo, hi] [d, x, lo, hi, .none]
  k2 : ∀ d x f, BindAs G fd [("key", f)] srchXs [d, x] [d, x, .int 0, .none, .fn f]
  k4 : ∀ d x lo hi f, BindAs G fd [("key", f)] srchXs [d, x, lo, hi] [d, x, lo, hi, .fn f]
def SrchAt (G : Gd) (i : Nat) (name : Str) (a : Addr) : Prop := ∃ cd fd, FnAt G i name a cd fd ∧ SrchBind G fd

/-- where a number's place is in a rising row -/
def cntLe (ks : List Int) (x : Int) : Nat := ks.countP fun k => decide (k ≤ x)
def cntLt (ks : List Int) (x : Int) : Nat := ks.countP fun k => decide (k < x)
theorem cnt_place {P : Int → Bool} : ∀ {ks : List Int}, ks.Pairwise (fun a b => P b = true → P a = true) → ∀ (i : Nat) (k : Int), ks[i]? = some k → (i < ks.countP P ↔ P k = true)
  | [], _, i, k, h => by cases h
  | a :: ks, hp, 0, k, h => by
    obtain rfl : a = k := by simpa using h
    rw [List.countP_cons]
    by_cases ha : P a = true
    · simp [ha]
    · constructor
      · intro q
        have hq : 0 < ks.countP P := by simpa [ha] using q
        obtain ⟨b, hb, hPb⟩ := List.countP_pos_iff.mp hq
        exact absurd ((List.pairwise_cons.mp hp).1 b hb hPb) ha
      · intro q; exact absurd q ha
  | a :: ks, hp, i + 1, k, h => by
    have ih := cnt_place (List.pairwise_cons.mp hp).2 i k h
    rw [List.countP_cons]
    by_cases ha : P a = true
    · simp only [ha, if_true]
      rw [← ih]; omega
    · have hk : ¬ P k = true := fun q => ha ((List.pairwise_cons.mp hp).1 k (List.mem_of_getElem? h) q)
      have h0 : ks.countP P = 0 := List.countP_eq_zero.mpr fun b hb q => ha ((List.pairwise_cons.mp hp).1 b hb q)
      constructor
      · intro q; rw [h0] at q; simp [ha] at q
      · intro q; exact absurd q hk
theorem le_place {ks : List Int} {x : Int} (h : ks.Pairwise (· ≤ ·)) (i : Nat) (k : Int) (e : ks[i]? = some k) : i < cntLe ks x ↔ k ≤ x := by
  have := cnt_place (P := fun k => decide (k ≤ x)) (h.imp fun {a b} hab => by simp; omega) i k e
  simpa [cntLe] using this
theorem lt_place {ks : List Int} {x : Int} (h : ks.Pairwise (· ≤ ·)) (i : Nat) (k : Int) (e : ks[i]? = some k) : i < cntLt ks x ↔ k < x := by
  have := cnt_place (P := fun k => decide (k < x)) (h.imp fun {a b} hab => by simp; omega) i k e
  simpa [cntLt] using this
theorem gt_place {ks : List Int} {x : Int} (h : ks.Pairwise (· ≤ ·)) (i : Nat) (k : Int) (e : ks[i]? = some k) (q : cntLe ks x ≤ i) : x < k :=
  Int.lt_of_not_ge fun hk => absurd ((le_place h i k e).mpr hk) (Nat.not_lt.mpr q)
theorem ge_place {ks : List Int} {x : Int} (h : ks.Pairwise (· ≤ ·)) (i : Nat) (k : Int) (e : ks[i]? = some k) (q : cntLt ks x ≤ i) : x ≤ k :=
  Int.le_of_not_gt fun hk => absurd ((lt_place h i k e).mpr hk) (Nat.not_lt.mpr q)
theorem cntLe_le {ks : List Int} {x : Int} : cntLe ks x ≤ ks.length := List.countP_le_length
theorem cntLt_le {ks : List Int} {x : Int} : cntLt ks x ≤ ks.length := List.countP_le_length
theorem cntLt_cntLe {ks : List Int} {x : Int} : cntLt ks x ≤ cntLe ks x := List.countP_mono_left fun k _ h => by simp at h ⊢; omega

section
variable {G : Gd} {n : Nat} {σ : Sig} {V : List Addr}
/-- bisect_right in a rising row -/
theorem SrchAt.bisR {a : Addr} (h : SrchAt G 2 "bisect_right" a) (hlen : nsIn G.K mainGlobals "len" = some none) {ks : List Int} {x : Int} {lo : Nat} {da : D} (L : LstAt σ da (ks.map .int)) (hz : ks.length ≤ 100000) (hs : ks.Pairwise (· ≤ ·)) (hlo : lo ≤ cntLe ks x) (hn : 1 ≤ n) :
    (lo = 0 → Calls G n σ (.ref a) [da, .int x] (.int (cntLe ks x))) ∧ Calls G n σ (.ref a) [da, .int x, .int lo] (.int (cntLe ks x)) ∧ Calls G n σ (.ref a) [da, .int x, .int lo, .none] (.int (cntLe ks x)) := by
  obtain ⟨cd, fd, F, B⟩ := h
  obtain ⟨m, rfl⟩ : ∃ m, n = m + 1 := ⟨n - 1, by omega⟩
  have hk : KeysAt G m σ .none (ks.map .int) ks := .inl ⟨rfl, rfl⟩
  have hc := cntLe_le (ks := ks) (x := x)
  have h2 : cntLe ks x ≤ (none : Option Nat).getD (ks.map D.int).length := by rw [List.length_map]; exact hc
  have h3 : (none : Option Nat).getD (ks.map D.int).length ≤ (ks.map D.int).length := Nat.le_refl _
  have hz' : (ks.map D.int).length ≤ 100000 := by rw [List.length_map]; exact hz
  have a1 : ∀ (i : Nat) (k : Int), ks[i]? = some k → i < cntLe ks x → k ≤ x := fun i k e q => (le_place hs i k e).mp q
  have a2 : ∀ (i : Nat) (k : Int), ks[i]? = some k → cntLe ks x ≤ i → x < k := fun i k e q => gt_place hs i k e q
  refine ⟨fun e => ?_, ?_, ?_⟩
  · subst e
    exact CallsM.calls (c_bisR F (B.b2 da (.int x)) hlen L hz' hk (hi := none) rfl hlo h2 h3 a1 a2)
  · exact CallsM.calls (c_bisR F (B.b3 da (.int x) (.int lo)) hlen L hz' hk (hi := none) rfl hlo h2 h3 a1 a2)
  · exact CallsM.calls (c_bisR F (B.b4 da (.int x) (.int lo) .none) hlen L hz' hk (hi := none) rfl hlo h2 h3 a1 a2)
/-- bisect_left in a rising row -/
theorem SrchAt.bisL {a : Addr} (h : SrchAt G 4 "bisect_left" a) (hlen : nsIn G.K mainGlobals "len" = some none) {ks : List Int} {x : Int} {hi : Nat} {da : D} (L : LstAt σ da (ks.map .int)) (hz : ks.length ≤ 100000) (hs : ks.Pairwise (· ≤ ·)) (hhi : cntLt ks x ≤ hi) (hhi' : hi ≤ ks.length) (hn : 1 ≤ n) :
    Calls G n σ (.ref a) [da, .int x] (.int (cntLt ks x)) ∧ Calls G n σ (.ref a) [da, .int x, .int 0, .int hi] (.int (cntLt ks x)) ∧ Calls G n σ (.ref a) [da, .int x, .int 0, .none] (.int (cntLt ks x)) := by
  obtain ⟨cd, fd, F, B⟩ := h
  obtain ⟨m, rfl⟩ : ∃ m, n = m + 1 := ⟨n - 1, by omega⟩
  have hk : KeysAt G m σ .none (ks.map .int) ks := .inl ⟨rfl, rfl⟩
  have hc := cntLt_le (ks := ks) (x := x)
  have hz' : (ks.map D.int).length ≤ 100000 := by rw [List.length_map]; exact hz
  have a1 : ∀ (i : Nat) (k : Int), ks[i]? = some k → i < cntLt ks x → k < x := fun i k e q => (lt_place hs i k e).mp q
  have a2 : ∀ (i : Nat) (k : Int), ks[i]? = some k → cntLt ks x ≤ i → x ≤ k := fun i k e q => ge_place hs i k e q
  have h0 : (0 : Nat) ≤ cntLt ks x := Nat.zero_le _
  refine ⟨?_, ?_, ?_⟩
  · exact CallsM.calls (c_bisL (lo := 0) F (B.b2 da (.int x)) hlen L hz' hk (hi := none) rfl h0 (by rw [Option.getD_none, List.length_map]; exact hc) (Nat.le_refl _) a1 a2)
  · exact CallsM.calls (c_bisL (lo := 0) F (B.b4 da (.int x) (.int 0) (.int hi)) hlen L hz' hk (hi := some hi) rfl h0 hhi (by rw [List.length_map]; exact hhi') a1 a2)
  · exact CallsM.calls (c_bisL (lo := 0) F (B.b4 da (.int x) (.int 0) .none) hlen L hz' hk (hi := none) rfl h0 (by rw [Option.getD_none, List.length_map]; exact hc) (Nat.le_refl _) a1 a2)

/-- what a search gives to an insort -/
theorem SrchAt.findsR {a : Addr} (h : SrchAt G 2 "bisect_right" a) (hlen : nsIn G.K mainGlobals "len" = some none) {ds : List D} {ks : List Int} {x : Int} {da dk : D} (L : LstAt σ da ds) (hz : ds.length ≤ 100000) (hs : ks.Pairwise (· ≤ ·)) (hk : KeysAt G n σ dk ds ks) : Finds G (n + 1) σ a da x dk (cntLe ks x) := by
  obtain ⟨cd, fd, F, B⟩ := h
  have hl := hk.len
  have hc := cntLe_le (ks := ks) (x := x)
  have a1 : ∀ (i : Nat) (k : Int), ks[i]? = some k → i < cntLe ks x → k ≤ x := fun i k e q => (le_place hs i k e).mp q
  have a2 : ∀ (i : Nat) (k : Int), ks[i]? = some k → cntLe ks x ≤ i → x < k := fun i k e q => gt_place hs i k e q
  refine ⟨fun e => ?_, fun f e => ?_⟩
  · subst e
    exact CallsM.calls (c_bisR (lo := 0) F (B.b4 da (.int x) (.int 0) .none) hlen L hz hk (hi := none) rfl (Nat.zero_le _) (by rw [Option.getD_none]; omega) (Nat.le_refl _) a1 a2)
  · subst e
    exact c_bisR (lo := 0) F (B.k4 da (.int x) (.int 0) .none f) hlen L hz hk (hi := none) rfl (Nat.zero_le _) (by rw [Option.getD_none]; omega) (Nat.le_refl _) a1 a2
theorem SrchAt.findsL {a : Addr} (h : SrchAt G 4 "bisect_left" a) (hlen : nsIn G.K mainGlobals "len" = some none) {ds : List D} {ks : List Int} {x : Int} {da dk : D} (L : LstAt σ da ds) (hz : ds.length ≤ 100000) (hs : ks.Pairwise (· ≤ ·)) (hk : KeysAt G n σ dk ds ks) : Finds G (n + 1) σ a da x dk (cntLt ks x) := by
  obtain ⟨cd, fd, F, B⟩ := h
  have hl := hk.len
  have hc := cntLt_le (ks := ks) (x := x)
  have a1 : ∀ (i : Nat) (k : Int), ks[i]? = some k → i < cntLt ks x → k < x := fun i k e q => (lt_place hs i k e).mp q
  have a2 : ∀ (i : Nat) (k : Int), ks[i]? = some k → cntLt ks x ≤ i → x ≤ k := fun i k e q => ge_place hs i k e q
  refine ⟨fun e => ?_, fun f e => ?_⟩
  · subst e
    exact CallsM.calls (c_bisL (lo := 0) F (B.b4 da (.int x) (.int 0) .none) hlen L hz hk (hi := none) rfl (Nat.zero_le _) (by rw [Option.getD_none]; omega) (Nat.le_refl _) a1 a2)
  · subst e
    exact c_bisL (lo := 0) F (B.k4 da (.int x) (.int 0) .none f) hlen L hz hk (hi := none) rfl (Nat.zero_le _) (by rw [Option.getD_none]; omega) (Nat.le_refl _) a1 a2

/-- the key of an insort -/
def KeyOk (G : Gd) (n : Nat) (σ : Sig) (dk dx : D) (kx : Int) : Prop := (dk = .none ∧ dx = .int kx) ∨ ∃ f, dk = .fn f ∧ (f == Value.none) = false ∧ KeepV G n σ f ∧ Calls G n σ f [dx] (.int kx)
theorem SrchAt.insR {a aB : Addr} (h : SrchAt G 1 "insort_right" a) (hB : SrchAt G 2 "bisect_right" aB) (hlen : nsIn G.K mainGlobals "len" = some none) {A : Addr} {ds : List D} {ks : List Int} {kx : Int} {dx : D} (hA : (A, Own.list ds) ∈ σ) (hAV : A ∈ V) (hz : ds.length ≤ 100000) (hs : ks.Pairwise (· ≤ ·)) :
    (ds = ks.map .int → dx = .int kx → CallsM G (n + 2) σ V (.ref a) [.fn (.ref A), dx] [] (fun d σ' => d = .none ∧ σ' = upd σ A (.list (ds.take (cntLe ks kx) ++ dx :: ds.drop (cntLe ks kx))))) ∧
    ∀ f, KeysAt G n σ (.fn f) ds ks → KeyOk G (n + 1) σ (.fn f) dx kx → CallsM G (n + 2) σ V (.ref a) [.fn (.ref A), dx] [("key", f)] (fun d σ' => d = .none ∧ σ' = upd σ A (.list (ds.take (cntLe ks kx) ++ dx :: ds.drop (cntLe ks kx)))) := by
  obtain ⟨cd, fd, F, B⟩ := h
  have hB' := hB
  obtain ⟨cdB, fdB, FB, BB⟩ := hB'
  have L : LstAt σ (.fn (.ref A)) ds := LstAt.owned A ds hA
  refine ⟨fun e1 e2 => ?_, fun f hk hkey => ?_⟩
  · have hk : KeysAt G n σ .none ds ks := .inl ⟨rfl, e1⟩
    have hc : cntLe ks kx ≤ ds.length := by rw [← hk.len]; exact cntLe_le
    exact CallsM.of_body F.K (B.b2 _ _ σ) (by kernel_rfl) (by decide +kernel) srch_nice rfl (St.mono (insR_body FB.ns FB.keep hA hAV hz hc (hB.findsR hlen L hz hs hk) (.inl ⟨rfl, e2⟩)) fun o ho => by cases o <;> first | exact ⟨rfl, ho⟩ | exact ho.elim)
  · have hc : cntLe ks kx ≤ ds.length := by rw [← hk.len]; exact cntLe_le
    exact CallsM.of_body F.K (B.k2 _ _ f σ) (by kernel_rfl) (by decide +kernel) srch_nice rfl (St.mono (insR_body FB.ns FB.keep hA hAV hz hc (hB.findsR hlen L hz hs hk) hkey) fun o ho => by cases o <;> first | exact ⟨rfl, ho⟩ | exact ho.elim)
theorem SrchAt.insL {a aB : Addr} (h : SrchAt G 3 "insort_left" a) (hB : SrchAt G 4 "bisect_left" aB) (hlen : nsIn G.K mainGlobals "len" = some none) {A : Addr} {ds : List D} {ks : List Int} {kx : Int} {dx : D} (hA : (A, Own.list ds) ∈ σ) (hAV : A ∈ V) (hz : ds.length ≤ 100000) (hs : ks.Pairwise (· ≤ ·)) :
    (ds = ks.map .int → dx = .int kx → CallsM G (n + 2) σ V (.ref a) [.fn (.ref A), dx] [] (fun d σ' => d = .none ∧ σ' = upd σ A (.list (ds.take (cntLt ks kx) ++ dx :: ds.drop (cntLt ks kx))))) ∧
    ∀ f, KeysAt G n σ (.fn f) ds ks → KeyOk G (n + 1) σ (.fn f) dx kx → CallsM G (n + 2) σ V (.ref a) [.fn (.ref A), dx] [("key", f)] (fun d σ' => d = .none ∧ σ' = upd σ A (.list (ds.take (cntLt ks kx) ++ dx :: ds.drop (cntLt ks kx)))) := by
  obtain ⟨cd, fd, F, B⟩ := h
  have hB' := hB
  obtain ⟨cdB, fdB, FB, BB⟩ := hB'
  have L : LstAt σ (.fn (.ref A)) ds := LstAt.owned A ds hA
  refine ⟨fun e1 e2 => ?_, fun f hk hkey => ?_⟩
  · have hk : KeysAt G n σ .none ds ks := .inl ⟨rfl, e1⟩
    have hc : cntLt ks kx ≤ ds.length := by rw [← hk.len]; exact cntLt_le
    exact CallsM.of_body F.K (B.b2 _ _ σ) (by kernel_rfl) (by decide +kernel) srch_nice rfl (St.mono (insL_body FB.ns FB.keep hA hAV hz hc (hB.findsL hlen L hz hs hk) (.inl ⟨rfl, e2⟩)) fun o ho => by cases o <;> first | exact ⟨rfl, ho⟩ | exact ho.elim)
  · have hc : cntLt ks kx ≤ ds.length := by rw [← hk.len]; exact cntLt_le
    exact CallsM.of_body F.K (B.k2 _ _ f σ) (by kernel_rfl) (by decide +kernel) srch_nice rfl (St.mono (insL_body FB.ns FB.keep hA hAV hz hc (hB.findsL hlen L hz hs hk) hkey) fun o ho => by cases o <;> first | exact ⟨rfl, ho⟩ | exact ho.elim)
end
end Mine
end
section
local macro_rules | `(tactic| omega) => `(tactic| lia)
open PySem PySem.W PySem.Calls PyProof.Rows PySem.Builtin
namespace Mine

theorem ins_sorted {ks : List Int} {x : Int} {c : Nat} (h : ks.Pairwise (· ≤ ·)) (h1 : ∀ (i : Nat) (k : Int), ks[i]? = some k → i < c → k ≤ x) (h2 : ∀ (i : Nat) (k : Int), ks[i]? = some k → c ≤ i → x ≤ k) : (ks.take c ++ x :: ks.drop c).Pairwise (· ≤ ·) := by
  have ht : ∀ a ∈ ks.take c, a ≤ x := fun a ha => by
    obtain ⟨i, hi, e⟩ := List.mem_iff_getElem.mp ha
    rw [List.length_take] at hi
    exact h1 i a (by rw [← e, List.getElem_take]; exact List.getElem?_eq_getElem (by omega)) (by omega)
  have hd : ∀ a ∈ ks.drop c, x ≤ a := fun a ha => by
    obtain ⟨i, hi, e⟩ := List.mem_iff_getElem.mp ha
    rw [List.length_drop] at hi
    exact h2 (c + i) a (by rw [← e, List.getElem_drop]; exact List.getElem?_eq_getElem (by omega)) (by omega)
  refine List.pairwise_append.mpr ⟨h.sublist (List.take_sublist ..), List.pairwise_cons.mpr ⟨hd, h.sublist (List.drop_sublist ..)⟩, fun a ha b hb => ?_⟩
  rcases List.mem_cons.mp hb with rfl | hb
  · exact ht a ha
  · exact Int.le_trans (ht a ha) (hd b hb)
theorem ins_perm {α : Type} {ks : List α} {x : α} {c : Nat} : (ks.take c ++ x :: ks.drop c).Perm (x :: ks) := by
  have := List.perm_middle (a := x) (l₁ := ks.take c) (l₂ := ks.drop c)
  rwa [List.take_append_drop] at this
theorem insLe_sorted {ks : List Int} {x : Int} (h : ks.Pairwise (· ≤ ·)) : (ks.take (cntLe ks x) ++ x :: ks.drop (cntLe ks x)).Pairwise (· ≤ ·) :=
  ins_sorted h (fun i k e q => (le_place h i k e).mp q) fun i k e q => Int.le_of_lt (gt_place h i k e q)
theorem insLt_sorted {ks : List Int} {x : Int} (h : ks.Pairwise (· ≤ ·)) : (ks.take (cntLt ks x) ++ x :: ks.drop (cntLt ks x)).Pairwise (· ≤ ·) :=
  ins_sorted h (fun i k e q => Int.le_of_lt ((lt_place h i k e).mp q)) fun i k e q => ge_place h i k e q
theorem map_ins {α β : Type} {f : α → β} {ks : List α} {x : α} {c : Nat} : (ks.map f).take c ++ f x :: (ks.map f).drop c = (ks.take c ++ x :: ks.drop c).map f := by
  rw [List.map_append, List.map_cons, List.map_take, List.map_drop]

/-- a def of one parameter -/
def Fn1At (G : Gd) (i : Nat) (name x : Str) (a : Addr) : Prop := ∃ cd fd, FnAt G i name a cd fd ∧ ∀ d, BindAs G fd [] [x] [d] [d]
section
variable {G : Gd} {n : Nat} {σ : Sig} {V : List Addr}
theorem c_isnonterminal {a : Addr} {cd : Value} {fd : FuncData} {t : Tok} (K : FnK G a (bodyAt 64) (scopeAt 64) cd fd) (hb : ∀ d, BindAs G fd [] ["x"] [d] [d]) (hN : nsIn G.K mainGlobals "NT_OFFSET" = some (some (.int 256 t))) {x : Int} :
    CallsM G (n + 1) σ V (.ref a) [.int x] [] (fun d σ' => d = .bool (decide (x ≥ 256)) ∧ σ' = σ) := by
  refine CallsM.of_body K (hb _ σ) (by kernel_rfl) (by simp) (by intro y hy; rw [List.mem_singleton.mp hy]; decide +kernel) rfl ?_
  exact St.c (St1.ret (Ev.cmp (Ev.at 0 rfl) (Ev.globD (by kernel_rfl) hN (fun _ _ => .int 256 t) (by decide +kernel)) Bin.ge) ⟨rfl, rfl⟩)
theorem Fn1At.terminal {a : Addr} {t : Tok} {x : Int} (h : Fn1At G 63 "ISTERMINAL" "x" a) (hN : nsIn G.K mainGlobals "NT_OFFSET" = some (some (.int 256 t))) : Calls G (n + 1) σ (.ref a) [.int x] (.bool (decide (x < 256))) := by
  obtain ⟨cd, fd, F, B⟩ := h
  exact CallsM.calls (c_isterminal F.K B hN)
theorem Fn1At.nonterminal {a : Addr} {t : Tok} {x : Int} (h : Fn1At G 64 "ISNONTERMINAL" "x" a) (hN : nsIn G.K mainGlobals "NT_OFFSET" = some (some (.int 256 t))) : Calls G (n + 1) σ (.ref a) [.int x] (.bool (decide (x ≥ 256))) := by
  obtain ⟨cd, fd, F, B⟩ := h
  exact CallsM.calls (c_isnonterminal F.K B hN)

theorem Bin.isNotB {X : Cx} {a b c : Bool} (h : (a != b) = c) : Bin X (compareOp .IsNot) (.bool a) (.bool b) (.bool c) := h ▸ Bin.isNot_bool
theorem CallsM.mono {f : Value} {ds : List D} {kw : List (Str × Value)} {Ψ Ψ' : D → Sig → Prop} (h : CallsM G n σ V f ds kw Ψ) (k : ∀ d σ', Ψ d σ' → Ψ' d σ') : CallsM G n σ V f ds kw Ψ' := fun A F s vs g rs =>
  wpAny_mono (h A F s vs g rs) (fun v s' ⟨x, d, σ', a, b, c⟩ => ⟨x, d, σ', a, b, k _ _ c⟩) fun _ _ e => e
/-- the sum of two places, as a symbol -/
def symOf (size : Int) (p : Int × Int) : Int := if p.1 + p.2 ≥ size then 256 - size + p.1 + p.2 - size else 256 - size + p.1 + p.2

theorem Ev.glob' {X : Cx} {x : Str} {pos : Pos} {v : Value} (h : nsIn X.G.K mainGlobals x = some (some v)) (hl : X.sc.names.lookup x = some .globalImplicit) (hx : (x == ("__debug__" : Str)) = false) : Ev X (.Name x pos) (.fn v) := Ev.glob hl h hx

set_option maxHeartbeats 1000000 in
theorem sums_body {aL aR iL iR aT aN : Addr} {t : Tok} {A B : List Int} {size order : Int} {R : List Int} (hbL : SrchAt G 4 "bisect_left" aL) (hbR : SrchAt G 2 "bisect_right" aR) (hiL : SrchAt G 3 "insort_left" iL) (hiR : SrchAt G 1 "insort_right" iR) (hT : Fn1At G 63 "ISTERMINAL" "x" aT) (hNt : Fn1At G 64 "ISNONTERMINAL" "x" aN)
    (hN : nsIn G.K mainGlobals "NT_OFFSET" = some (some (.int 256 t))) (hlen : nsIn G.K mainGlobals "len" = some none) (hen : nsIn G.K mainGlobals "enumerate" = some none) {cd : Value}
    (hA : A.length ≤ 20) (hB : B.length ≤ 20) (hR : ∀ ks : List Int, ks.Pairwise (· ≤ ·) → ks.Perm ((A.flatMap fun a => B.map fun b => (a, b)).map (symOf size)) → ks = R) :
    St ⟨G, n + 2, scopeAt 72, cd, [("lines", .list [.list (A.map .int), .list (B.map .int)]), ("size", .int size), ("order", .int order)], σ⟩ [] (bodyAt 72) (fun o => match o with | .ret d σ' => d = .list (R.map .int) ∧ σ' = σ | _ => False) := by
  refine St.c (St1.assignNew (ρ := [("lines", .list [.list (A.map .int), .list (B.map .int)]), ("size", .int size), ("order", .int order)]) EvNew.nil (by kernel_rfl) (fun _ h => h) (ne_all (by kernel_rfl)) (by decide +kernel) (fun a ha => ?_) (by intro _ _; rfl))
  have hr : ∀ l : List D, (List.range l.length).map (fun i => l.getD i .none) = l := fun l => by
    apply List.ext_getElem (by simp)
    intro i h1 h2
    simp at h1; simp [h1]
  have hP : ((List.range (A.map D.int).length).flatMap fun i => (List.range (B.map D.int).length).map fun j => D.tup [(A.map D.int).getD i .none, (B.map D.int).getD j .none]) = (A.flatMap fun a => B.map fun b => (a, b)).map pairD := by
    have e1 : ∀ x : D, (List.range (B.map D.int).length).map (fun j => D.tup [x, (B.map D.int).getD j .none]) = (B.map D.int).map fun y => D.tup [x, y] := fun x => by
      conv => rhs; rw [← hr (B.map D.int)]
      rw [List.map_map]; rfl
    simp only [e1]
    have e2 : ((List.range (A.map D.int).length).flatMap fun i => (B.map D.int).map fun y => D.tup [(A.map D.int).getD i .none, y]) = (A.map D.int).flatMap fun x => (B.map D.int).map fun y => D.tup [x, y] := by
      conv => rhs; rw [← hr (A.map D.int)]
      rw [List.flatMap_map]
    rw [e2, List.map_flatMap, List.flatMap_map]
    congr 1
    funext x
    rw [List.map_map, List.map_map]; rfl
  have hlenP : (A.flatMap fun a => B.map fun b => (a, b)).length ≤ 400 := by
    have : ∀ l : List Int, l.length ≤ 20 → (l.flatMap fun a => B.map fun b => (a, b)).length ≤ l.length * 20 := by
      intro l
      induction l with
      | nil => intro _; simp
      | cons a l ih =>
        intro h
        rw [List.flatMap_cons, List.length_append, List.length_map, List.length_cons]
        have := ih (by simp at h; omega)
        omega
    have := this A hA
    omega
  generalize hPP : (A.flatMap fun a => B.map fun b => (a, b)) = P at *
  refine St.c (St1.forC (m := (P.map pairD).length) (ρ₀ := [("row", .fn (.ref a)), ("size", .int size), ("order", .int order)]) (IterEx.enum (k1 := ("turn", _)) (k2 := ("pair", _)) (d := .list (P.map pairD)) (ds := P.map pairD) (Ev.blt (by kernel_rfl) hen rfl (by decide +kernel) (by decide +kernel)) ?_ rfl (by decide +kernel) (by decide +kernel) (by decide +kernel)) (by kernel_rfl) (fun b hb => by rw [List.mem_singleton.mp hb]; exact .head _)
    (fun i ρ σ' => ∃ ks : List Int, ρ = ([("row", .fn (.ref a)), ("size", .int size), ("order", .int order)] : Env0) ∧ σ' = (a, .list (ks.map .int)) :: σ ∧ ks.Pairwise (· ≤ ·) ∧ ks.Perm ((P.take i).map (symOf size)))
    (subK (by kernel_rfl)) ⟨[], rfl, rfl, List.Pairwise.nil, by simp⟩ ?_ ?_)
  · rw [← hP]
    refine Ev.of_comp (CompWp.two (ρ := [("lines", .list [.list (A.map .int), .list (B.map .int)])]) (k := fun _ => (B.map D.int).length) (bs1 := fun _ j => [("other", (B.map D.int).getD j .none)]) (by kernel_rfl) (IterEx.list (d := .none) (ds := A.map .int) (Ev.sub (Ev.at 1 rfl) Ev.int (Sub1.list (LstAt.frozen _) (by decide) (by decide) rfl)) (by decide +kernel)) (by kernel_rfl)
      (subF (by kernel_rfl)) (notKeys (by kernel_rfl)) (fun i hi => notKeys (by kernel_rfl)) (fun i hi σ => IterEx.list (d := .none) (ds := B.map .int) (Ev.sub (Ev.at 1 rfl) Ev.int (Sub1.list (LstAt.frozen _) (by decide) (by decide) rfl)) (by decide +kernel))
      (fun i hi j hj σ => Ev.tup (Evs.cons (Ev.at 1 rfl) (Evs.cons (Ev.at 0 rfl) Evs.nil)) (Nat.le_of_ble_eq_true rfl)) (by rw [List.length_map]; omega) (fun i hi => by rw [List.length_map]; omega))
  · rintro i ρ σ' hi hw ⟨ks, rfl, rfl, hs, hp⟩
    refine ⟨notKeys (by kernel_rfl), ?_⟩
    rw [List.length_map] at hi
    have hkl : ks.length ≤ 400 := by
      have := hp.length_eq
      rw [List.length_map, List.length_take] at this
      omega
    have hget : (P.map pairD).getD i .none = pairD P[i] := by simp [List.getD_eq_getElem?_getD, hi]
    have hp' : ∀ k2 : List Int, k2.Perm (symOf size P[i] :: ks) → k2.Perm ((P.take (i + 1)).map (symOf size)) := fun k2 q => by
      rw [List.take_succ_eq_append_getElem hi, List.map_append]
      exact (q.trans (List.Perm.cons _ hp)).trans (List.perm_append_singleton _ _).symm
    rw [hget]
    generalize P[i] = p at hp'
    show St ⟨G, n + 2, scopeAt 72, cd, [("pair", pairD p), ("turn", .int i), ("row", .fn (.ref a)), ("size", .int size), ("order", .int order)], (a, .list (ks.map .int)) :: σ⟩ [a] _ _
    have hx : ∀ x, (256 - size + p.1 + p.2 ≥ x + 256 - size) ↔ p.1 + p.2 ≥ x := fun x => by omega
    refine St.c (St1.assign2 (a := ("symbol", _)) (b := ("beyond", _)) (ρ := [("pair", pairD p), ("turn", .int i), ("row", .fn (.ref a)), ("size", .int size), ("order", .int order)]) (d1 := .int (256 - size + p.1 + p.2)) (d2 := .bool (decide (p.1 + p.2 ≥ size)))
      (Ev.bin (Ev.bin (Ev.bin Ev.int (Ev.at 3 rfl) Bin.sub) (Ev.sub (Ev.at 0 rfl) Ev.int (Sub1.tup (by decide) (by decide) rfl)) Bin.add) (Ev.sub (Ev.at 0 rfl) Ev.int (Sub1.tup (by decide) (by decide) rfl)) Bin.add)
      (Ev.cmp (Ev.bin (Ev.sub (Ev.at 0 rfl) Ev.int (Sub1.tup (by decide) (by decide) rfl)) (Ev.sub (Ev.at 0 rfl) Ev.int (Sub1.tup (by decide) (by decide) rfl)) Bin.add) (Ev.at 3 rfl) Bin.ge) (by kernel_rfl) (by kernel_rfl) (by decide +kernel) (by decide +kernel) (by decide +kernel) (fun _ h => h)
      (fun q hq => ⟨ne_all (ρ := [("pair", pairD p), ("turn", .int i), ("row", .fn (.ref a)), ("size", .int size), ("order", .int order)]) (by kernel_rfl) q hq, ne_all (ρ := [("pair", pairD p), ("turn", .int i), ("row", .fn (.ref a)), ("size", .int size), ("order", .int order)]) (by kernel_rfl) q hq⟩) ?_ rfl (by intro _ _; rfl) (by intro env h; cases env; cases h; rfl))
    have hb1 : decide ((256 - size + p.1 + p.2) ≥ 256) = decide (p.1 + p.2 ≥ size) := decide_eq_decide.mpr (by omega)
    have hb2 : decide ((256 - size + p.1 + p.2) < 256) = !decide (p.1 + p.2 ≥ size) := by rw [← decide_not]; exact decide_eq_decide.mpr (by omega)
    refine St.c (St1.ifs (b := false) ?_ (fun q => nomatch q) fun _ => St.end_ ?_)
    · obtain ⟨cdT, fdT, FT, _⟩ := id hT
      obtain ⟨cdN, fdN, FN, _⟩ := id hNt
      refine Tv.or2 (c := false) (d := false) ?_ fun _ => ?_
      · exact Tv.cmp (Ev.call (Ev.glob (by kernel_rfl) FN.ns (by decide +kernel)) (Evs.cons (Ev.at 0 rfl) Evs.nil) (hNt.nonterminal hN) (keepF FN.keep)) (Ev.at 1 rfl) (Bin.isNotB (by rw [hb1]; simp))
      · exact Tv.cmp (Ev.call (Ev.glob (by kernel_rfl) FT.ns (by decide +kernel)) (Evs.cons (Ev.at 0 rfl) Evs.nil) (hT.terminal hN) (keepF FT.keep)) (Ev.un (Ev.at 1 rfl) (Un.not rfl)) (Bin.isNotB (by rw [hb2]; simp [truthD]))
    refine St.c (St1.set 0 (d := .int (symOf size p)) (Ev.ite (t := decide (p.1 + p.2 ≥ size)) (Tv.val (Ev.at (d := .bool (decide (p.1 + p.2 ≥ size))) 1 rfl) rfl) (fun h => ?_) fun h => ?_) ?_)
    · unfold symOf; rw [if_pos (of_decide_eq_true h)]
      exact Ev.bin (Ev.at 0 rfl) (Ev.at 5 rfl) Bin.sub
    · unfold symOf; rw [if_neg (of_decide_eq_false h)]
      exact Ev.at 0 rfl
    show St ⟨G, n + 2, scopeAt 72, cd, [("symbol", .int (symOf size p)), ("beyond", .bool (decide (p.1 + p.2 ≥ size))), ("pair", pairD p), ("turn", .int i), ("row", .fn (.ref a)), ("size", .int size), ("order", .int order)], (a, .list (ks.map .int)) :: σ⟩ [a] _ _
    generalize symOf size p = x at hp'
    have haσ : ∀ b ∈ [a], b ∈ wOf ((a, Own.list (ks.map D.int)) :: σ) := fun b hb => by rw [List.mem_singleton.mp hb]; exact .head _
    obtain ⟨cdiL, fdiL, FiL, _⟩ := id hiL
    obtain ⟨cdiR, fdiR, FiR, _⟩ := id hiR
    have hΨw : ∀ (d : D) (σ' : Sig), (d = D.none ∧ ∃ k2 : List Int, σ' = (a, Own.list (k2.map D.int)) :: σ ∧ k2.Pairwise (· ≤ ·) ∧ k2.Perm (x :: ks)) → ∀ b ∈ wOf σ', b ∈ wOf ((a, Own.list (ks.map D.int)) :: σ) := by
      rintro d σ' ⟨_, k2, rfl, _, _⟩ b hb
      exact hb
    refine St.c (St1.assignM (ρ := [("row", .fn (.ref a)), ("size", .int size), ("order", .int order)]) (Ψ := fun d σ' => d = D.none ∧ ∃ k2 : List Int, σ' = (a, Own.list (k2.map D.int)) :: σ ∧ k2.Pairwise (· ≤ ·) ∧ k2.Perm (x :: ks)) (EvM.ite (Tv.val (Ev.bin (Ev.bin (Ev.at 6 rfl) (Ev.bin (Ev.at 3 rfl) Ev.int (Bin.mod (by decide))) (Bin.shr (Int.fmod_nonneg_of_pos _ (by decide)))) Ev.int Bin.and) rfl) (fun _ => ?_) fun _ => ?_) (by kernel_rfl) (subK (by kernel_rfl)) (ne_all (by kernel_rfl)) (by decide +kernel) ?_ (by intro _ _; rfl))
    · refine EvM.call (n := 0) (Ev.glob (by kernel_rfl) FiL.ns (by decide +kernel)) (Evs.cons (Ev.at 4 rfl) (Evs.cons (Ev.at 0 rfl) Evs.nil)) (CallsM.mono ((hiL.insL hbL hlen (A := a) (ds := ks.map .int) (kx := x) (.head _) (.head _) (by rw [List.length_map]; omega) hs).1 rfl rfl) ?_) haσ hΨw (keepF FiL.keep)
      rintro d σ' ⟨rfl, rfl⟩
      exact ⟨rfl, _, by rw [upd_head ha, map_ins], insLt_sorted hs, ins_perm⟩
    · refine EvM.call (n := 0) (Ev.glob (by kernel_rfl) FiR.ns (by decide +kernel)) (Evs.cons (Ev.at 4 rfl) (Evs.cons (Ev.at 0 rfl) Evs.nil)) (CallsM.mono ((hiR.insR hbR hlen (A := a) (ds := ks.map .int) (kx := x) (.head _) (.head _) (by rw [List.length_map]; omega) hs).1 rfl rfl) ?_) haσ hΨw (keepF FiR.keep)
      rintro d σ' ⟨rfl, rfl⟩
      exact ⟨rfl, _, by rw [upd_head ha, map_ins], insLe_sorted hs, ins_perm⟩
    · rintro d σ' ⟨rfl, k2, rfl, hs2, hp2⟩
      refine St.c (St1.ifs (b := false) (Tv.cmp (Ev.at 0 rfl) Ev.cnone Bin.isNot_none) (fun q => nomatch q) fun _ => St.end_ (St.end_ ?_))
      exact ⟨[("row", .fn (.ref a)), ("size", .int size), ("order", .int order)], fun p hp => .tail _ hp, rfl, rfl, k2, rfl, rfl, hs2, hp' k2 hp2⟩
  · rintro ρ σ' hw ⟨ks, rfl, rfl, hs, hp⟩
    rw [List.length_map, List.take_length] at hp
    rw [hR ks hs hp]
    refine St.end_ ?_
    refine St.freeze (X := ⟨G, n + 2, scopeAt 72, cd, _, _⟩) (σ := σ) (ρ := [("row", .list (R.map .int))]) (a := a) (ds := R.map .int) (.head _) (fun p hp => ⟨.tail _ hp, fun q => ha (q ▸ List.mem_map.mpr ⟨p, hp, rfl⟩)⟩) (fun h => (List.nodup_cons.mp h).2) (fun p hp => by rw [List.mem_singleton.mp hp]; exact .inr ⟨_, rfl, .head _⟩) ?_
    exact St.c (St1.ret (Ev.at 0 rfl) ⟨rfl, rfl⟩)
end
end Mine
end
section
local macro_rules | `(tactic| omega) => `(tactic| lia)
open PySem PySem.W PySem.Calls PyProof.Rows PySem.Builtin
namespace Mine

theorem ins_pw {α : Type} {R : α → α → Prop} (tr : ∀ a b c, R a b → R b c → R a c) {ks : List α} {x : α} {c : Nat} (h : ks.Pairwise R) (h1 : ∀ (i : Nat) (k : α), ks[i]? = some k → i < c → R k x) (h2 : ∀ (i : Nat) (k : α), ks[i]? = some k → c ≤ i → R x k) : (ks.take c ++ x :: ks.drop c).Pairwise R := by
  have ht : ∀ a ∈ ks.take c, R a x := fun a ha => by
    obtain ⟨i, hi, e⟩ := List.mem_iff_getElem.mp ha
    rw [List.length_take] at hi
    exact h1 i a (by rw [← e, List.getElem_take]; exact List.getElem?_eq_getElem (by omega)) (by omega)
  have hd : ∀ a ∈ ks.drop c, R x a := fun a ha => by
    obtain ⟨i, hi, e⟩ := List.mem_iff_getElem.mp ha
    rw [List.length_drop] at hi
    exact h2 (c + i) a (by rw [← e, List.getElem_drop]; exact List.getElem?_eq_getElem (by omega)) (by omega)
  refine List.pairwise_append.mpr ⟨h.sublist (List.take_sublist ..), List.pairwise_cons.mpr ⟨hd, h.sublist (List.drop_sublist ..)⟩, fun a ha b hb => ?_⟩
  rcases List.mem_cons.mp hb with rfl | hb
  · exact ht a ha
  · exact tr _ _ _ (ht a ha) (hd b hb)

/-- a side, turned where its figure is set -/
def negOf (order : Int) (s : Nat) : Bool := Builtin.bitAnd (order.fdiv (2 ^ s)) 1 != 0
def sgOf (neg : Nat → Bool) (p : Int × Int) : Int × Int := (p.1, if neg p.2.toNat then -p.2 else p.2)
/-- the places of the lines, each with its side -/
def sidesOf (Ls : List (List Int)) (i : Nat) : List (Int × Int) := (List.range i).flatMap fun s => (Ls.getD s []).map fun p => (p, (s : Int))
theorem sidesOf_succ {Ls : List (List Int)} {i : Nat} : sidesOf Ls (i + 1) = sidesOf Ls i ++ (Ls.getD i []).map fun p => (p, (i : Int)) := by
  unfold sidesOf
  rw [List.range_succ, List.flatMap_append]; simp
theorem sidesOf_lt {Ls : List (List Int)} {i : Nat} : ∀ q ∈ sidesOf Ls i, 0 ≤ q.2 ∧ q.2 < i := by
  intro q hq
  unfold sidesOf at hq
  obtain ⟨s, hs, hq⟩ := List.mem_flatMap.mp hq
  obtain ⟨p, _, rfl⟩ := List.mem_map.mp hq
  have := List.mem_range.mp hs
  exact ⟨Int.natCast_nonneg s, Int.ofNat_lt.mpr this⟩

/-- one more place laid -/
theorem lay_pair {neg : Nat → Bool} {ps : List (Int × Int)} {x : Int} {i : Nat} (h : (ps.map (sgOf neg)).Pairwise pairLt) (hs : ∀ q ∈ ps, 0 ≤ q.2 ∧ q.2 ≤ i ∧ (q.1 = x → q.2 < i)) :
    let c := if neg i then cntLt (ps.map (·.1)) x else cntLe (ps.map (·.1)) x
    ((ps.take c ++ (x, (i : Int)) :: ps.drop c).map (sgOf neg)).Pairwise pairLt := by
  intro c
  have hf : (ps.map (·.1)).Pairwise (· ≤ ·) := by
    rw [List.pairwise_map] at h ⊢
    exact h.imp fun {a b} q => by unfold pairLt sgOf at q; simp only at q; omega
  rw [List.map_append, List.map_cons, List.map_take, List.map_drop]
  have hget : ∀ (j : Nat) (k : Int × Int), (ps.map (sgOf neg))[j]? = some k → ∃ q ∈ ps, k = sgOf neg q ∧ (ps.map (·.1))[j]? = some q.1 := fun j k e => by
    rw [List.getElem?_map] at e
    cases e' : ps[j]? with
    | none => rw [e'] at e; cases e
    | some q =>
      rw [e'] at e
      exact ⟨q, List.mem_of_getElem? e', by simpa using e.symm, by rw [List.getElem?_map, e']; rfl⟩
  have hsg : ∀ q : Int × Int, 0 ≤ q.2 → (sgOf neg q).1 = q.1 ∧ -q.2 ≤ (sgOf neg q).2 ∧ (sgOf neg q).2 ≤ q.2 := fun q h0 => by
    unfold sgOf
    refine ⟨rfl, ?_⟩
    simp only
    split <;> omega
  refine ins_pw (R := pairLt) (fun a b c => pairLt_trans) h (fun j k e hj => ?_) fun j k e hj => ?_
  · obtain ⟨q, hq, rfl, e1⟩ := hget j k e
    obtain ⟨b0, b1, b2⟩ := hs q hq
    obtain ⟨s1, s2, s3⟩ := hsg q b0
    unfold pairLt
    rw [s1]
    by_cases hn : neg i
    · have : q.1 < x := (lt_place hf j q.1 e1).mp (by simpa [c, hn] using hj)
      exact .inl this
    · have : q.1 ≤ x := (le_place hf j q.1 e1).mp (by simpa [c, hn] using hj)
      have hx : (sgOf neg (x, (i : Int))) = (x, (i : Int)) := by unfold sgOf; simp [hn]
      rw [hx]
      simp only
      by_cases e2 : q.1 = x
      · have := b2 e2; omega
      · omega
  · obtain ⟨q, hq, rfl, e1⟩ := hget j k e
    obtain ⟨b0, b1, b2⟩ := hs q hq
    obtain ⟨s1, s2, s3⟩ := hsg q b0
    unfold pairLt
    rw [s1]
    by_cases hn : neg i
    · have : x ≤ q.1 := ge_place hf j q.1 e1 (by simpa [c, hn] using hj)
      have hx : (sgOf neg (x, (i : Int))) = (x, -(i : Int)) := by unfold sgOf; simp [hn]
      rw [hx]
      simp only
      by_cases e2 : q.1 = x
      · have := b2 e2; omega
      · omega
    · have : x < q.1 := gt_place hf j q.1 e1 (by simpa [c, hn] using hj)
      exact .inl this

theorem upd_cons {σ : Sig} {p : Addr × Own} {a : Addr} {w : Own} (h : p.1 ≠ a) : upd (p :: σ) a w = p :: upd σ a w := by
  unfold upd
  rw [List.map_cons, if_neg h]

section
variable {G : Gd} {n : Nat} {σ : Sig} {V : List Addr}
/-- the key of a pair by a lambda -/
theorem lam_first {params : Arguments} {body : Expr} {sc : Scope} {l : Addr} {o : Obj} (hm : (l, Own.fn o) ∈ σ) (hl : LamFn params body sc o)
    (hbind : ∀ name qual pm cdv ct v, bindArgs (kla_fn name qual params body sc [] pm cdv ct) ⟨[v], []⟩ = pure [(("one" : Str), v)]) (hx : sc.names = [(("one" : Str), NameKind.local)]) (hk : sc.kind = .function) (hco : sc.isCoroutine = false) (hgen : sc.isGenerator = false)
    {k : Nat} {p1 p2 p3 : Pos} (hbody : body = .Subscript (.Name "one" p1) (.Constant (.int 0) k p2) p3) (q : Int × Int) : Calls G (n + 1) σ (.ref l) [pairD q] (.int q.1) := by
  refine Calls.of_lam hm hl hbind hx hk hco hgen (by decide +kernel) fun cd => ?_
  rw [hbody]
  exact Ev.sub (Ev.at 0 rfl) Ev.int (Sub1.tup (by decide) (by decide) rfl)

set_option maxHeartbeats 1000000 in
theorem shelf_body {aL aR iL iR : Addr} {Ls : List (List Int)} {order : Int} (hbL : SrchAt G 4 "bisect_left" aL) (hbR : SrchAt G 2 "bisect_right" aR) (hiL : SrchAt G 3 "insort_left" iL) (hiR : SrchAt G 1 "insort_right" iR)
    (hlen : nsIn G.K mainGlobals "len" = some none) (hen : nsIn G.K mainGlobals "enumerate" = some none) (hL1 : Ls.length ≤ 4) (hL2 : ∀ l ∈ Ls, l.length ≤ 20 ∧ l.Nodup) :
    St ⟨G, n + 3, scopeAt 71, .ref G.C, [("lines", .list (Ls.map fun l => .list (l.map .int))), ("order", .int order)], σ⟩ [] (bodyAt 71) (fun o => match o with | .ret d σ' => (∃ ps : List (Int × Int), d = .list (ps.map pairD) ∧ (ps.map (sgOf (negOf order))).Pairwise pairLt ∧ ps.Perm (sidesOf Ls Ls.length)) ∧ σ' = σ | _ => False) := by
  refine St.c (St1.assignNew (ρ := [("lines", .list (Ls.map fun l => .list (l.map .int))), ("order", .int order)]) EvNew.nil (by kernel_rfl) (fun _ h => h) (ne_all (by kernel_rfl)) (by decide +kernel) (fun a ha => ?_) (by intro _ _; rfl))
  have hVa : ∀ (w : Own) (b : Addr), b ∈ [a] → b ∈ wOf ((a, w) :: σ) := fun w b hb => by rw [List.mem_singleton.mp hb]; exact .head _
  refine St.c (St1.forC (m := (Ls.map fun l => D.list (l.map .int)).length) (ρ₀ := [("shelf", .fn (.ref a)), ("order", .int order)]) (IterEx.enum (k1 := ("side", _)) (k2 := ("line", _)) (d := .list (Ls.map fun l => .list (l.map .int))) (ds := Ls.map fun l => .list (l.map .int)) (Ev.blt (by kernel_rfl) hen rfl (by decide +kernel) (by decide +kernel)) (Ev.at 1 rfl) rfl (by decide +kernel) (by decide +kernel) (by decide +kernel)) (by kernel_rfl) (hVa _)
    (fun i ρ σ' => ∃ ps : List (Int × Int), ρ = ([("shelf", .fn (.ref a)), ("order", .int order)] : Env0) ∧ σ' = (a, .list (ps.map pairD)) :: σ ∧ (ps.map (sgOf (negOf order))).Pairwise pairLt ∧ ps.Perm (sidesOf Ls i) ∧ ps.length ≤ i * 20)
    (subK (by kernel_rfl)) ⟨[], rfl, rfl, List.Pairwise.nil, by simp [sidesOf], Nat.le_refl _⟩ ?_ ?_)
  · rintro i ρ σ' hi hw ⟨ps, rfl, rfl, hs, hp, hlp⟩
    refine ⟨notKeys (by kernel_rfl), ?_⟩
    rw [List.length_map] at hi
    have hget : (Ls.map fun l => D.list (l.map .int)).getD i .none = .list (Ls[i].map .int) := by simp [List.getD_eq_getElem?_getD, hi]
    have hgetL : Ls.getD i [] = Ls[i] := by simp [List.getD_eq_getElem?_getD, hi]
    obtain ⟨hl20, hnd⟩ := hL2 _ (List.getElem_mem hi)
    have hsucc := sidesOf_succ (Ls := Ls) (i := i)
    rw [hgetL] at hsucc
    rw [hget]
    generalize Ls[i] = L at hl20 hnd hsucc
    show St ⟨G, n + 3, scopeAt 71, .ref G.C, [("line", .list (L.map .int)), ("side", .int i), ("shelf", .fn (.ref a)), ("order", .int order)], (a, .list (ps.map pairD)) :: σ⟩ [a] _ _
    refine St.c (St1.forC (m := (L.map D.int).length) (ρ₀ := [("side", .int i), ("shelf", .fn (.ref a)), ("order", .int order)]) (IterEx.list (d := .none) (Ev.at 0 rfl) (by decide +kernel)) (by kernel_rfl) (hVa _)
      (fun j ρ σ' => ∃ ps : List (Int × Int), ρ = ([("side", .int i), ("shelf", .fn (.ref a)), ("order", .int order)] : Env0) ∧ σ' = (a, .list (ps.map pairD)) :: σ ∧ (ps.map (sgOf (negOf order))).Pairwise pairLt ∧ ps.Perm (sidesOf Ls i ++ (L.take j).map fun p => (p, (i : Int))) ∧ ps.length ≤ i * 20 + j)
      (subK (by kernel_rfl)) ⟨ps, rfl, rfl, hs, by simpa using hp, hlp⟩ ?_ ?_)
    · rintro j ρ σ' hj hw2 ⟨ps, rfl, rfl, hs, hp, hlp⟩
      refine ⟨notKeys (by kernel_rfl), ?_⟩
      rw [List.length_map] at hj
      have hgetj : (L.map D.int).getD j .none = .int L[j] := by simp [List.getD_eq_getElem?_getD, hj]
      have hnew : L[j] ∉ L.take j := fun q => by
        obtain ⟨k, hk, e⟩ := List.mem_iff_getElem.mp q
        rw [List.length_take] at hk
        rw [List.getElem_take] at e
        exact List.pairwise_iff_getElem.mp hnd k j (by omega) hj (by omega) e
      have htake : (L.take (j + 1)).map (fun p => (p, (i : Int))) = (L.take j).map (fun p => (p, (i : Int))) ++ [(L[j], (i : Int))] := by
        rw [List.take_succ_eq_append_getElem hj, List.map_append]; rfl
      rw [hgetj]
      generalize L[j] = x at hnew htake
      have hside : ∀ q ∈ ps, 0 ≤ q.2 ∧ q.2 ≤ i ∧ (q.1 = x → q.2 < i) := fun q hq => by
        rcases List.mem_append.mp (hp.mem_iff.mp hq) with hq | hq
        · have := sidesOf_lt q hq; omega
        · obtain ⟨y, hy, rfl⟩ := List.mem_map.mp hq
          refine ⟨Int.natCast_nonneg i, Int.le_refl _, fun e => ?_⟩
          subst e; exact absurd hy hnew
      have hlay := lay_pair (x := x) hs hside
      have hpp : ∀ c, (ps.take c ++ (x, (i : Int)) :: ps.drop c).Perm (sidesOf Ls i ++ (L.take (j + 1)).map fun p => (p, (i : Int))) := fun c => by
        rw [htake, ← List.append_assoc]
        exact (ins_perm.trans (List.Perm.cons _ hp)).trans (List.perm_append_singleton _ _).symm
      have hll : ∀ c, (ps.take c ++ (x, (i : Int)) :: ps.drop c).length ≤ i * 20 + (j + 1) := fun c => by
        rw [ins_perm.length_eq, List.length_cons]; omega
      have hz : (ps.map pairD).length ≤ 100000 := by rw [List.length_map]; omega
      have hf : (ps.map (·.1)).Pairwise (· ≤ ·) := by
        rw [List.pairwise_map] at hs ⊢
        exact hs.imp fun {a b} q => by unfold pairLt sgOf at q; simp only at q; omega
      obtain ⟨cdiL, fdiL, FiL, _⟩ := id hiL
      obtain ⟨cdiR, fdiR, FiR, _⟩ := id hiR
      show St ⟨G, n + 3, scopeAt 71, .ref G.C, [("place", .int x), ("side", .int i), ("shelf", .fn (.ref a)), ("order", .int order)], (a, .list (ps.map pairD)) :: σ⟩ [a] _ _
      have hΨw : ∀ (d : D) (σ' : Sig), (d = D.none ∧ ∃ p2 : List (Int × Int), σ' = (a, Own.list (p2.map pairD)) :: σ ∧ (p2.map (sgOf (negOf order))).Pairwise pairLt ∧ p2.Perm (sidesOf Ls i ++ (L.take (j + 1)).map fun p => (p, (i : Int))) ∧ p2.length ≤ i * 20 + (j + 1)) → ∀ b ∈ wOf σ', b ∈ wOf ((a, Own.list (ps.map pairD)) :: σ) := by
        rintro d σ' ⟨_, k2, rfl, _, _⟩ b hb
        exact hb
      have hlay' : ∀ b : Bool, negOf order i = b → ((ps.take (if b then cntLt (ps.map (·.1)) x else cntLe (ps.map (·.1)) x) ++ (x, (i : Int)) :: ps.drop (if b then cntLt (ps.map (·.1)) x else cntLe (ps.map (·.1)) x)).map (sgOf (negOf order))).Pairwise pairLt := fun b e => by
        rw [← e]; exact hlay
      -- the lambda's keys
      have hkeys : ∀ (params : Arguments) (body : Expr) (sc : Scope) (l : Addr) (o : Obj) (m : Nat), LamFn params body sc o → (∀ name qual pm cdv ct v, bindArgs (kla_fn name qual params body sc [] pm cdv ct) ⟨[v], []⟩ = pure [(("one" : Str), v)]) → sc.names = [(("one" : Str), NameKind.local)] → sc.kind = .function → sc.isCoroutine = false → sc.isGenerator = false →
          (∃ k p1 p2 p3, body = .Subscript (.Name "one" p1) (.Constant (.int 0) k p2) p3) → KeysAt G (m + 1) ((l, Own.fn o) :: (a, .list (ps.map pairD)) :: σ) (.fn (.ref l)) (ps.map pairD) (ps.map (·.1)) ∧ KeyOk G (m + 1) ((l, Own.fn o) :: (a, .list (ps.map pairD)) :: σ) (.fn (.ref l)) (pairD (x, (i : Int))) x := by
        rintro params body sc l o m hl hb hx hk hco hgen ⟨k, p1, p2, p3, hbody⟩
        have hc := fun q => lam_first (G := G) (n := m) (σ := (l, Own.fn o) :: (a, .list (ps.map pairD)) :: σ) (.head _) hl hb hx hk hco hgen hbody q
        refine ⟨.inr ⟨.ref l, rfl, rfl, keepL (.head _), by rw [List.length_map, List.length_map], fun j d k e1 e2 => ?_⟩, .inr ⟨.ref l, rfl, rfl, keepL (.head _), hc (x, (i : Int))⟩⟩
        rw [List.getElem?_map] at e1 e2
        cases e : ps[j]? with
        | none => rw [e] at e1; cases e1
        | some q => rw [e] at e1 e2; cases e1; cases e2; exact hc q
      refine St.c (St1.assignM (ρ := [("side", .int i), ("shelf", .fn (.ref a)), ("order", .int order)]) (Ψ := fun d σ' => d = D.none ∧ ∃ p2 : List (Int × Int), σ' = (a, Own.list (p2.map pairD)) :: σ ∧ (p2.map (sgOf (negOf order))).Pairwise pairLt ∧ p2.Perm (sidesOf Ls i ++ (L.take (j + 1)).map fun p => (p, (i : Int))) ∧ p2.length ≤ i * 20 + (j + 1))
        (EvM.ite (t := negOf order i) (Tv.val (Ev.bin (Ev.bin (Ev.at 3 rfl) (Ev.at 1 rfl) (Bin.shr (Int.natCast_nonneg i))) Ev.int Bin.and) rfl) (fun ht => ?_) fun ht => ?_) (by kernel_rfl) (subK (by kernel_rfl)) (ne_all (by kernel_rfl)) (by decide +kernel) ?_ (by intro _ _; rfl))
      · refine EvM.callLam (Ev.glob (by kernel_rfl) FiL.ns (by decide +kernel)) (Evs.cons (Ev.at 2 rfl) (Evs.cons (Ev.tup (Evs.cons (Ev.at 0 rfl) (Evs.cons (Ev.at 1 rfl) Evs.nil)) (Nat.le_of_ble_eq_true rfl)) Evs.nil)) rfl (fun l o hlW hlam => ?_) (hVa _) hΨw (keepF FiL.keep)
        have hla : l ≠ a := fun q => hlW (q ▸ .head _)
        have hc := (hiL.insL (n := n + 1) (V := [a]) (σ := (l, Own.fn o) :: (a, .list (ps.map pairD)) :: σ) hbL hlen (A := a) (ds := ps.map pairD) (ks := ps.map (·.1)) (kx := x) (dx := pairD (x, (i : Int))) (.tail _ (.head _)) (.head _) hz hf).2 (.ref l)
          (hkeys _ _ _ l o n hlam (by intros; rfl) rfl rfl rfl rfl ⟨_, _, _, _, rfl⟩).1 (hkeys _ _ _ l o (n + 1) hlam (by intros; rfl) rfl rfl rfl rfl ⟨_, _, _, _, rfl⟩).2
        refine CallsM.mono hc ?_
        rintro d σ' ⟨rfl, rfl⟩
        refine ⟨_, upd_cons hla, rfl, _, by rw [upd_head ha, map_ins], ?_, hpp _, hll _⟩
        have := hlay' true ht
        simpa using this
      · refine EvM.callLam (Ev.glob (by kernel_rfl) FiR.ns (by decide +kernel)) (Evs.cons (Ev.at 2 rfl) (Evs.cons (Ev.tup (Evs.cons (Ev.at 0 rfl) (Evs.cons (Ev.at 1 rfl) Evs.nil)) (Nat.le_of_ble_eq_true rfl)) Evs.nil)) rfl (fun l o hlW hlam => ?_) (hVa _) hΨw (keepF FiR.keep)
        have hla : l ≠ a := fun q => hlW (q ▸ .head _)
        have hc := (hiR.insR (n := n + 1) (V := [a]) (σ := (l, Own.fn o) :: (a, .list (ps.map pairD)) :: σ) hbR hlen (A := a) (ds := ps.map pairD) (ks := ps.map (·.1)) (kx := x) (dx := pairD (x, (i : Int))) (.tail _ (.head _)) (.head _) hz hf).2 (.ref l)
          (hkeys _ _ _ l o n hlam (by intros; rfl) rfl rfl rfl rfl ⟨_, _, _, _, rfl⟩).1 (hkeys _ _ _ l o (n + 1) hlam (by intros; rfl) rfl rfl rfl rfl ⟨_, _, _, _, rfl⟩).2
        refine CallsM.mono hc ?_
        rintro d σ' ⟨rfl, rfl⟩
        refine ⟨_, upd_cons hla, rfl, _, by rw [upd_head ha, map_ins], ?_, hpp _, hll _⟩
        have := hlay' false ht
        simpa using this
      · rintro d σ' ⟨rfl, k2, rfl, hs2, hp2, hl2⟩
        refine St.c (St1.ifs (b := false) (Tv.cmp (Ev.at 0 rfl) Ev.cnone Bin.isNot_none) (fun q => nomatch q) fun _ => St.end_ (St.end_ ?_))
        exact ⟨[("side", .int i), ("shelf", .fn (.ref a)), ("order", .int order)], fun p hp => .tail _ hp, rfl, rfl, k2, rfl, rfl, hs2, hp2, hl2⟩
    · rintro ρ σ' hw2 ⟨ps, rfl, rfl, hs, hp, hlp⟩
      rw [List.length_map, List.take_length] at hp
      rw [List.length_map] at hlp
      refine St.end_ (St.end_ ?_)
      exact ⟨[("shelf", .fn (.ref a)), ("order", .int order)], fun p hp => .tail _ hp, rfl, rfl, ps, rfl, rfl, hs, by rw [hsucc]; exact hp, by omega⟩
  · rintro ρ σ' hw ⟨ps, rfl, rfl, hs, hp, hlp⟩
    rw [List.length_map] at hp
    refine St.end_ ?_
    refine St.freeze (X := ⟨G, n + 3, scopeAt 71, .ref G.C, _, _⟩) (σ := σ) (ρ := [("shelf", .list (ps.map pairD))]) (a := a) (ds := ps.map pairD) (.head _) (fun p hp => ⟨.tail _ hp, fun q => ha (q ▸ List.mem_map.mpr ⟨p, hp, rfl⟩)⟩) (fun h => (List.nodup_cons.mp h).2) (fun p hp => by rw [List.mem_singleton.mp hp]; exact .inr ⟨_, rfl, .head _⟩) ?_
    exact St.c (St1.ret (Ev.at 0 rfl) ⟨⟨ps, rfl, hs, hp⟩, rfl⟩)
end
end Mine
end
section
open PySem PySem.W PySem.Calls PyProof.Rows PySem.Builtin
namespace Mine

abbrev loMsg : Str := "lo must be non-negative"
abbrev LoWs (ws : List Value) : Prop := ∃ t, ws = [Value.str loMsg t]
theorem StR.mono {X : Cx} {V : List Addr} {ss : List Stmt} {cls : Value} {P P' : List Value → Prop} (h : StR X V ss cls P) (k : ∀ ws, P ws → P' ws) : StR X V ss cls P' := fun A env F s outer I hf =>
  wpAny_mono (h A env F s outer I hf) (fun _ _ e => e) fun e s' ⟨a, ws, e1, hP, m⟩ => ⟨a, ws, e1, k ws hP, m⟩

section
variable {G : Gd} {n : Nat} {σ : Sig} {V : List Addr}
theorem bisR_raises {cd : Value} {da dh dk : D} {x lo : Int} (hlo : lo < 0) (hVE : nsIn G.K mainGlobals "ValueError" = some none) : StR ⟨G, n, scopeAt 2, cd, [("a", da), ("x", .int x), ("lo", .int lo), ("hi", dh), ("key", dk)], σ⟩ [] (bodyAt 2) (.type "ValueError") LoWs :=
  StR.mono (StR.cons (StR1.ifs (Tv.cmp (Ev.at 2 rfl) Ev.int (decide_eq_true hlo ▸ Bin.lt)) (StR.cons (StR1.raise PySem.F.excCall_ValueError PySem.F.excRaise_ValueError (Ev.blt (by kernel_rfl) hVE rfl (by decide +kernel) (by decide +kernel)) Ev.str)))) fun ws ⟨v, e, hv⟩ => by
    obtain ⟨t, rfl⟩ := hv _ rfl
    exact ⟨t, e⟩
theorem bisL_raises {cd : Value} {da dh dk : D} {x lo : Int} (hlo : lo < 0) (hVE : nsIn G.K mainGlobals "ValueError" = some none) : StR ⟨G, n, scopeAt 4, cd, [("a", da), ("x", .int x), ("lo", .int lo), ("hi", dh), ("key", dk)], σ⟩ [] (bodyAt 4) (.type "ValueError") LoWs :=
  StR.mono (StR.cons (StR1.ifs (Tv.cmp (Ev.at 2 rfl) Ev.int (decide_eq_true hlo ▸ Bin.lt)) (StR.cons (StR1.raise PySem.F.excCall_ValueError PySem.F.excRaise_ValueError (Ev.blt (by kernel_rfl) hVE rfl (by decide +kernel) (by decide +kernel)) Ev.str)))) fun ws ⟨v, e, hv⟩ => by
    obtain ⟨t, rfl⟩ := hv _ rfl
    exact ⟨t, e⟩
theorem SrchAt.refR {a : Addr} (h : SrchAt G 2 "bisect_right" a) (hVE : nsIn G.K mainGlobals "ValueError" = some none) {da : D} {x lo : Int} (hlo : lo < 0) :
    CallR G (n + 1) σ [] (.ref a) [da, .int x, .int lo] [] (.type "ValueError") LoWs ∧ CallR G (n + 1) σ [] (.ref a) [da, .int x, .int lo, .none] [] (.type "ValueError") LoWs := by
  obtain ⟨cd, fd, F, B⟩ := h
  exact ⟨CallR.of_body F.K (B.b3 _ _ _ σ) (by kernel_rfl) (by decide +kernel) srch_nice rfl (fun _ q => absurd q List.not_mem_nil) (bisR_raises hlo hVE), CallR.of_body F.K (B.b4 _ _ _ _ σ) (by kernel_rfl) (by decide +kernel) srch_nice rfl (fun _ q => absurd q List.not_mem_nil) (bisR_raises hlo hVE)⟩
theorem SrchAt.refL {a : Addr} (h : SrchAt G 4 "bisect_left" a) (hVE : nsIn G.K mainGlobals "ValueError" = some none) {da : D} {x lo : Int} (hlo : lo < 0) :
    CallR G (n + 1) σ [] (.ref a) [da, .int x, .int lo] [] (.type "ValueError") LoWs ∧ CallR G (n + 1) σ [] (.ref a) [da, .int x, .int lo, .none] [] (.type "ValueError") LoWs := by
  obtain ⟨cd, fd, F, B⟩ := h
  exact ⟨CallR.of_body F.K (B.b3 _ _ _ σ) (by kernel_rfl) (by decide +kernel) srch_nice rfl (fun _ q => absurd q List.not_mem_nil) (bisL_raises hlo hVE), CallR.of_body F.K (B.b4 _ _ _ _ σ) (by kernel_rfl) (by decide +kernel) srch_nice rfl (fun _ q => absurd q List.not_mem_nil) (bisL_raises hlo hVE)⟩
theorem SrchAt.refIR {a aB : Addr} (h : SrchAt G 1 "insort_right" a) (hB : SrchAt G 2 "bisect_right" aB) (hVE : nsIn G.K mainGlobals "ValueError" = some none) {da : D} {x lo : Int} (hlo : lo < 0) : CallR G (n + 2) σ [] (.ref a) [da, .int x, .int lo] [] (.type "ValueError") LoWs := by
  obtain ⟨cd, fd, F, B⟩ := h
  obtain ⟨cdB, fdB, FB, _⟩ := id hB
  refine CallR.of_body F.K (B.b3 _ _ _ σ) (by kernel_rfl) (by decide +kernel) srch_nice rfl (fun _ q => absurd q List.not_mem_nil) ?_
  exact StR.cons (StR1.ifs (Tv.cmp (Ev.at 4 rfl) Ev.cnone (Bin.is_none' rfl)) (StR.cons (StR1.assign (EvR.call (Ev.glob (by kernel_rfl) FB.ns (by decide +kernel)) (Evs.cons (Ev.at 0 rfl) (Evs.cons (Ev.at 1 rfl) (Evs.cons (Ev.at 2 rfl) (Evs.cons (Ev.at 3 rfl) Evs.nil)))) (hB.refR hVE hlo).2 (keepF FB.keep)))))
theorem SrchAt.refIL {a aB : Addr} (h : SrchAt G 3 "insort_left" a) (hB : SrchAt G 4 "bisect_left" aB) (hVE : nsIn G.K mainGlobals "ValueError" = some none) {da : D} {x lo : Int} (hlo : lo < 0) : CallR G (n + 2) σ [] (.ref a) [da, .int x, .int lo] [] (.type "ValueError") LoWs := by
  obtain ⟨cd, fd, F, B⟩ := h
  obtain ⟨cdB, fdB, FB, _⟩ := id hB
  refine CallR.of_body F.K (B.b3 _ _ _ σ) (by kernel_rfl) (by decide +kernel) srch_nice rfl (fun _ q => absurd q List.not_mem_nil) ?_
  exact StR.cons (StR1.ifs (Tv.cmp (Ev.at 4 rfl) Ev.cnone (Bin.is_none' rfl)) (StR.cons (StR1.assign (EvR.call (Ev.glob (by kernel_rfl) FB.ns (by decide +kernel)) (Evs.cons (Ev.at 0 rfl) (Evs.cons (Ev.at 1 rfl) (Evs.cons (Ev.at 2 rfl) (Evs.cons (Ev.at 3 rfl) Evs.nil)))) (hB.refL hVE hlo).2 (keepF FB.keep)))))

/-- a search that refuses -/
theorem c_refused {aF f : Addr} {cd : Value} {fd : FuncData} {row : D} {low : Int} (F : FnAt G 70 "_law_refused" aF cd fd) (hb : ∀ d1 d2 d3, BindAs G fd [] ["search", "row", "low"] [d1, d2, d3] [d1, d2, d3]) (hk : keepIn G.K (.ref f) = true) (hVE : nsIn G.K mainGlobals "ValueError" = some none) (hstr : nsIn G.K mainGlobals "str" = some none)
    (hc : CallR G n σ [] (.ref f) [row, .int 255, .int low] [] (.type "ValueError") LoWs) : Calls G (n + 1) σ (.ref aF) [.fn (.ref f), row, .int low] (.str loMsg) := by
  refine CallsM.calls (CallsM.of_top F.K (hb _ _ _ σ) (by kernel_rfl) (by decide +kernel) (by intro y hy; simp only [List.mem_cons, List.not_mem_nil, or_false] at hy; rcases hy with rfl | rfl | rfl <;> decide +kernel) rfl ?_)
  refine StTop.last (StTop1.refused (StF.expr (EvF.call (Ev.at 0 rfl) (Evs.cons (Ev.at 1 rfl) (Evs.cons Ev.int (Evs.cons (Ev.at 2 rfl) Evs.nil))) hc (keepF hk))) (by kernel_rfl) hVE rfl (by decide +kernel) (by decide +kernel) (by kernel_rfl) hstr rfl (by decide +kernel) (by decide +kernel) (by kernel_rfl) (by decide +kernel) ⟨rfl, rfl⟩)
end
end Mine
end
section
open PySem PySem.W PySem.Calls PyProof.Rows PySem.Builtin
namespace Mine

section
variable {X : Cx} {V : List Addr} {Φ : Out → Prop}
/-- two local names take the items of a tuple that is made on the spot, of fresh objects too -/
theorem St1.assign2E {a b : Str × Pos} {e1 e2 : Expr} {k0 k1 : Nat} {tpos vpos pos : Pos} {ρ : Env0} {Ψ : D → D → Sig → List Addr → Prop}
    (he : ∀ A env F s, In X A env F s → wpAny (model X.G.prog X.G.w) A (eval (.Tuple [e1, e2] k1 vpos) env) (fun v s₁ => ∃ d1 d2 σ' V', Step X.G F [] s s₁ ∧ In (X.setσ σ') A env F s₁ ∧ (∀ a ∈ V', a ∈ V ∨ s.heap.get? a = none) ∧ Rep (wOf σ') s₁.heap v (.tup [d1, d2]) ∧ Ψ d1 d2 σ' V') (fun _ _ => False) s)
    (ka : storable X.sc a.1 = true) (kb : storable X.sc b.1 = true) (hab : a.1 ≠ b.1) (hya : niceName a.1) (hyb : niceName b.1)
    (hρ : ∀ p ∈ ρ, p ∈ X.ρ) (hρa : ∀ p ∈ ρ, p.1 ≠ a.1 ∧ p.1 ≠ b.1) (h : ∀ d1 d2 σ' V', Ψ d1 d2 σ' V' → Φ (.next ((a.1, d1) :: (b.1, d2) :: ρ) σ' V'))
    (hs : ∀ env, env.scope = X.sc → swapsWithSole [.Tuple [.Name a.1 a.2, .Name b.1 b.2] k0 tpos] (.Tuple [e1, e2] k1 vpos) pos.line env = pure false)
    (hw : ∀ env, env.scope = X.sc → swappedStores [.Tuple [.Name a.1 a.2, .Name b.1 b.2] k0 tpos] (.Tuple [e1, e2] k1 vpos) env = pure (some [a.1, b.1])) :
    St1 X V (.Assign [.Tuple [.Name a.1 a.2, .Name b.1 b.2] k0 tpos] (.Tuple [e1, e2] k1 vpos) pos) Φ := by
  intro A env F s I
  refine Assign_Tuple_swapped (names := [a.1, b.1]) (wpAny_mono (he A env F s I) (fun v s₁ ⟨d1, d2, σ', V', x₁, I₁', hV', r, hΨ⟩ => ?_) fun _ _ e => e) (hs env I.env.scope) (hw env I.env.scope)
  have I₁ : In (Cx.setρ (X.setσ σ') ρ) A env F s₁ := In.weak (X := X.setσ σ') I₁' hρ
  obtain ⟨t, vs, rfl, ht, rs⟩ := r.tupI
  have hz : vs.toArray.size = 2 := (List.size_toArray ..).trans rs.len
  have q := wpAny_unpackItems_tuple (prog := X.G.prog) (w := X.G.w) (A := A) (E := fun _ _ => False) (s := s₁) (items := vs.toArray) (Q := fun items s₂ => wpAny (model X.G.prog X.G.w) A (assignInOrder ([a.1, b.1].reverse.map fun n => bindName env n) items.reverse) (fun _ s' => OutOk X V A env F s s' Φ .next) (fun _ _ => False) s₂) I.room.handled ht fun h' hk => ?_
  · rw [hz] at q; exact q
  · have x₂ : Step X.G F [] s₁ { s₁ with heap := h', toks := s₁.toks } := Step.of_keep fun b o e => hk b o (Nat.ne_of_lt (Heap.lt_size e)) e
    have I₂ := I₁.step x₂
    have rs₂ := I₁.reps x₂ rs
    obtain ⟨va, vb, rfl, _, _⟩ := rs.twoI
    obtain ⟨_, _, e2, ra, rb⟩ := rs₂.twoI
    cases e2
    have N := assignNamesG (F := F) (A := A) (env := env) (fun k => bindName env k.1) (fun _ _ _ _ _ _ h => wpAny_bindName h) [b, a] [vb, va] [d2, d1] (Cx.setρ (X.setσ σ') ρ) { s₁ with heap := h', toks := s₁.toks } I₂ (.cons rb (.cons ra .nil)) rfl (by show (storable X.sc b.1 && (storable X.sc a.1 && true)) = true; rw [ka, kb]; rfl) (by simpa using hab.symm)
      (fun k hk => by
        rcases List.mem_cons.mp hk with rfl | hk
        · exact hyb
        · rw [List.mem_singleton.mp hk]; exact hya)
      (fun p hp q => by
        rcases List.mem_cons.mp q with q | q
        · exact (hρa p hp).2 q
        · exact (hρa p hp).1 (List.mem_singleton.mp q))
    refine wpAny_mono N (fun _ s₃ ⟨x₃, I₃⟩ => ⟨_, _, V', ⟨?_, hV'⟩, I₃, h d1 d2 σ' V' hΨ⟩) fun _ _ e => e
    exact (x₁.trans x₂).weak.trans (x₃.mono (fun _ h _ => .inl h) fun b hb _ => List.mem_append_left _ (ownT_own b hb))
/-- a fresh iterator over a list, and a fresh list -/
theorem ev_tape {fe e : Expr} {ds : List D} {k1 : Nat} {cpos lpos vpos : Pos} (hf : Ev X fe (.fn (.builtin "iter"))) (he : Ev X e (.list ds)) (hn : notAttr fe = true) (hp : plainEs [e] = true) (A : Around) (env : Env) (F : List Addr) (s : Shared) (I : In X A env F s) :
    wpAny (model X.G.prog X.G.w) A (eval (.Tuple [.Call fe [e] [] cpos, .List [] lpos] k1 vpos) env) (fun v s₁ => ∃ d1 d2 σ' V', Step X.G F [] s s₁ ∧ In (X.setσ σ') A env F s₁ ∧ (∀ a ∈ V', a ∈ V ∨ s.heap.get? a = none) ∧ Rep (wOf σ') s₁.heap v (.tup [d1, d2]) ∧
      ∃ it l, d1 = .fn (.ref it) ∧ d2 = .fn (.ref l) ∧ σ' = (l, .list []) :: (it, .iter ds 0) :: X.σ ∧ V' = l :: it :: V) (fun _ _ => False) s := by
  refine Tuple_ (wpAny_items_cons ?_ rfl)
  rw [eval_Call hn]
  refine wpAny_bind (wpAny_mono (hf A env F s I) (fun v s₁ ⟨x₁, r⟩ => ?_) fun _ _ e => e)
  obtain rfl := r.fnI
  have I₁ := I.step x₁
  refine callWith_ok I₁ (Evs.cons he Evs.nil (fun env => (starEach_of env hp).1)) hp keepB fun vs s₂ x₂ rs => ?_
  obtain ⟨_, rfl, r⟩ := rs.oneI
  have I₂ := I₁.step x₂
  have x₁₂ := x₁.trans x₂
  obtain ⟨lst, vs, rfl, hw, hl, rs⟩ := r.listI
  refine call_iter_list hl.1 ?_
  have hn2 : s₂.heap.get? s₂.heap.objs.size = none := fresh_ge (Nat.le_refl _)
  have hlne : lst ≠ s₂.heap.objs.size := fun q => by
    obtain ⟨o, e, _⟩ := hl.1
    rw [q, hn2] at e; cases e
  have hpl : PList (s₂.heap.push { cls := .type "list_iterator", data := .fields #[.ref lst, .int 0 0] }) lst vs.toArray := hl.push _
  obtain ⟨k1, k2, I₃⟩ := I₂.ownAny (w := .iter ds 0) (Step.refl) hn2 (step_push (F := F) (o := { cls := .type "list_iterator", data := .fields #[.ref lst, .int 0 0] })) fun kk => .iter ⟨_, Heap.get?_push_size _ rfl, rfl, rfl⟩ (fun q => (List.mem_cons.mp q).elim hlne hw) hpl (kk rs)
  have hnew1 : s.heap.get? s₂.heap.objs.size = none := Step.noneAt I.good x₁₂ hn2 (fun q => absurd q List.not_mem_nil)
  refine wpAny_items_cons (wpAny_mono (EvNew.nil (X := X.setσ ((s₂.heap.objs.size, .iter ds 0) :: X.σ)) A env F _ I₃) (fun v s₄ hN => ?_) fun _ _ e => e) rfl
  obtain ⟨l, rfl, hln, x₄, I₄⟩ := In.ownNew (X := X.setσ ((s₂.heap.objs.size, .iter ds 0) :: X.σ)) I₃ hN
  refine wpAny_items_nil (wpAny_newTuple ?_ (by show 2 ≤ sizeLine; decide))
  have x5 : Step X.G F [] s₄ _ := step_push (o := { cls := .type "tuple", data := .seq [Value.ref s₂.heap.objs.size, .ref l].toArray })
  have xall : Step X.G F [] s s₄ := (x₁₂.trans k2).trans x₄
  refine ⟨.fn (.ref s₂.heap.objs.size), .fn (.ref l), _, l :: s₂.heap.objs.size :: V, xall.trans x5, I₄.step x5, fun b hb => ?_, ?_, _, l, rfl, rfl, rfl, rfl⟩
  · rcases List.mem_cons.mp hb with rfl | hb
    · exact .inr (Step.noneAt I.good (x₁₂.trans k2) hln (fun q => absurd q List.not_mem_nil))
    · rcases List.mem_cons.mp hb with rfl | hb
      · exact .inr hnew1
      · exact .inl hb
  · exact I₄.new_tuple (.cons (.fn _) (.cons (.fn _) .nil))
end

section
variable {G : Gd} {n : Nat} {σ : Sig}
theorem c_varint_stop {aV : Addr} {cd : Value} {fd : FuncData} {a : Addr} {ds : List D} {i : Nat} (F : FnAt G 8 "_parse_varint" aV cd fd) (hb : ∀ d, BindAs G fd [] ["iterator"] [d] [d]) (hnext : nsIn G.K mainGlobals "next" = some none) (ha : (a, Own.iter ds i) ∈ σ) (hd : ds.length ≤ i) : CallR G (n + 1) σ [a] (.ref aV) [.fn (.ref a)] [] (.type "StopIteration") (fun ws => ws = []) := by
  refine CallR.of_body F.K (hb _ σ) (by kernel_rfl) (by simp) (by intro y hy; rw [List.mem_singleton.mp hy]; decide +kernel) rfl (fun b hb => by rw [List.mem_singleton.mp hb]; exact List.mem_map.mpr ⟨_, ha, rfl⟩) ?_
  exact StR.cons (StR1.assign (EvR.next (Ev.blt (by kernel_rfl) hnext rfl (by decide +kernel) (by decide +kernel)) (Ev.at 0 rfl) ha (.head _) hd))
theorem c_varint {aV : Addr} {cd : Value} {fd : FuncData} {V : List Addr} {a : Addr} {octs : List Int} {i j k : Nat} {b v : Int} (F : FnAt G 8 "_parse_varint" aV cd fd) (hb : ∀ d, BindAs G fd [] ["iterator"] [d] [d]) (hnext : nsIn G.K mainGlobals "next" = some none) (ha : (a, Own.iter (octs.map .int) i) ∈ σ) (haV : a ∈ V) (hb0 : octs[i]? = some b) (hr : pvRun octs k (i + 1) b (Builtin.bitAnd b 63) = some (v, j)) :
    CallsM G (n + 1) σ V (.ref aV) [.fn (.ref a)] [] (fun d σ' => d = .int v ∧ σ' = upd σ a (.iter (octs.map .int) j)) := by
  refine CallsM.of_body F.K (hb _ σ) (by kernel_rfl) (by simp) (by intro y hy; rw [List.mem_singleton.mp hy]; decide +kernel) rfl ?_
  exact St.mono (varint_body hnext ha haV hb0 hr) fun o ho => by cases o <;> first | exact ho | exact ho.elim
end
end Mine
end
section
local macro_rules | `(tactic| omega) => `(tactic| lia)
open PySem PySem.W PySem.Calls PyProof.Rows PySem.Builtin
namespace Mine

section
variable {X : Cx} {V : List Addr} {cls : Value} {P : List Value → Prop}
/-- append of what raises -/
theorem EvF.append {o e : Expr} {apos pos : Pos} {a : Addr} {ds : List D} (ho : Ev X o (.fn (.ref a))) (ha : (a, Own.list ds) ∈ X.σ) (he : EvF X V e cls P)
    (hq : MethEq o "append" apos pos [e] := by intro _; exact ⟨_, rfl⟩) (hp : plainEs [e] = true := by rfl) : EvF X V (.Call (.Attribute o "append" apos) [e] [] pos) cls P := by
  intro A env F s outer I hfr
  obtain ⟨pl, hq⟩ := hq env
  refine MethodCall_ (pl := pl) (wpAny_mono (ho A env F s I) (fun v s₁ ⟨x₁, r⟩ => ?_) fun _ _ e => e.elim) hq
  refine wpAny_mono (Meth.append (LstAt.owned a ds ha) A env F s₁ v pl (fun fx s₂ => ∃ tk, fx = (.builtin "list.append", [v]) ∧ s₂ = { s₁ with toks := tk }) (I.step x₁) r fun tk => ⟨tk, rfl, rfl⟩) (fun fx s₂ ⟨tk, e1, e2⟩ => ?_) fun _ _ e => e.elim
  subst e1 e2
  have x₂ : Step X.G F [] s { s₁ with toks := tk } := x₁.trans Step.toks
  have I₂ := I.step x₂
  obtain ⟨h1, h2⟩ := starEach_of env hp
  refine callWith_of (P := fun h => ∃ k, (k = Keeper.frame ∨ k = Keeper.machine ∨ k = Keeper.boundFrame) ∧ Looks (model X.G.prog X.G.w) h (keeperOf (.builtin "list.append")) k) (by rw [h1]; rfl) (fun _ q => q) ?_
  rw [h1]
  refine evalArgs_plain (spliced_cons (wpAny_mono (he A env F _ outer I₂ hfr) (fun _ _ e => e.elim) fun e s' ⟨a, ws, e1, hP, m⟩ => ⟨a, ws, e1, hP, m.before x₂ I.good fun _ h _ => h⟩))
end

section
variable {G : Gd} {n : Nat} {σ : Sig}
set_option maxHeartbeats 1000000 in
theorem c_read {aF aV : Addr} {cd cdV : Value} {fd fdV : FuncData} {octs : List Int} {k : Nat} {b v : Int} (F : FnAt G 69 "_law_read" aF cd fd) (hbF : ∀ d, BindAs G fd [] ["octets"] [d] [d]) (FV : FnAt G 8 "_parse_varint" aV cdV fdV) (hbV : ∀ d, BindAs G fdV [] ["iterator"] [d] [d])
    (hnext : nsIn G.K mainGlobals "next" = some none) (hiter : nsIn G.K mainGlobals "iter" = some none) (hrange : nsIn G.K mainGlobals "range" = some none) (hlen : nsIn G.K mainGlobals "len" = some none) (hSI : nsIn G.K mainGlobals "StopIteration" = some none)
    (hl : octs.length ≤ 1000) (hb0 : octs[0]? = some b) (hr : pvRun octs k 1 b (Builtin.bitAnd b 63) = some (v, octs.length)) : Calls G (n + 2) σ (.ref aF) [.list (octs.map .int)] (.list [.int v]) := by
  refine CallsM.calls (CallsM.of_top F.K (hbF _ σ) (by kernel_rfl) (by simp) (by intro y hy; rw [List.mem_singleton.mp hy]; decide +kernel) rfl ?_)
  have hpos : 0 < octs.length := by
    have := List.getElem?_eq_some_iff.mp hb0
    exact this.1
  refine StTop.cons (St1.assign2E (a := ("tape", _)) (b := ("read", _)) (ρ := [("octets", .list (octs.map .int))]) (ev_tape (ds := octs.map .int) (Ev.blt (by kernel_rfl) hiter rfl (by decide +kernel) (by decide +kernel)) (Ev.at 0 rfl) rfl rfl) (by kernel_rfl) (by kernel_rfl) (by decide +kernel) (by decide +kernel) (by decide +kernel) (fun _ h => h)
    (fun q hq => ⟨ne_all (ρ := [("octets", .list (octs.map .int))]) (by kernel_rfl) q hq, ne_all (ρ := [("octets", .list (octs.map .int))]) (by kernel_rfl) q hq⟩) ?_ (by intro _ _; rfl) (by intro env h; cases env; cases h; rfl))
  rintro d1 d2 σ' V' ⟨it, l, rfl, rfl, rfl, rfl⟩
  show StTop ⟨G, n + 1, scopeAt 69, cd, [("tape", .fn (.ref it)), ("read", .fn (.ref l)), ("octets", .list (octs.map .int))], (l, .list []) :: (it, .iter (octs.map .int) 0) :: σ⟩ [l, it] _ _
  -- the addresses differ
  have hnd : ∀ (S : List Stmt) (Φ : Out → Prop), (l ≠ it → l ∉ wOf σ → it ∉ wOf σ → StTop ⟨G, n + 1, scopeAt 69, cd, [("tape", .fn (.ref it)), ("read", .fn (.ref l)), ("octets", .list (octs.map .int))], (l, .list []) :: (it, .iter (octs.map .int) 0) :: σ⟩ [l, it] S Φ) → StTop ⟨G, n + 1, scopeAt 69, cd, [("tape", .fn (.ref it)), ("read", .fn (.ref l)), ("octets", .list (octs.map .int))], (l, .list []) :: (it, .iter (octs.map .int) 0) :: σ⟩ [l, it] S Φ := fun S Φ h A env F s outer I hf hL => by
    have := I.sig.nodup
    have h1 := List.nodup_cons.mp this
    have h2 := List.nodup_cons.mp h1.2
    exact h (fun q => h1.1 (by rw [q]; exact .head _)) (fun q => h1.1 (.tail _ q)) h2.1 A env F s outer I hf hL
  refine hnd _ _ fun hli hlσ hiσ => ?_
  have e1 : upd ((l, Own.list []) :: (it, .iter (octs.map .int) 0) :: σ) it (.iter (octs.map .int) octs.length) = (l, Own.list []) :: (it, .iter (octs.map .int) octs.length) :: σ := by
    rw [upd_cons hli, upd_head hiσ]
  have hlit : l ∉ wOf ((it, Own.iter (octs.map D.int) octs.length) :: σ) := fun q => (List.mem_cons.mp q).elim hli hlσ
  refine StTop.last (StTop1.stopped (V := [l, it]) (σ' := σ) (Ψ := fun ρ σ' => (("read" : Str), D.fn (.ref l)) ∈ ρ ∧ σ' = (l, Own.list [.int v]) :: (it, .iter (octs.map .int) octs.length) :: σ) [it] (fun b hb => by rw [List.mem_singleton.mp hb]; exact .tail _ (.head _)) (for_raises (X := ⟨G, n + 1, scopeAt 69, cd, _, _⟩) (n := octs.length + 1) (ρ₀ := [("tape", .fn (.ref it)), ("read", .fn (.ref l))])
    (IterEx.range1 (n := octs.length + 1) (Ev.blt (by kernel_rfl) hrange rfl (by decide +kernel) (by decide +kernel)) (Ev.bin (Ev.call (Ev.blt (by kernel_rfl) hlen rfl (by decide +kernel) (by decide +kernel)) (Evs.cons (Ev.at 2 rfl) Evs.nil) (Calls.len_list (LstAt.frozen _) (by rw [List.length_map]; omega)) keepB) Ev.int (by rw [List.length_map]; exact Bin.add)) (by omega) (by decide +kernel)) (by kernel_rfl) [it] (fun b hb => ?_)
    (fun i ρ σ' => ρ = ([("tape", .fn (.ref it)), ("read", .fn (.ref l))] : Env0) ∧ ((i = 0 ∧ σ' = (l, Own.list []) :: (it, .iter (octs.map .int) 0) :: σ) ∨ (i = 1 ∧ σ' = (l, Own.list [.int v]) :: (it, .iter (octs.map .int) octs.length) :: σ))) _ ?_ ⟨rfl, .inl ⟨rfl, rfl⟩⟩ ?_ ?_) (by kernel_rfl) hSI rfl (by decide +kernel) (by decide +kernel) ?_)
  · simp only [List.mem_cons, List.not_mem_nil, or_false] at hb
    rcases hb with rfl | rfl
    · exact .head _
    · exact .tail _ (.head _)
  · exact subK (by kernel_rfl)
  · rintro i ρ σ' hi hw ⟨rfl, ⟨rfl, rfl⟩ | ⟨rfl, rfl⟩⟩
    · refine ⟨notKeys (by kernel_rfl), .inl ?_⟩
      refine St.c (St1.exprM (Ψ := fun d σ' => σ' = (l, Own.list [.int v]) :: (it, .iter (octs.map .int) octs.length) :: σ) (EvM.append (a := l) (ds := []) (Φ := fun d σ' => d = .int v ∧ σ' = (l, Own.list []) :: (it, .iter (octs.map .int) octs.length) :: σ) (Ev.at 2 rfl)
        (EvM.call (n := 0) (Ev.glob (by kernel_rfl) FV.ns (by decide +kernel)) (Evs.cons (Ev.at 1 rfl) Evs.nil) (CallsM.mono (c_varint FV hbV hnext (a := it) (octs := octs) (i := 0) (.tail _ (.head _)) (.tail _ (.head _)) hb0 hr) fun d σ' ⟨q1, q2⟩ => ⟨q1, q2.trans e1⟩) (fun b hb => ?_) (fun d σ' q b hb => ?_) (keepF FV.keep)) (.head _) (fun d σ' q => ?_) (.head _) (by decide)) (fun d σ' q => ?_) (by intro _; rfl))
      · simp only [List.mem_cons, List.not_mem_nil, or_false] at hb
        rcases hb with rfl | rfl
        · exact .head _
        · exact .tail _ (.head _)
      · rw [q.2] at hb; exact hb
      · obtain ⟨rfl, rfl⟩ := q
        exact ⟨.head _, fun b hb => hb, upd_head hlit⟩
      · subst q
        exact St.end_ ⟨[("tape", .fn (.ref it)), ("read", .fn (.ref l))], fun p hp => .tail _ hp, rfl, rfl, rfl, .inr ⟨rfl, rfl⟩⟩
    · refine ⟨notKeys (by kernel_rfl), .inr ⟨?_, .tail _ (.tail _ (.head _)), rfl⟩⟩
      exact StF.expr (EvF.append (a := l) (ds := [.int v]) (Ev.at 2 rfl) (.head _) (EvF.call (Ev.glob (by kernel_rfl) FV.ns (by decide +kernel)) (Evs.cons (Ev.at 1 rfl) Evs.nil) (c_varint_stop FV hbV hnext (ds := octs.map .int) (i := octs.length) (.tail _ (.head _)) (by rw [List.length_map]; exact Nat.le_refl _)) (keepF FV.keep)))
  · rintro ρ σ' hw ⟨_, ⟨h, _⟩ | ⟨h, _⟩⟩
    · omega
    · omega
  · rintro ρ σ₁ hw ⟨h1, rfl⟩
    refine ⟨l, [.int v], h1, .head _, fun p hp => ⟨.tail _ (.tail _ hp), fun q => hlσ (q ▸ List.mem_map.mpr ⟨p, hp, rfl⟩), fun q => hiσ (List.mem_singleton.mp q ▸ List.mem_map.mpr ⟨p, hp, rfl⟩)⟩, fun h => (List.nodup_cons.mp (List.nodup_cons.mp h).2).2, fun q => hli (List.mem_singleton.mp q), fun b hb => ⟨octs.map .int, octs.length, by rw [List.mem_singleton.mp hb]; exact .tail _ (.head _)⟩, rfl, rfl⟩
end
end Mine
end
section
local macro_rules | `(tactic| omega) => `(tactic| lia)
open PySem PySem.W PySem.Calls PyProof.Rows PySem.Builtin
namespace Mine

section
variable {G : Gd} {n : Nat} {sc : Scope} {cd : Value} {ρ : Env0} {σ : Sig} {V : List Addr} {Φ : Out → Prop}
/-- a local name takes a comprehension -/
theorem St1.setComp (i : Nat) {y : Str} {py pos cpos : Pos} {elt target iter : Expr} {ifs : List Expr} {rest : List Comprehension} {csc : Scope} {res : List D} (he : CompWp ⟨G, n, sc, cd, ρ, σ⟩ (.ListComp elt (⟨target, iter, ifs, 0⟩ :: rest) csc cpos) csc iter res) (h : Φ (.next ((y, .list res) :: ρ.eraseIdx i) σ V))
    (hk : sc.names.lookup y = some .local := by kernel_rfl) (h2 : ((ρ.eraseIdx i).all fun p => p.1 != y) = true := by kernel_rfl) (hy : niceName y := by decide +kernel)
    (hs : ∀ env, env.scope = sc → swapsWith (.ListComp elt (⟨target, iter, ifs, 0⟩ :: rest) csc cpos) (some (.Name y py)) pos.line env = pure true := by intro env h; cases env; cases h; rfl) : St1 ⟨G, n, sc, cd, ρ, σ⟩ V (.Assign [.Name y py] (.ListComp elt (⟨target, iter, ifs, 0⟩ :: rest) csc cpos) pos) Φ :=
  St1.assignComp he hk mem_erase (ne_all h2) hy h hs
/-- the rule for one generator, with the names that the comprehension reads -/
theorem comp1W {elt target iter : Expr} {ifs : List Expr} {csc : Scope} {pos : Pos} {keys : List Str} {m : Nat} {bs : Nat → Env0} (ρ₁ : Env0) {t : Nat → Bool} {f : Nat → D} (hit : IterEx ⟨G, n, sc, cd, ρ, σ⟩ iter target keys m bs) (hρ : ∀ p ∈ ρ₁, p ∈ ρ)
    (hT : ∀ i, i < m → ∀ σ, Tests ⟨G, n, relab csc sc, cd, bs i ++ ρ₁, σ⟩ ifs (t i)) (hE : ∀ i, i < m → t i = true → ∀ σ, Ev ⟨G, n, relab csc sc, cd, bs i ++ ρ₁, σ⟩ elt (f i)) (hm : m ≤ 1000000)
    (hc : compOk csc sc = true := by kernel_rfl) (hk : (keys.all fun k => storable (relab csc sc) k && (csc.names.lookup k == some .local || csc.names.lookup k == some .cell)) = true := by kernel_rfl)
    (hfree : (ρ₁.all fun p => csc.names.lookup p.1 == some .free) = true := by kernel_rfl) (hkρ : (ρ₁.all fun p => !keys.contains p.1) = true := by kernel_rfl)
    (hs : ∀ env x, foldedSetIterable iter env x = pure x := by intro _ _; rfl) : CompWp ⟨G, n, sc, cd, ρ, σ⟩ (.ListComp elt [⟨target, iter, ifs, 0⟩] csc pos) csc iter (((List.range m).filter t).map f) :=
  CompWp.one hc hit hk (fun p hp => ⟨hρ p hp, by have := List.all_eq_true.mp hfree p hp; exact beq_iff_eq.mp this⟩) (notKeys hkρ) hT hE hm hs
end

theorem Bin.gt' {X : Cx} {i j : Int} {b : Bool} (h : decide (i > j) = b) : Bin X (compareOp .Gt) (.int i) (.int j) (.bool b) := h ▸ Bin.gt
theorem Ev.eqI {X : Cx} {e : Expr} {i j : Int} (h : Ev X e (.int i)) (q : i = j) : Ev X e (.int j) := q ▸ h
theorem Ev.eqB {X : Cx} {e : Expr} {i j : Bool} (h : Ev X e (.bool i)) (q : i = j) : Ev X e (.bool j) := q ▸ h
theorem Ev.eqL {X : Cx} {e : Expr} {i j : List D} (h : Ev X e (.list i)) (q : i = j) : Ev X e (.list j) := q ▸ h

abbrev duL (n : Nat) (du : Nat → Nat) : List D := (List.range n).map fun p => D.int (du p)
theorem duL_get {n : Nat} {du : Nat → Nat} {p : Nat} (h : p < n) : (duL n du)[p]? = some (.int (du p)) := by simp [duL, h]
/-- the places that came -/
def suppOf (n : Nat) (du : Nat → Nat) : List Nat := (List.range n).filter fun p => decide (0 < du p)

section
variable {G : Gd} {N : Nat} {σ : Sig} {cd : Value}
set_option maxHeartbeats 1000000 in
theorem law_27 {aL aR : Addr} {n : Nat} {du : Nat → Nat} {R : List Int} {words : List Str} {A B : List Int} {r : Nat} (hbL : SrchAt G 4 "bisect_left" aL) (hbR : SrchAt G 2 "bisect_right" aR)
    (hrange : nsIn G.K mainGlobals "range" = some none) (hlen : nsIn G.K mainGlobals "len" = some none) (hmin : nsIn G.K mainGlobals "min" = some none) (hn : n ≤ 16) (hR : R.Pairwise (· ≤ ·)) (hRl : R.length ≤ 1000) (hcnt : ∀ p, p < n → cntLe R (256 - n + p) = cntLt R (256 - n + p) + du p)
    (hr : r ∈ (suppOf n du).map du) (hmn : ∀ a ∈ (suppOf n du).map du, r ≤ a) (hw : words.length ≤ 1000) (hA : A.length ≤ 1000) (hB : B.length ≤ 1000) (hfin : A.length + B.length ≤ words.length + r) :
    St ⟨G, N + 1, scopeAt 73, cd, [("size", .int n), ("due", .list (duL n du)), ("row", .list (R.map .int)), ("words", .list (words.map .str)), ("lines", .list [.list (A.map .int), .list (B.map .int)])], σ⟩ [] ((bodyAt 73).drop 27) (fun o => match o with | .ret d σ' => d = .bool true ∧ σ' = σ | _ => False) := by
  have hR' : R.length ≤ 100000 := by omega
  refine St.c (St1.setComp 5 (comp1W [("size", .int n), ("due", .list (duL n du))] (m := n) (t := fun p => decide ((0 : Nat) < du p)) (f := fun p => .int (256 - n + p)) (IterEx.range1 (n := n) (Ev.blt (by kernel_rfl) hrange rfl (by decide +kernel) (by decide +kernel)) (Ev.at 0 rfl) (by omega) (by decide +kernel)) (subK (by kernel_rfl))
    (fun i hi σ => Tests.one (Tv.cmp (Ev.sub (Ev.at 2 rfl) (Ev.at 0 rfl) (Sub1.listN (i := i) (LstAt.frozen _) (by omega) (duL_get hi))) Ev.int (Bin.gt' (decide_eq_decide.mpr (by omega))))) (fun i hi _ σ => Ev.bin (Ev.bin Ev.int (Ev.at 1 rfl) Bin.sub) (Ev.at 0 rfl) Bin.add) (by omega)) ?_)
  have hS : ∀ p ∈ suppOf n du, p < n := fun p hp => List.mem_range.mp (List.mem_filter.mp hp).1
  have hSl : (suppOf n du).length ≤ 16 := by
    have := List.length_filter_le (fun p => decide (0 < du p)) (List.range n)
    rw [List.length_range] at this
    exact Nat.le_trans this hn
  show St ⟨G, N + 1, scopeAt 73, cd, [("symbols", .list ((suppOf n du).map fun p : Nat => .int (256 - n + (p : Int)))), ("size", .int n), ("due", .list (duL n du)), ("row", .list (R.map .int)), ("words", .list (words.map .str)), ("lines", .list [.list (A.map .int), .list (B.map .int)])], σ⟩ [] _ _
  generalize suppOf n du = S at *
  obtain ⟨cdL, fdL, FL, _⟩ := id hbL
  obtain ⟨cdR, fdR, FR, _⟩ := id hbR
  refine St.c (St1.set 6 (d := .int r) (Ev.call (Ev.blt (by kernel_rfl) hmin rfl (by decide +kernel) (by decide +kernel)) (Evs.cons (Ev.eqL (j := (S.map fun p => (du p : Int)).map .int) (Ev.comp1 [("row", .list (R.map .int))] (m := (S.map fun p : Nat => D.int (256 - n + (p : Int))).length) (t := fun _ => true) (f := fun i => .int (du (S.getD i 0))) (IterEx.list (d := .none) (Ev.at 0 rfl) (by decide +kernel)) (subK (by kernel_rfl)) (fun i hi σ => Tests.nil) (fun i hi _ σ => ?_) (by rw [List.length_map]; omega)) ?_) Evs.nil) (Calls.min (M := (r : Int)) ?_ ?_) keepB) ?_)
  · rw [List.length_map] at hi
    have hp : S.getD i 0 ∈ S := by simp [List.getD_eq_getElem?_getD, hi]
    have hpn := hS _ hp
    have e : (S.map fun p : Nat => D.int (256 - n + (p : Int))).getD i .none = .int (256 - n + (S.getD i 0 : Nat)) := by simp [List.getD_eq_getElem?_getD, hi]
    rw [e]
    generalize S.getD i 0 = p at hpn
    have hc := hcnt p hpn
    generalize (256 - n + (p : Nat) : Int) = x at hc
    have hll : cntLt R x ≤ cntLe R x := cntLt_cntLe
    refine Ev.eqI (Ev.bin (Ev.call (Ev.glob (by kernel_rfl) FR.ns (by decide +kernel)) (Evs.cons (Ev.at 1 rfl) (Evs.cons (Ev.at 0 rfl) (Evs.cons (Ev.call (Ev.glob (by kernel_rfl) FL.ns (by decide +kernel)) (Evs.cons (Ev.at 1 rfl) (Evs.cons (Ev.at 0 rfl) Evs.nil)) (hbL.bisL hlen (hi := cntLt R x) (LstAt.frozen _) hR' hR (Nat.le_refl _) cntLt_le (Nat.le_add_left 1 N)).1 (keepF FL.keep)) Evs.nil))) (hbR.bisR hlen (lo := cntLt R x) (LstAt.frozen _) hR' hR hll (Nat.le_add_left 1 N)).2.1 (keepF FR.keep))
      (Ev.call (Ev.glob (by kernel_rfl) FL.ns (by decide +kernel)) (Evs.cons (Ev.at 1 rfl) (Evs.cons (Ev.at 0 rfl) (Evs.cons Ev.int (Evs.cons (Ev.call (Ev.glob (by kernel_rfl) FR.ns (by decide +kernel)) (Evs.cons (Ev.at 1 rfl) (Evs.cons (Ev.at 0 rfl) Evs.nil)) ((hbR.bisR hlen (lo := 0) (LstAt.frozen _) hR' hR (Nat.zero_le _) (Nat.le_add_left 1 N)).1 rfl) (keepF FR.keep)) Evs.nil)))) (hbL.bisL hlen (hi := cntLe R x) (LstAt.frozen _) hR' hR hll cntLe_le (Nat.le_add_left 1 N)).2.1 (keepF FL.keep)) Bin.sub) (by omega)
  · rw [List.length_map, List.filter_eq_self.mpr (fun _ _ => rfl), List.map_map]
    apply List.ext_getElem (by simp)
    intro i h1 h2
    simp at h1
    simp [List.getD_eq_getElem?_getD, h1]
  · obtain ⟨p, hp, e⟩ := List.mem_map.mp hr
    exact List.mem_map.mpr ⟨p, hp, by rw [e]⟩
  · intro a ha
    obtain ⟨p, hp, rfl⟩ := List.mem_map.mp ha
    exact Int.ofNat_le.mpr (hmn _ (List.mem_map.mpr ⟨p, hp, rfl⟩))
  · refine St.c (St1.ret (d := .bool true) ?_ ⟨rfl, rfl⟩)
    refine Ev.cmp (Ev.bin (Ev.call (Ev.blt (by kernel_rfl) hlen rfl (by decide +kernel) (by decide +kernel)) (Evs.cons (Ev.at 5 rfl) Evs.nil) (Calls.len_list (LstAt.frozen _) (by rw [List.length_map]; omega)) keepB) (Ev.at 0 rfl) Bin.add)
      (Ev.bin (Ev.call (Ev.blt (by kernel_rfl) hlen rfl (by decide +kernel) (by decide +kernel)) (Evs.cons (Ev.sub (Ev.at 6 rfl) Ev.int (Sub1.list (r := .list (A.map .int)) (LstAt.frozen _) (by decide) (by decide) rfl)) Evs.nil) (Calls.len_list (LstAt.frozen _) (by rw [List.length_map]; omega)) keepB)
        (Ev.call (Ev.blt (by kernel_rfl) hlen rfl (by decide +kernel) (by decide +kernel)) (Evs.cons (Ev.sub (Ev.at 6 rfl) Ev.int (Sub1.list (r := .list (B.map .int)) (LstAt.frozen _) (by decide) (by decide) rfl)) Evs.nil) (Calls.len_list (LstAt.frozen _) (by rw [List.length_map]; omega)) keepB) Bin.add) (Bin.ge' (decide_eq_true ?_))
    simp only [List.length_map]
    omega
end
end Mine
end
section
local macro_rules | `(tactic| omega) => `(tactic| lia)
open PySem PySem.W PySem.Calls PyProof.Rows PySem.Builtin
namespace Mine

/-- what an ellipsis pattern answers -/
structure EllOk (want got : Str) (r : Bool) : Prop where
  has : Txt.contains want "..." = true
  two : 2 ≤ (Txt.split want "...").length
  few : (Txt.split want "...").length ≤ 10000
  wl : want.length ≤ 10000
  gl : got.length ≤ 10000
  parts : ∀ w ∈ Txt.split want "...", w.length ≤ 10000
  room : (Builtin.Str.partsBetween want (Builtin.Str.occurrences want "..." 0 want.length (want.length + 1)) ("..." : Str).length).length ≤ 100000
  ans : ellRun got (Txt.split want "...") = r
def EllAt (G : Gd) (a : Addr) : Prop := ∃ cd fd, FnAt G 11 "_ellipsis_match" a cd fd ∧ ∀ d1 d2, BindAs G fd [] ["want", "got"] [d1, d2] [d1, d2]
section
variable {G : Gd} {N : Nat} {σ : Sig} {cd : Value}
theorem EllAt.call {a : Addr} (h : EllAt G a) {want got : Str} {r : Bool} {t : Tok} (hM : nsIn G.K mainGlobals "ELLIPSIS_MARKER" = some (some (.str "..." t))) (hlen : nsIn G.K mainGlobals "len" = some none) (e : EllOk want got r) : Calls G (N + 1) σ (.ref a) [.str want, .str got] (.bool r) := by
  obtain ⟨cd, fd, F, B⟩ := h
  refine CallsM.calls (CallsM.of_body F.K (B _ _ σ) (by kernel_rfl) (by decide +kernel) (by intro y hy; simp only [List.mem_cons, List.not_mem_nil, or_false] at hy; rcases hy with rfl | rfl <;> decide +kernel) rfl ?_)
  exact St.mono (ell_body hM hlen e.has rfl e.two e.few e.wl e.gl e.parts e.room e.ans) fun o ho => by cases o <;> first | exact ho | exact ho.elim

/-- the ring's text -/
def ringW (n : Nat) (du : Nat → Nat) : List Str := (List.range n).map fun i => if decide (0 < du i) then ("*" : Str) else " "
/-- the turn t leaves the places that came as they are -/
def sameAt (n : Nat) (du : Nat → Nat) (t : Nat) : Bool := (List.range n).all fun i => decide (0 < du ((i + t) % n)) == decide (0 < du i)

abbrev smL (n : Nat) (du : Nat → Nat) : List D := ((List.range n).map (sameAt n du)).map D.bool
theorem smL_get {n : Nat} {du : Nat → Nat} {p : Nat} (h : p < n) : (smL n du)[p]? = some (.bool (sameAt n du p)) := by simp [smL, h]
theorem filter_all {α : Type} {l : List α} : l.filter (fun _ => true) = l := List.filter_eq_self.mpr (fun _ _ => rfl)
theorem Tv.isNot {X : Cx} {l r : Expr} {pos : Pos} {a b c : Bool} (hl : Ev X l (.bool a)) (hr : Ev X r (.bool b)) (h : (a != b) = c) (hm : behindInMarks .IsNot r = false := by with_unfolding_all rfl) : Tv X (.Compare l [.IsNot] [r] pos) c := Tv.cmp hl hr (Bin.isNotB h) hm

set_option maxHeartbeats 2000000 in
theorem law_22 {aE : Addr} {t : Tok} {n : Nat} {du : Nat → Nat} {nm : Nat → Str} {rg : Str} {row lines : D} {Φ : Out → Prop} (hE : EllAt G aE) (hM : nsIn G.K mainGlobals "ELLIPSIS_MARKER" = some (some (.str "..." t))) (hrange : nsIn G.K mainGlobals "range" = some none) (hlen : nsIn G.K mainGlobals "len" = some none) (hn : n ≤ 16) (h1n : 1 ≤ n)
    (hinj : ∀ i, i < n → (((suppOf n du).map nm).any fun y => y == nm i) = decide (0 < du i)) (hrg : Txt.join "" (ringW n du) = rg) (hjo : JoinOk "" (ringW n du) = true) (hrl : rg.length = n)
    (e1 : ∀ i, i < n → EllOk ((Txt.slice rg (some i) none ++ "...") ++ Txt.slice rg none (some i)) rg (sameAt n du i)) (e2 : ∀ i, i < n → EllOk ((Txt.slice rg none (some (i + 1 : Nat)) ++ "...") ++ Txt.slice rg (some i) none) rg false)
    (e3 : EllOk (("..." ++ rg) ++ "...") (Txt.slice (rg ++ rg) (some 1) (some (-1))) (decide (((List.range n).map (sameAt n du)).count true > 1))) (e4 : EllOk (((("..." ++ rg) ++ "...") ++ rg) ++ "...") (Txt.slice (rg ++ rg) (some 1) none) false)
    (hrest : St ⟨G, N + 1, scopeAt 73, cd, [("size", .int n), ("due", .list (duL n du)), ("row", row), ("words", .list (((suppOf n du).map nm).map .str)), ("lines", lines)], σ⟩ [] ((bodyAt 73).drop 27) Φ) :
    St ⟨G, N + 1, scopeAt 73, cd, [("size", .int n), ("due", .list (duL n du)), ("names", .list (((List.range n).map nm).map .str)), ("row", row), ("words", .list (((suppOf n du).map nm).map .str)), ("lines", lines)], σ⟩ [] ((bodyAt 73).drop 22) Φ := by
  obtain ⟨cdE, fdE, FE, _⟩ := id hE
  -- ring
  refine St.c (St1.set 6 (d := .str rg) (hrg ▸ Ev.meth Ev.str Meth.join (Evs.cons (Ev.eqL (j := (ringW n du).map .str) (Ev.comp1 [("words", .list (((suppOf n du).map nm).map .str))] (m := (((List.range n).map nm).map D.str).length) (t := fun _ => true) (f := fun i => .str (if decide (0 < du i) then "*" else " ")) (IterEx.list (d := .none) (Ev.at 2 rfl) (by decide +kernel)) (subK (by kernel_rfl)) (fun i hi σ => Tests.nil) (fun i hi _ σ => ?_) (by rw [List.length_map, List.length_map, List.length_range]; omega)) ?_) Evs.nil) (Calls.join (LstAt.frozen _) hjo)) ?_ (hs := by intro env h; cases env; cases h; rfl))
  · rw [List.length_map, List.length_map, List.length_range] at hi
    have e : (((List.range n).map nm).map D.str).getD i .none = .str (nm i) := by simp [hi]
    rw [e]
    refine Ev.ite (t := decide (0 < du i)) (Tv.cmp (Ev.at 0 rfl) (Ev.at 1 rfl) (hinj i hi ▸ Bin.inStrs)) (fun h => ?_) fun h => ?_
    · rw [h]; exact Ev.str
    · rw [h]; exact Ev.str
  · rw [List.length_map, List.length_map, List.length_range, List.filter_eq_self.mpr (fun _ _ => rfl)]
    unfold ringW
    rw [List.map_map]; rfl
  -- turns
  have hsl : ∀ l u, (Txt.slice rg l u).length ≤ n := fun l u => by
    unfold Txt.slice
    split
    · exact Nat.le_of_eq hrl
    · show (List.toArray _).size ≤ n
      rw [List.size_toArray]
      exact Nat.le_trans (List.length_filterMap_le ..) (Nat.le_trans (sliceIndices_le _ _ _) (Nat.le_of_eq hrl))
  have hd3 : ("..." : Str).length = 3 := by decide +kernel
  have hap : ∀ x y : Str, (x ++ y).length = x.length + y.length := fun x y => Array.size_append
  have hrl' : rg.length ≤ 100000 := by omega
  show St ⟨G, N + 1, scopeAt 73, cd, [("ring", .str rg), ("size", .int n), ("due", .list (duL n du)), ("names", .list (((List.range n).map nm).map .str)), ("row", row), ("words", .list (((suppOf n du).map nm).map .str)), ("lines", lines)], σ⟩ [] _ _
  refine St.c (St1.set 7 (d := .list (smL n du)) (Ev.eqL (Ev.comp1 [("ring", .str rg)] (m := n) (t := fun _ => true) (f := fun i => .bool (sameAt n du i)) (IterEx.range1 (n := n) (Ev.blt (by kernel_rfl) hrange rfl (by decide +kernel) (by decide +kernel)) (Ev.at 1 rfl) (by omega) (by decide +kernel)) (subK (by kernel_rfl)) (fun i hi σ => Tests.nil) (fun i hi _ σ => ?_) (by omega)) (by rw [filter_all]; exact List.map_map.symm)) ?_ (hs := by intro env h; cases env; cases h; rfl))
  · refine Ev.call (Ev.glob (by kernel_rfl) FE.ns (by decide +kernel)) (Evs.cons (Ev.bin (Ev.bin (Ev.sliceS (l := some i) (h := none) (Ev.at 1 rfl) (Ev.at (d := .int i) 0 rfl) trivial hrl') Ev.str (Bin.addS ?_)) (Ev.sliceS (l := none) (h := some i) (Ev.at 1 rfl) trivial (Ev.at (d := .int i) 0 rfl) hrl') (Bin.addS ?_)) (Evs.cons (Ev.at 1 rfl) Evs.nil)) (hE.call hM hlen (e1 i hi)) (keepF FE.keep)
    · have := hsl (some i) none; rw [hd3]; omega
    · have h1 := hsl (some i) none; have h2 := hsl none (some i); rw [hap, hd3]; omega
  -- same
  show St ⟨G, N + 1, scopeAt 73, cd, [("turns", .list (smL n du)), ("ring", .str rg), ("size", .int n), ("due", .list (duL n du)), ("names", .list (((List.range n).map nm).map .str)), ("row", row), ("words", .list (((suppOf n du).map nm).map .str)), ("lines", lines)], σ⟩ [] _ _
  have hn0 : (n : Int) ≠ 0 := by omega
  refine St.c (St1.set 8 (d := .list (smL n du)) (Ev.eqL (Ev.comp1 [("due", .list (duL n du)), ("size", .int n)] (m := n) (t := fun _ => true) (f := fun i => .bool (sameAt n du i)) (IterEx.range1 (n := n) (Ev.blt (by kernel_rfl) hrange rfl (by decide +kernel) (by decide +kernel)) (Ev.at 2 rfl) (by omega) (by decide +kernel)) (subK (by kernel_rfl)) (fun i hi σ => Tests.nil) (fun i hi _ σ => ?_) (by omega)) (by rw [filter_all]; exact List.map_map.symm)) ?_ (hs := by intro env h; cases env; cases h; rfl))
  · refine Ev.cmp (Ev.eqL (j := (List.range n).map fun j => .bool (decide (0 < du ((j + i) % n)))) (Ev.comp1 [("turn", .int i), ("due", .list (duL n du)), ("size", .int n)] (m := n) (t := fun _ => true) (f := fun j => .bool (decide (0 < du ((j + i) % n)))) (IterEx.range1 (n := n) (Ev.blt (by kernel_rfl) hrange rfl (by decide +kernel) (by decide +kernel)) (Ev.at 2 rfl) (by omega) (by decide +kernel)) (subK (by kernel_rfl)) (fun j hj σ => Tests.nil) (fun j hj _ σ => ?_) (by omega)) (by rw [filter_all]))
      (Ev.eqL (j := (List.range n).map fun j => .bool (decide (0 < du j))) (Ev.comp1 [] (m := (duL n du).length) (t := fun _ => true) (f := fun j => .bool (decide (0 < du j))) (IterEx.list (d := .none) (Ev.at 1 rfl) (by decide +kernel)) (fun _ q => absurd q List.not_mem_nil) (fun j hj σ => Tests.nil) (fun j hj _ σ => ?_) (by rw [List.length_map, List.length_range]; omega)) (by rw [filter_all, List.length_map, List.length_range])) Bin.eq_bools
    · have hm : (j + i) % n < n := Nat.mod_lt _ h1n
      refine Ev.cmp (Ev.sub (Ev.at 2 rfl) (Ev.eqI (j := ((j + i) % n : Nat)) (Ev.bin (Ev.bin (Ev.at 0 rfl) (Ev.at 1 rfl) Bin.add) (Ev.at 3 rfl) (Bin.mod hn0)) ?_) (Sub1.listN (LstAt.frozen _) (by omega) (duL_get hm))) Ev.int (Bin.gt' (decide_eq_decide.mpr (by omega)))
      rw [Int.fmod_eq_emod_of_nonneg _ (by omega), Int.natCast_emod, Int.natCast_add]
    · rw [List.length_map, List.length_range] at hj
      have e : (duL n du).getD j .none = .int (du j) := by simp [duL, hj]
      rw [e]
      exact Ev.cmp (Ev.at 0 rfl) Ev.int (Bin.gt' (decide_eq_decide.mpr (by omega)))
  -- the turns that would not do
  show St ⟨G, N + 1, scopeAt 73, cd, [("same", .list (smL n du)), ("turns", .list (smL n du)), ("ring", .str rg), ("size", .int n), ("due", .list (duL n du)), ("names", .list (((List.range n).map nm).map .str)), ("row", row), ("words", .list (((suppOf n du).map nm).map .str)), ("lines", lines)], σ⟩ [] _ _
  refine St.c (St1.ifs (b := false) (Tv.cmp (Ev.eqL (j := []) (Ev.comp1 [("turns", .list (smL n du)), ("same", .list (smL n du)), ("ring", .str rg)] (m := n) (t := fun _ => false) (f := fun i => .int i) (IterEx.range1 (n := n) (Ev.blt (by kernel_rfl) hrange rfl (by decide +kernel) (by decide +kernel)) (Ev.at 3 rfl) (by omega) (by decide +kernel)) (subK (by kernel_rfl)) (fun i hi σ => Tests.one (Tv.or2 (c := false) (d := false) ?_ fun _ => ?_)) (fun i hi h σ => nomatch h) (by omega)) ?_) (Ev.list Evs.nil (Nat.le_of_ble_eq_true rfl)) (Bin.ne_list (ds := []) rfl)) (fun q => nomatch q) fun _ => St.end_ ?_)
  · exact Tv.isNot (Ev.sub (Ev.at 1 rfl) (Ev.at (d := .int i) 0 rfl) (Sub1.listN (LstAt.frozen _) (by omega) (smL_get hi))) (Ev.sub (Ev.at 2 rfl) (Ev.at (d := .int i) 0 rfl) (Sub1.listN (LstAt.frozen _) (by omega) (smL_get hi))) (by simp)
  · refine Tv.isNot (Ev.call (Ev.glob (by kernel_rfl) FE.ns (by decide +kernel)) (Evs.cons (Ev.bin (Ev.bin (Ev.sliceS (l := none) (h := some (i + 1 : Nat)) (Ev.at 3 rfl) trivial (Ev.bin (Ev.at (d := .int i) 0 rfl) Ev.int Bin.add) hrl') Ev.str (Bin.addS ?_)) (Ev.sliceS (l := some i) (h := none) (Ev.at 3 rfl) (Ev.at (d := .int i) 0 rfl) trivial hrl') (Bin.addS ?_)) (Evs.cons (Ev.at 3 rfl) Evs.nil)) (hE.call hM hlen (e2 i hi)) (keepF FE.keep)) Ev.bool rfl
    · have := hsl none (some (i + 1 : Nat)); rw [hd3]; omega
    · have h1 := hsl (some i) none; have h2 := hsl none (some (i + 1 : Nat)); rw [hap, hd3]; omega
  · simp
  -- the ring in itself
  have hrr : (rg ++ rg).length ≤ 100000 := by rw [hap]; omega
  refine St.c (St1.ifs (b := false) (Tv.or2 (c := false) (d := false) ?_ fun _ => ?_) (fun q => nomatch q) fun _ => St.end_ ?_)
  · refine Tv.isNot (b := decide (((List.range n).map (sameAt n du)).count true > 1)) (Ev.call (Ev.glob (by kernel_rfl) FE.ns (by decide +kernel)) (Evs.cons (Ev.bin (Ev.bin Ev.str (Ev.at 2 rfl) (Bin.addS ?_)) Ev.str (Bin.addS ?_)) (Evs.cons (Ev.sliceT (l := some 1) (h := some (-1)) (Ev.bin (Ev.at 2 rfl) (Ev.at 2 rfl) (Bin.addS ?_)) Ev.int (Ev.un Ev.int Un.neg) hrr) Evs.nil)) (hE.call hM hlen e3) (keepF FE.keep))
      (Ev.cmp (Ev.meth (Ev.at 0 rfl) (Meth.count (LstAt.frozen _)) (Evs.cons Ev.bool Evs.nil) (Calls.countTrue (bs := (List.range n).map (sameAt n du)))) Ev.int (Bin.gt' (decide_eq_decide.mpr (by omega)))) (by simp)
    · rw [hd3]; omega
    · rw [hap, hd3]; omega
    · omega
  · refine Tv.isNot (Ev.call (Ev.glob (by kernel_rfl) FE.ns (by decide +kernel)) (Evs.cons (Ev.bin (Ev.bin (Ev.bin (Ev.bin Ev.str (Ev.at 2 rfl) (Bin.addS ?_)) Ev.str (Bin.addS ?_)) (Ev.at 2 rfl) (Bin.addS ?_)) Ev.str (Bin.addS ?_)) (Evs.cons (Ev.sliceT (l := some 1) (h := none) (Ev.bin (Ev.at 2 rfl) (Ev.at 2 rfl) (Bin.addS ?_)) Ev.int trivial hrr) Evs.nil)) (hE.call hM hlen e4) (keepF FE.keep)) Ev.bool rfl
    · rw [hd3]; omega
    · rw [hap, hd3]; omega
    · rw [hap, hap, hd3]; omega
    · rw [hap, hap, hap, hd3]; omega
    · omega
  · exact St.re _ hrest (subK (by kernel_rfl))
end
end Mine
end
section
local macro_rules | `(tactic| omega) => `(tactic| lia)
open PySem PySem.W PySem.Calls PyProof.Rows PySem.Builtin
namespace Mine

/-- a global that the text binds to a def -/
structure GFn (G : Gd) (name : Str) (a : Addr) : Prop where
  ns : nsIn G.K mainGlobals name = some (some (.ref a))
  keep : keepIn G.K (.ref a) = true
theorem FnAt.g {G : Gd} {i : Nat} {name : Str} {a : Addr} {cd : Value} {fd : FuncData} (F : FnAt G i name a cd fd) : GFn G name a := ⟨F.ns, F.keep⟩
/-- the number of the flags -/
def flagsOf (n w : Nat) (du : Nat → Nat) : Int := ((suppOf n du).map fun p => (2 : Int) ^ (w + p)).sum

section
variable {G : Gd} {N : Nat} {σ : Sig} {cd : Value}
set_option maxHeartbeats 2000000 in
theorem law_16 {aO aRd aN aP : Addr} {n w : Nat} {du : Nat → Nat} {nm : Nat → Str} {oc : List Int} {S : Str} {row lines : D} {Φ : Out → Prop} (gO : GFn G "_law_octets" aO) (gR : GFn G "_law_read" aRd) (gN : GFn G "_law_names" aN) (gP : GFn G "pretty_flags" aP)
    (hrange : nsIn G.K mainGlobals "range" = some none) (hsum : nsIn G.K mainGlobals "sum" = some none) (hn : n ≤ 16) (hw : w ≤ 40)
    (cO : Calls G N σ (.ref aO) [.int (flagsOf n w du)] (.list (oc.map .int))) (cR : Calls G N σ (.ref aRd) [.list (oc.map .int)] (.list [.int (flagsOf n w du)])) (cN : Calls G N σ (.ref aN) [.int w, .int n] (.list (((List.range n).map nm).map .str))) (cP : Calls G N σ (.ref aP) [.int (flagsOf n w du)] (.str S))
    (hS : Txt.split S ", " = (suppOf n du).map nm) (hS1 : S.length ≤ 100000) (hS2 : (Builtin.Str.partsBetween S (Builtin.Str.occurrences S ", " 0 S.length (S.length + 1)) (", " : Str).length).length ≤ 100000)
    (hrest : St ⟨G, N, scopeAt 73, cd, [("size", .int n), ("due", .list (duL n du)), ("names", .list (((List.range n).map nm).map .str)), ("row", row), ("words", .list (((suppOf n du).map nm).map .str)), ("lines", lines)], σ⟩ [] ((bodyAt 73).drop 22) Φ) :
    St ⟨G, N, scopeAt 73, cd, [("size", .int n), ("low", .int w), ("due", .list (duL n du)), ("counts", .list (duL n du)), ("row", row), ("lines", lines)], σ⟩ [] ((bodyAt 73).drop 16) Φ := by
  -- flags
  refine St.c (St1.set 6 (d := .int (flagsOf n w du)) (Ev.call (Ev.blt (by kernel_rfl) hsum rfl (by decide +kernel) (by decide +kernel)) (Evs.cons (Ev.eqL (j := ((suppOf n du).map fun p => (2 : Int) ^ (w + p)).map .int) (Ev.comp1 [("counts", .list (duL n du)), ("low", .int w)] (m := n) (t := fun p => decide ((0 : Nat) < du p)) (f := fun p => .int ((2 : Int) ^ (w + p))) (IterEx.range1 (n := n) (Ev.blt (by kernel_rfl) hrange rfl (by decide +kernel) (by decide +kernel)) (Ev.at 0 rfl) (by omega) (by decide +kernel)) (subK (by kernel_rfl))
    (fun i hi σ => Tests.one (Tv.cmp (Ev.sub (Ev.at 1 rfl) (Ev.at 0 rfl) (Sub1.listN (i := i) (LstAt.frozen _) (by omega) (duL_get hi))) Ev.int (Bin.gt' (decide_eq_decide.mpr (by omega))))) (fun i hi _ σ => ?_) (by omega)) ?_) Evs.nil) Calls.sum keepB) ?_)
  · refine Ev.eqI (Ev.bin Ev.int (Ev.bin (Ev.at 2 rfl) (Ev.at (d := .int i) 0 rfl) Bin.add) (Bin.pow (by omega) ?_)) ?_
    · rw [show Builtin.Int.intBits 2 = 2 by decide +kernel]; omega
    · congr 1
  · unfold suppOf; rw [List.map_map]; rfl
  -- read
  refine St.c (St1.set 7 (d := .list [.int (flagsOf n w du)]) (Ev.call (Ev.glob (by kernel_rfl) gR.ns (by decide +kernel)) (Evs.cons (Ev.call (Ev.glob (by kernel_rfl) gO.ns (by decide +kernel)) (Evs.cons (Ev.at 0 rfl) Evs.nil) cO (keepF gO.keep)) Evs.nil) cR (keepF gR.keep)) ?_)
  refine St.c (St1.ifs (b := false) (Tv.cmp (Ev.at 0 rfl) (Ev.list (Evs.cons (Ev.at 1 rfl) Evs.nil) (Nat.le_of_ble_eq_true rfl)) (Bin.ne_list (ds := [.int (flagsOf n w du)]) rfl)) (fun q => nomatch q) fun _ => St.end_ ?_)
  -- names
  refine St.c (St1.set 8 (d := .list (((List.range n).map nm).map .str)) (Ev.call (Ev.glob (by kernel_rfl) gN.ns (by decide +kernel)) (Evs.cons (Ev.at 3 rfl) (Evs.cons (Ev.at 2 rfl) Evs.nil)) cN (keepF gN.keep)) ?_)
  -- words
  refine St.c (St1.set 9 (d := .list (((suppOf n du).map nm).map .str)) (hS ▸ Ev.meth (Ev.call (Ev.glob (by kernel_rfl) gP.ns (by decide +kernel)) (Evs.cons (Ev.sub (Ev.at 1 rfl) Ev.int (Sub1.list (r := .int (flagsOf n w du)) (LstAt.frozen _) (by decide) (by decide) rfl)) Evs.nil) cP (keepF gP.keep)) Meth.split (Evs.cons Ev.str Evs.nil) (CallsNew.split1 (by decide +kernel) hS1 hS2).calls) ?_)
  refine St.c (St1.ifs (b := false) (Tv.cmp (Ev.at 0 rfl) (Ev.eqL (j := ((suppOf n du).map nm).map .str) (Ev.comp1 [("names", .list (((List.range n).map nm).map .str)), ("due", .list (duL n du))] (m := n) (t := fun p => decide ((0 : Nat) < du p)) (f := fun p => .str (nm p)) (IterEx.range1 (n := n) (Ev.blt (by kernel_rfl) hrange rfl (by decide +kernel) (by decide +kernel)) (Ev.at 4 rfl) (by omega) (by decide +kernel)) (subK (by kernel_rfl))
    (fun i hi σ => Tests.one (Tv.cmp (Ev.sub (Ev.at 2 rfl) (Ev.at 0 rfl) (Sub1.listN (i := i) (LstAt.frozen _) (by omega) (duL_get hi))) Ev.int (Bin.gt' (decide_eq_decide.mpr (by omega))))) (fun i hi _ σ => Ev.sub (Ev.at 1 rfl) (Ev.at 0 rfl) (Sub1.listN (i := i) (r := .str (nm i)) (LstAt.frozen _) (by omega) (by simp [hi]))) (by omega)) ?_) (Bin.ne_list (ds := ((suppOf n du).map nm).map .str) ?_)) (fun q => nomatch q) fun _ => St.end_ ?_)
  · unfold suppOf; rw [List.map_map]; rfl
  · exact plain_map fun _ => rfl
  · exact St.re _ hrest (subK (by kernel_rfl))
end
end Mine
end
section
local macro_rules | `(tactic| omega) => `(tactic| lia)
open PySem PySem.W PySem.Calls PyProof.Rows PySem.Builtin
namespace Mine

theorem bitAnd_nat (a b : Nat) : Builtin.bitAnd (a : Int) (b : Int) = ((a &&& b : Nat) : Int) := by
  unfold Builtin.bitAnd
  rw [decide_eq_true (Int.natCast_nonneg a), decide_eq_true (Int.natCast_nonneg b)]
  simp
theorem fdiv_pow (m i : Nat) : (m : Int).fdiv (2 ^ i) = ((m / 2 ^ i : Nat) : Int) := by
  rw [Int.fdiv_eq_ediv_of_nonneg _ (Int.le_of_lt (Int.pow_pos (by decide))), Int.natCast_ediv, Int.natCast_pow]; rfl
theorem bit_one (m i : Nat) : Builtin.bitAnd ((m : Int).fdiv (2 ^ i)) 1 = if m.testBit i then 1 else 0 := by
  rw [fdiv_pow, show (1 : Int) = ((1 : Nat) : Int) by rfl, bitAnd_nat, Nat.and_one_is_mod]
  rw [Nat.testBit_eq_decide_div_mod_eq]
  have := Nat.mod_two_eq_zero_or_one (m / 2 ^ i)
  rcases this with h | h <;> simp [h]
theorem bit_two (a b i j : Nat) : Builtin.bitAnd (Builtin.bitAnd ((a : Int).fdiv (2 ^ i)) ((b : Int).fdiv (2 ^ j))) 1 = if a.testBit i && b.testBit j then 1 else 0 := by
  rw [fdiv_pow, fdiv_pow, bitAnd_nat]
  have := bit_one ((a / 2 ^ i) &&& (b / 2 ^ j)) 0
  rw [show ((((a / 2 ^ i) &&& (b / 2 ^ j) : Nat) : Int)).fdiv (2 ^ 0) = (((a / 2 ^ i) &&& (b / 2 ^ j) : Nat) : Int) by rw [fdiv_pow]; simp] at this
  rw [this, Nat.testBit_and, Nat.testBit_div_two_pow, Nat.testBit_div_two_pow]; simp
/-- how often the place p comes -/
def duOf (n a b : Nat) (p : Nat) : Nat := ((List.range n).map fun i => if a.testBit i && b.testBit ((p + n - i) % n) then 1 else 0).sum
/-- the row, as it ought to be -/
def rowOf (n : Nat) (du : Nat → Nat) : List Int := (List.range n).flatMap fun p => List.replicate (du p) (256 - n + (p : Int))

section
variable {G : Gd} {N : Nat} {σ : Sig} {cd : Value}
set_option maxHeartbeats 2000000 in
theorem law_12 {aL aR : Addr} {n a b : Nat} {low lines : D} {Φ : Out → Prop} (hbL : SrchAt G 4 "bisect_left" aL) (hbR : SrchAt G 2 "bisect_right" aR) (hrange : nsIn G.K mainGlobals "range" = some none) (hsum : nsIn G.K mainGlobals "sum" = some none) (hlen : nsIn G.K mainGlobals "len" = some none) (hn : n ≤ 16) (h1n : 1 ≤ n)
    (hdu : ∀ p, duOf n a b p ≤ 16) (hR : (rowOf n (duOf n a b)).Pairwise (· ≤ ·)) (hRl : (rowOf n (duOf n a b)).length ≤ 1000) (hcnt : ∀ p, p < n → cntLe (rowOf n (duOf n a b)) (256 - n + p) = cntLt (rowOf n (duOf n a b)) (256 - n + p) + duOf n a b p)
    (hrest : St ⟨G, N + 1, scopeAt 73, cd, [("size", .int n), ("low", low), ("due", .list (duL n (duOf n a b))), ("counts", .list (duL n (duOf n a b))), ("row", .list ((rowOf n (duOf n a b)).map .int)), ("lines", lines)], σ⟩ [] ((bodyAt 73).drop 16) Φ) :
    St ⟨G, N + 1, scopeAt 73, cd, [("size", .int n), ("low", low), ("sets", .list [.int a, .int b]), ("row", .list ((rowOf n (duOf n a b)).map .int)), ("refusals", .list (List.replicate 8 (.str loMsg))), ("lines", lines)], σ⟩ [] ((bodyAt 73).drop 12) Φ := by
  have hn0 : (n : Int) ≠ 0 := by omega
  -- due
  refine St.c (St1.set 6 (d := .list (duL n (duOf n a b))) (Ev.eqL (Ev.comp1 [("sets", .list [.int a, .int b]), ("size", .int n)] (m := n) (t := fun _ => true) (f := fun p => .int (duOf n a b p)) (IterEx.range1 (n := n) (Ev.blt (by kernel_rfl) hrange rfl (by decide +kernel) (by decide +kernel)) (Ev.at 0 rfl) (by omega) (by decide +kernel)) (subK (by kernel_rfl)) (fun i hi σ => Tests.nil) (fun p hp _ σ => ?_) (by omega)) (by rw [filter_all])) ?_ (hs := by intro env h; cases env; cases h; rfl))
  · refine Ev.eqI (Ev.call (Ev.blt (by kernel_rfl) hsum rfl (by decide +kernel) (by decide +kernel)) (Evs.cons (Ev.eqL (j := ((List.range n).map fun i => if a.testBit i && b.testBit ((p + n - i) % n) then (1 : Int) else 0).map .int) (Ev.comp1 [("place", .int p), ("sets", .list [.int a, .int b]), ("size", .int n)] (m := n) (t := fun _ => true) (f := fun i => .int (if a.testBit i && b.testBit ((p + n - i) % n) then (1 : Int) else 0)) (IterEx.range1 (n := n) (Ev.blt (by kernel_rfl) hrange rfl (by decide +kernel) (by decide +kernel)) (Ev.at 2 rfl) (by omega) (by decide +kernel)) (subK (by kernel_rfl)) (fun i hi σ => Tests.nil) (fun i hi _ σ => ?_) (by omega)) (by rw [filter_all, List.map_map]; rfl)) Evs.nil) Calls.sum keepB) ?_
    · have hm : ((p : Int) - i).fmod n = (((p + n - i) % n : Nat) : Int) := by
        rw [Int.fmod_eq_emod_of_nonneg _ (by omega), Int.natCast_emod, ← Int.add_emod_right]
        congr 1; omega
      refine Ev.eqI (Ev.bin (Ev.bin (Ev.bin (Ev.sub (Ev.at 2 rfl) Ev.int (Sub1.list (r := .int a) (LstAt.frozen _) (by decide) (by decide) rfl)) (Ev.at (d := .int i) 0 rfl) (Bin.shr (by omega))) (Ev.bin (Ev.sub (Ev.at 2 rfl) Ev.int (Sub1.list (r := .int b) (LstAt.frozen _) (by decide) (by decide) rfl)) (Ev.eqI (Ev.bin (Ev.bin (Ev.at (d := .int p) 1 rfl) (Ev.at (d := .int i) 0 rfl) Bin.sub) (Ev.at 3 rfl) (Bin.mod hn0)) hm) (Bin.shr (by omega))) Bin.and) Ev.int Bin.and) ?_
      rw [Int.toNat_natCast, Int.toNat_natCast]
      exact bit_two a b i ((p + n - i) % n)
    · unfold duOf
      generalize List.range n = l
      induction l with
      | nil => rfl
      | cons i l ih =>
        rw [List.map_cons, List.sum_cons, List.map_cons, List.sum_cons, ih, Int.natCast_add]
        congr 1
        split <;> rfl
  generalize duOf n a b = du at *
  -- the row, the refusals
  have hrow : ((List.range n).flatMap fun i => (List.range (du i)).map fun _ => D.int (256 - n + (i : Int))) = (rowOf n du).map .int := by
    unfold rowOf
    rw [List.map_flatMap]
    congr 1
    funext i
    rw [List.map_replicate, List.map_const', List.length_range]
  have hR' : (rowOf n du).length ≤ 100000 := by omega
  refine St.c (St1.ifs (b := false) (Tv.or2 (c := false) (d := false) ?_ fun _ => ?_) (fun q => nomatch q) fun _ => St.end_ ?_)
  · refine Tv.cmp (Ev.at 4 rfl) (Ev.eqL (Ev.of_comp (CompWp.two (ρ := [("size", .int n), ("due", .list (duL n du))]) (n := n) (k := du) (f := fun i _ => .int (256 - n + (i : Int))) (by kernel_rfl) (IterEx.range1 (n := n) (Ev.blt (by kernel_rfl) hrange rfl (by decide +kernel) (by decide +kernel)) (Ev.at 1 rfl) (by omega) (by decide +kernel)) (by kernel_rfl)
      (subF (by kernel_rfl)) (notKeys (by kernel_rfl)) (fun i hi => notKeys (by kernel_rfl))
      (fun i hi σ => IterEx.range1 (n := du i) (Ev.blt (by kernel_rfl) hrange rfl (by decide +kernel) (by decide +kernel)) (Ev.sub (Ev.at 2 rfl) (Ev.at (d := .int i) 0 rfl) (Sub1.listN (i := i) (LstAt.frozen _) (by omega) (duL_get hi))) (by have := hdu i; omega) (by decide +kernel))
      (fun i hi j hj σ => Ev.bin (Ev.bin Ev.int (Ev.at 2 rfl) Bin.sub) (Ev.at 1 rfl) Bin.add) (by omega) (fun i hi => by have := hdu i; omega))) hrow) (Bin.ne_list ?_)
    exact plain_map fun _ => rfl
  · exact Tv.cmp (Ev.at 5 rfl) (Ev.eqL (j := List.replicate 8 (.str loMsg)) (Ev.bin (Ev.list (ds := [.str loMsg]) (Evs.cons Ev.str Evs.nil) (Nat.le_of_ble_eq_true rfl)) Ev.int (Bin.mulL (k := 8) rfl (by decide) (by decide) (by decide))) rfl) (Bin.ne_list (by decide +kernel))
  -- counts
  obtain ⟨cdL, fdL, FL, _⟩ := id hbL
  obtain ⟨cdR, fdR, FR, _⟩ := id hbR
  show St ⟨G, N + 1, scopeAt 73, cd, [("due", .list (duL n du)), ("size", .int n), ("low", low), ("sets", .list [.int a, .int b]), ("row", .list ((rowOf n du).map .int)), ("refusals", .list (List.replicate 8 (.str loMsg))), ("lines", lines)], σ⟩ [] _ _
  refine St.c (St1.set 7 (d := .list (duL n du)) (Ev.eqL (Ev.comp1 [("row", .list ((rowOf n du).map .int)), ("size", .int n)] (m := n) (t := fun _ => true) (f := fun p => .int (du p)) (IterEx.range1 (n := n) (Ev.blt (by kernel_rfl) hrange rfl (by decide +kernel) (by decide +kernel)) (Ev.at 1 rfl) (by omega) (by decide +kernel)) (subK (by kernel_rfl)) (fun i hi σ => Tests.nil) (fun p hp _ σ => ?_) (by omega)) (by rw [filter_all])) ?_ (hs := by intro env h; cases env; cases h; rfl))
  · have hc := hcnt p hp
    refine Ev.eqI (Ev.bin (Ev.call (Ev.glob (by kernel_rfl) FR.ns (by decide +kernel)) (Evs.cons (Ev.at 1 rfl) (Evs.cons (Ev.bin (Ev.bin Ev.int (Ev.at 2 rfl) Bin.sub) (Ev.at (d := .int p) 0 rfl) Bin.add) Evs.nil)) ((hbR.bisR hlen (lo := 0) (LstAt.frozen _) hR' hR (Nat.zero_le _) (Nat.le_add_left 1 N)).1 rfl) (keepF FR.keep))
      (Ev.call (Ev.glob (by kernel_rfl) FL.ns (by decide +kernel)) (Evs.cons (Ev.at 1 rfl) (Evs.cons (Ev.bin (Ev.bin Ev.int (Ev.at 2 rfl) Bin.sub) (Ev.at (d := .int p) 0 rfl) Bin.add) Evs.nil)) (hbL.bisL hlen (hi := cntLt (rowOf n du) (256 - n + p)) (LstAt.frozen _) hR' hR (Nat.le_refl _) cntLt_le (Nat.le_add_left 1 N)).1 (keepF FL.keep)) Bin.sub) (by omega)
  refine St.c (St1.ifs (b := false) (Tv.cmp (Ev.at 0 rfl) (Ev.at 1 rfl) (Bin.ne_list (ds := duL n du) (plain_map fun _ => rfl))) (fun q => nomatch q) fun _ => St.end_ ?_)
  exact St.re _ hrest (subK (by kernel_rfl))
end
end Mine
end
section
local macro_rules | `(tactic| omega) => `(tactic| lia)
open PySem PySem.W PySem.Calls PyProof.Rows PySem.Builtin
namespace Mine

section
variable {G : Gd} {N : Nat} {σ : Sig} {cd : Value}
theorem sg_ev {X : Cx} {neg : Nat → Bool} {order : Int} {q : Int × Int} {eo es1 es2 es3 : Expr} {p1 p2 p3 p4 : Pos} {k : Nat} (hneg : neg = negOf order) (h0 : 0 ≤ q.2) (ho : Ev X eo (.int order)) (h1 : Ev X es1 (.int q.2)) (h2 : Ev X es2 (.int q.2)) (h3 : Ev X es3 (.int q.2)) :
    Ev X (.IfExp (.BinOp (.BinOp eo .RShift es1 p1) .BitAnd (.Constant (.int 1) k p2) p3) (.UnaryOp .USub es2 p4) es3 pos) (.int (sgOf neg q).2) := by
  subst hneg
  refine Ev.ite (t := negOf order q.2.toNat) (Tv.val (Ev.bin (Ev.bin ho h1 (Bin.shr h0)) Ev.int Bin.and) rfl) (fun h => ?_) fun h => ?_
  · unfold sgOf; simp only [h, if_true]
    exact Ev.un h2 Un.neg
  · unfold sgOf; simp only [h]
    exact h3
theorem range_getD {α : Type} (l : List α) (a : α) : (List.range l.length).map (fun i => l.getD i a) = l := by
  apply List.ext_getElem (by simp)
  intro i h1 h2
  simp at h1; simp [h1]
theorem LstAt.first {σ : Sig} {a b : D} : LstAt σ (.list [a, b]) [a, b] := LstAt.frozen _
set_option maxHeartbeats 4000000 in
theorem law_7 {aL aR iL iR aS aSm aF : Addr} {cdF : Value} {fdS fdF : FuncData} {n o : Nat} {A B R : List Int} {low sets : D} {Φ : Out → Prop} (hbL : SrchAt G 4 "bisect_left" aL) (hbR : SrchAt G 2 "bisect_right" aR) (hiL : SrchAt G 3 "insort_left" iL) (hiR : SrchAt G 1 "insort_right" iR)
    (FS : FnAt G 71 "_law_shelf" aS (.ref G.C) fdS) (bS : ∀ d1 d2, BindAs G fdS [] ["lines", "order"] [d1, d2] [d1, d2]) (gSm : GFn G "_law_sums" aSm) (cSm : Calls G (N + 4) σ (.ref aSm) [.list [.list (A.map .int), .list (B.map .int)], .int n, .int o] (.list (R.map .int)))
    (FF : FnAt G 70 "_law_refused" aF cdF fdF) (bF : ∀ d1 d2 d3, BindAs G fdF [] ["search", "row", "low"] [d1, d2, d3] [d1, d2, d3])
    (hsorted : nsIn G.K mainGlobals "sorted" = some none) (hlen : nsIn G.K mainGlobals "len" = some none) (hen : nsIn G.K mainGlobals "enumerate" = some none) (hVE : nsIn G.K mainGlobals "ValueError" = some none) (hstr : nsIn G.K mainGlobals "str" = some none)
    (hA : 1 ≤ A.length ∧ A.length ≤ 16 ∧ A.Nodup) (hB : 1 ≤ B.length ∧ B.length ≤ 16 ∧ B.Nodup)
    (hrest : St ⟨G, N + 4, scopeAt 73, cd, [("size", .int n), ("low", low), ("sets", sets), ("row", .list (R.map .int)), ("refusals", .list (List.replicate 8 (.str loMsg))), ("lines", .list [.list (A.map .int), .list (B.map .int)])], σ⟩ [] ((bodyAt 73).drop 12) Φ) :
    St ⟨G, N + 4, scopeAt 73, cd, [("size", .int n), ("order", .int o), ("low", low), ("sets", sets), ("lines", .list [.list (A.map .int), .list (B.map .int)])], σ⟩ [] ((bodyAt 73).drop 7) Φ := by
  -- trio
  refine St.c (St1.set 5 (d := .list [.list (A.map .int), .list (B.map .int), .list (A.map .int)]) (Ev.bin (Ev.at 4 rfl) (Ev.sliceL (l := none) (h := some 1) (r := [.list (A.map .int)]) (Ev.at 4 rfl) (LstAt.frozen _) trivial Ev.int (Nat.le_of_ble_eq_true rfl) ?_) (Bin.addL (ds := [.list (A.map .int), .list (B.map .int)]) (es := [.list (A.map .int)]) (Nat.le_of_ble_eq_true rfl))) ?_)
  · intro W h vs r
    obtain ⟨_, _, rfl, r1, _⟩ := r.twoI
    rw [show slicePick _ none (some 1) none = _ from slicePick_upto _ 1 (by simp)]
    simpa using Reps.one r1
  have hT : [D.list (A.map .int), .list (B.map .int), .list (A.map .int)] = [A, B, A].map fun l => D.list (l.map .int) := rfl
  rw [hT]
  have hTl : ([A, B, A] : List (List Int)).length = 3 := rfl
  -- shelf
  have cS : CallsM G (N + 4) σ [] (.ref aS) [.list ([A, B, A].map fun l => .list (l.map .int)), .int o] [] (fun d σ' => (∃ ps : List (Int × Int), d = .list (ps.map pairD) ∧ (ps.map (sgOf (negOf o))).Pairwise pairLt ∧ ps.Perm (sidesOf [A, B, A] 3)) ∧ σ' = σ) :=
    CallsM.of_body FS.K (bS _ _ σ) (by kernel_rfl) (by decide +kernel) (by intro y hy; simp only [List.mem_cons, List.not_mem_nil, or_false] at hy; rcases hy with rfl | rfl <;> decide +kernel) rfl (St.mono (shelf_body (Ls := [A, B, A]) hbL hbR hiL hiR hlen hen (Nat.le_of_ble_eq_true rfl) (by
      intro l hl
      simp only [List.mem_cons, List.not_mem_nil, or_false] at hl
      rcases hl with rfl | rfl | rfl
      · exact ⟨by omega, hA.2.2⟩
      · exact ⟨by omega, hB.2.2⟩
      · exact ⟨by omega, hA.2.2⟩)) fun out ho => by cases out <;> first | exact ho | exact ho.elim)
  refine St.c (St1.assignM (ρ := [("trio", .list ([A, B, A].map fun l => .list (l.map .int))), ("size", .int n), ("order", .int o), ("low", low), ("sets", sets), ("lines", .list [.list (A.map .int), .list (B.map .int)])]) (EvM.call (n := 0) (Ev.glob (by kernel_rfl) FS.ns (by decide +kernel)) (Evs.cons (Ev.at 0 rfl) (Evs.cons (Ev.at 2 rfl) Evs.nil)) cS (fun _ q => absurd q List.not_mem_nil) (fun d σ' q b hb => by rw [q.2] at hb; exact hb) (keepF FS.keep)) (by kernel_rfl) (fun _ h => h) (ne_all (by kernel_rfl)) (by decide +kernel) ?_ (by intro _ _; rfl))
  rintro d σ' ⟨⟨ps, rfl, hps, hperm⟩, rfl⟩
  have hs0 : ∀ q ∈ ps, 0 ≤ q.2 := fun q hq => (sidesOf_lt q (hperm.mem_iff.mp hq)).1
  have hsl : (sidesOf [A, B, A] 3).length = A.length + B.length + A.length := by
    simp [sidesOf, List.range_succ]
    omega
  have hpl : ps.length = A.length + B.length + A.length := by rw [hperm.length_eq, hsl]
  -- the shelf is in order
  show St ⟨G, N + 4, scopeAt 73, cd, [("shelf", .list (ps.map pairD)), ("trio", .list ([A, B, A].map fun l => .list (l.map .int))), ("size", .int n), ("order", .int o), ("low", low), ("sets", sets), ("lines", .list [.list (A.map .int), .list (B.map .int)])], σ'⟩ [] _ _
  refine St.c (St1.ifs (b := false) (Tv.cmp (Ev.eqL (j := (ps.map (sgOf (negOf o))).map pairD) (Ev.comp1 [("order", .int o)] (m := ps.length) (t := fun _ => true) (f := fun i => pairD (sgOf (negOf o) (ps.getD i (0, 0)))) (IterEx.listTup (ks := [("place", _), ("side", _)]) (m := ps.length) (dss := fun i => [.int (ps.getD i (0, 0)).1, .int (ps.getD i (0, 0)).2]) (Ev.eqL (Ev.at 0 rfl) ?_) (fun _ _ => rfl) (by decide +kernel) (by intro k hk; simp only [List.mem_cons, List.not_mem_nil, or_false] at hk; rcases hk with rfl | rfl <;> decide +kernel)) (subK (by kernel_rfl)) (fun i hi σ => Tests.nil) (fun i hi _ σ => ?_) (by omega)) ?_)
    (Ev.call (Ev.blt (by kernel_rfl) hsorted rfl (by decide +kernel) (by decide +kernel)) (Evs.cons (Ev.eqL (j := ((sidesOf [A, B, A] 3).map (sgOf (negOf o))).map pairD) (Ev.of_comp (CompWp.two (keys1 := ["place"]) (ρ := [("order", .int o)]) (n := 3) (k := fun s => (([A, B, A].getD s []).map D.int).length) (bs1 := fun s j => [("place", (([A, B, A].getD s []).map D.int).getD j .none)]) (f := fun s j => pairD (sgOf (negOf o) (([A, B, A].getD s []).getD j 0, (s : Int)))) (by kernel_rfl)
      (IterEx.enum (k1 := ("side", _)) (k2 := ("line", _)) (d := .list ([A, B, A].map fun l => .list (l.map .int))) (ds := [A, B, A].map fun l => .list (l.map .int)) (Ev.blt (by kernel_rfl) hen rfl (by decide +kernel) (by decide +kernel)) (Ev.at 1 rfl) rfl (by decide +kernel) (by decide +kernel) (by decide +kernel)) (by kernel_rfl) (subF (by kernel_rfl)) (notKeys (by kernel_rfl)) (fun i hi => notKeys (by kernel_rfl))
      (fun i hi σ => ?_) (fun i hi j hj σ => ?_) (by decide) (fun i hi => ?_))) ?_) Evs.nil) (Calls.sortedPairs (ps := (sidesOf [A, B, A] 3).map (sgOf (negOf o))) (qs := ps.map (sgOf (negOf o))) ?_ ?_ (hperm.map _) hps) keepB) (Bin.ne_list ?_)) (fun q => nomatch q) fun _ => St.end_ ?_)
  · conv => lhs; rw [← range_getD ps (0, 0)]
    rw [List.map_map]; rfl
  · have hq : ps.getD i (0, 0) ∈ ps := by simp [List.getD_eq_getElem?_getD, hi]
    generalize ps.getD i (0, 0) = q at hq
    exact Ev.tup (Evs.cons (Ev.at 1 rfl) (Evs.cons (sg_ev rfl (hs0 q hq) (Ev.at 2 rfl) (Ev.at 0 rfl) (Ev.at 0 rfl) (Ev.at 0 rfl)) Evs.nil)) (Nat.le_of_ble_eq_true rfl)
  · rw [filter_all]
    conv => rhs; rw [← range_getD ps (0, 0)]
    rw [List.map_map, List.map_map]; rfl
  · have e : ([A, B, A].map fun l => D.list (l.map .int)).getD i .none = .list (([A, B, A].getD i []).map .int) := by
      rcases i with _ | _ | _ | i
      · rfl
      · rfl
      · rfl
      · omega
    rw [e]
    exact IterEx.list (d := .none) (Ev.at 0 rfl) (by decide +kernel)
  · rw [List.length_map] at hj
    have e : (([A, B, A].getD i []).map D.int).getD j .none = .int (([A, B, A].getD i []).getD j 0) := by
      generalize [A, B, A].getD i [] = l at hj
      simp [hj]
    rw [e]
    exact Ev.tup (Evs.cons (Ev.at 0 rfl) (Evs.cons (sg_ev (q := (_, (i : Int))) rfl (Int.natCast_nonneg i) (Ev.at 3 rfl) (Ev.at 2 rfl) (Ev.at 2 rfl) (Ev.at 2 rfl)) Evs.nil)) (Nat.le_of_ble_eq_true rfl)
  · rw [List.length_map]
    rcases i with _ | _ | _ | i
    · show A.length ≤ 900; omega
    · show B.length ≤ 900; omega
    · show A.length ≤ 900; omega
    · omega
  · unfold sidesOf
    rw [List.map_flatMap, List.map_flatMap]
    congr 1
    funext i
    rw [List.length_map]
    generalize [A, B, A].getD i [] = l
    conv => rhs; rw [← range_getD l 0]
    rw [List.map_map, List.map_map, List.map_map]; rfl
  · rw [List.length_map, hsl]; omega
  · rw [List.length_map, hsl]; omega
  · exact plain_map fun _ => rfl
  -- the row, the refusals
  refine St.c (St1.set 7 (d := .list (R.map .int)) (Ev.call (Ev.glob (by kernel_rfl) gSm.ns (by decide +kernel)) (Evs.cons (Ev.at 6 rfl) (Evs.cons (Ev.at 2 rfl) (Evs.cons (Ev.at 3 rfl) Evs.nil))) cSm (keepF gSm.keep)) ?_ (hs := by intro _ _; rfl))
  obtain ⟨cdL, fdL, FL, _⟩ := id hbL
  obtain ⟨cdR, fdR, FR, _⟩ := id hbR
  obtain ⟨cdiL, fdiL, FiL, _⟩ := id hiL
  obtain ⟨cdiR, fdiR, FiR, _⟩ := id hiR
  have cF : ∀ i, i < 4 → ∀ j, j < 2 → ∀ σ, ∃ f, [D.fn (.ref aL), .fn (.ref aR), .fn (.ref iL), .fn (.ref iR)].getD i .none = .fn (.ref f) ∧ ∃ low : Int, [D.int (-1), .int (-2 - o)].getD j .none = .int low ∧ Calls G (N + 4) σ (.ref aF) [.fn (.ref f), .list (R.map .int), .int low] (.str loMsg) := by
    intro i hi j hj σ
    have hlow : ∃ low : Int, [D.int (-1), .int (-2 - o)].getD j .none = .int low ∧ low < 0 := by
      rcases j with _ | _ | j
      · exact ⟨-1, rfl, by decide⟩
      · exact ⟨-2 - o, rfl, by omega⟩
      · omega
    obtain ⟨low, e, hl⟩ := hlow
    rcases i with _ | _ | _ | _ | i
    · exact ⟨aL, rfl, low, e, c_refused FF bF FL.keep hVE hstr (hbL.refL (n := N + 2) hVE hl).1⟩
    · exact ⟨aR, rfl, low, e, c_refused FF bF FR.keep hVE hstr (hbR.refR (n := N + 2) hVE hl).1⟩
    · exact ⟨iL, rfl, low, e, c_refused FF bF FiL.keep hVE hstr (hiL.refIL (n := N + 1) hbL hVE hl)⟩
    · exact ⟨iR, rfl, low, e, c_refused FF bF FiR.keep hVE hstr (hiR.refIR (n := N + 1) hbR hVE hl)⟩
    · omega
  show St ⟨G, N + 4, scopeAt 73, cd, [("row", .list (R.map .int)), ("shelf", .list (ps.map pairD)), ("trio", .list ([A, B, A].map fun l => .list (l.map .int))), ("size", .int n), ("order", .int o), ("low", low), ("sets", sets), ("lines", .list [.list (A.map .int), .list (B.map .int)])], σ'⟩ [] _ _
  refine St.c (St1.setComp 8 (CompWp.two (keys1 := ["below"]) (ρ := [("row", .list (R.map .int)), ("order", .int o)]) (n := 4) (k := fun _ => 2) (bs1 := fun _ j => [("below", [D.int (-1), .int (-2 - o)].getD j .none)]) (f := fun _ _ => .str loMsg) (by kernel_rfl)
    (IterEx.tup (ds := [D.fn (.ref aL), .fn (.ref aR), .fn (.ref iL), .fn (.ref iR)]) (Ev.tup (Evs.cons (Ev.glob (by kernel_rfl) FL.ns (by decide +kernel)) (Evs.cons (Ev.glob (by kernel_rfl) FR.ns (by decide +kernel)) (Evs.cons (Ev.glob (by kernel_rfl) FiL.ns (by decide +kernel)) (Evs.cons (Ev.glob (by kernel_rfl) FiR.ns (by decide +kernel)) Evs.nil)))) (Nat.le_of_ble_eq_true rfl)) (by decide +kernel)) (by kernel_rfl)
    (subF (by kernel_rfl)) (notKeys (by kernel_rfl)) (fun i hi => notKeys (by kernel_rfl))
    (fun i hi σ => IterEx.tup (ds := [D.int (-1), .int (-2 - o)]) (Ev.tup (Evs.cons (Ev.un Ev.int Un.neg) (Evs.cons (Ev.bin (Ev.un Ev.int Un.neg) (Ev.at 2 rfl) Bin.sub) Evs.nil)) (Nat.le_of_ble_eq_true rfl)) (by decide +kernel))
    (fun i hi j hj σ => ?_) (by decide) (fun i hi => by decide)) ?_)
  · obtain ⟨f, e1, low', e2, hc⟩ := cF i hi j hj σ
    rw [e1, e2]
    exact Ev.call (Ev.glob (by kernel_rfl) FF.ns (by decide +kernel)) (Evs.cons (Ev.at 1 rfl) (Evs.cons (Ev.at 2 rfl) (Evs.cons (Ev.at 0 rfl) Evs.nil))) hc (keepF FF.keep)
  · show St ⟨G, N + 4, scopeAt 73, cd, [("refusals", .list (List.replicate 8 (.str loMsg))), ("row", .list (R.map .int)), ("shelf", .list (ps.map pairD)), ("trio", .list ([A, B, A].map fun l => .list (l.map .int))), ("size", .int n), ("order", .int o), ("low", low), ("sets", sets), ("lines", .list [.list (A.map .int), .list (B.map .int)])], σ'⟩ [] _ _
    exact St.re _ hrest (subK (by kernel_rfl))
end
end Mine
end
section
local macro_rules | `(tactic| omega) => `(tactic| lia)
open PySem PySem.W PySem.Calls PyProof.Rows PySem.Builtin
namespace Mine

/-- the places of a set -/
def bitsOf (n m : Nat) : List Nat := (List.range n).filter fun i => m.testBit i
def plOf (n m : Nat) : List Int := (bitsOf n m).map fun i : Nat => (i : Int)

section
variable {X : Cx}
theorem Tv.bitC {e1 e2 : Expr} {k : Nat} {p1 p2 p3 : Pos} {m i : Nat} (h1 : Ev X e1 (.int m)) (h2 : Ev X e2 (.int i)) : Tv X (.BinOp (.BinOp e1 .RShift e2 p1) .BitAnd (.Constant (.int 1) k p2) p3) (m.testBit i) := by
  have h := Tv.val (Ev.bin (pos := p3) (Ev.bin (pos := p1) h1 h2 (Bin.shr (Int.natCast_nonneg i))) (Ev.int (i := 1) (k := k) (pos := p2)) Bin.and) rfl
  rw [Int.toNat_natCast, bit_one] at h
  have e : truthD (.int (if m.testBit i = true then 1 else 0)) = m.testBit i := by cases m.testBit i <;> rfl
  rwa [e] at h
end

section
variable {G : Gd} {N : Nat} {σ : Sig} {cd : Value}
set_option maxHeartbeats 4000000 in
theorem law_3 {aSg aT : Addr} {n b0 a b : Nat} {sg : Nat → Str} {signs : List Str} {DT : List (Str × PyData)} {low order : D} {Φ : Out → Prop} (gSg : GFn G "_law_signs" aSg) (cSg : Calls G N σ (.ref aSg) [] (.list (signs.map .str)))
    (hT : nsIn G.K mainGlobals "EXACT_TOKEN_TYPES" = some (some (.ref aT))) (TT : KTD.TabOf (fun d v => PyProof.V.Flat v d) G.s1.heap aT DT) (hrange : nsIn G.K mainGlobals "range" = some none) (hn : n ≤ 16) (hb0 : b0 ≤ 32)
    (hsg : ∀ i, i < 48 → signs[i]? = some (sg i)) (htok : ∀ i, i < 48 → KTD.datumAt (sg i) DT = some (.int (7 + (i : Nat))))
    (hj : ∀ m ∈ [a, b], JoinOk " " ((bitsOf n m).map fun p => sg (b0 + p)) = true) (hsp : ∀ m ∈ [a, b], Txt.split (Txt.join " " ((bitsOf n m).map fun p => sg (b0 + p))) " " = (bitsOf n m).map fun p => sg (b0 + p))
    (hs1 : ∀ m ∈ [a, b], (Txt.join " " ((bitsOf n m).map fun p => sg (b0 + p))).length ≤ 100000) (hs2 : ∀ m ∈ [a, b], (Builtin.Str.partsBetween (Txt.join " " ((bitsOf n m).map fun p => sg (b0 + p))) (Builtin.Str.occurrences (Txt.join " " ((bitsOf n m).map fun p => sg (b0 + p))) " " 0 (Txt.join " " ((bitsOf n m).map fun p => sg (b0 + p))).length ((Txt.join " " ((bitsOf n m).map fun p => sg (b0 + p))).length + 1)) (" " : Str).length).length ≤ 100000)
    (hrest : St ⟨G, N, scopeAt 73, cd, [("size", .int n), ("order", order), ("low", low), ("sets", .list [.int a, .int b]), ("lines", .list [.list ((plOf n a).map .int), .list ((plOf n b).map .int)])], σ⟩ [] ((bodyAt 73).drop 7) Φ) :
    St ⟨G, N, scopeAt 73, cd, [("size", .int n), ("base", .int b0), ("order", order), ("low", low), ("sets", .list [.int a, .int b])], σ⟩ [] ((bodyAt 73).drop 3) Φ := by
  have hbl : ∀ m, (bitsOf n m).length ≤ 16 := fun m => by
    have := List.length_filter_le (fun i => m.testBit i) (List.range n)
    rw [List.length_range] at this
    exact Nat.le_trans this hn
  have hbn : ∀ m, ∀ p ∈ bitsOf n m, p < n := fun m p hp => List.mem_range.mp (List.mem_filter.mp hp).1
  have hM : ([D.int a, .int b] : List D) = ([a, b] : List Nat).map fun m : Nat => D.int (m : Int) := rfl
  have hMl : ∀ i, i < 2 → ∃ m ∈ [a, b], ([a, b] : List Nat).getD i 0 = m ∧ (([a, b] : List Nat).map fun m : Nat => D.int (m : Int)).getD i .none = .int (m : Int) := fun i hi => by
    rcases i with _ | _ | i
    · exact ⟨a, .head _, rfl, rfl⟩
    · exact ⟨b, .tail _ (.head _), rfl, rfl⟩
    · omega
  -- signs
  refine St.c (St1.set 5 (d := .list (signs.map .str)) (Ev.call0 (Ev.glob (by kernel_rfl) gSg.ns (by decide +kernel)) cSg (keepF gSg.keep)) ?_ (hs := by intro _ _; rfl))
  -- texts
  refine St.c (St1.setComp 6 (comp1W [("signs", .list (signs.map .str)), ("size", .int n), ("base", .int b0)] (m := 2) (t := fun _ => true) (f := fun i => .str (Txt.join " " ((bitsOf n (([a, b] : List Nat).getD i 0)).map fun p => sg (b0 + p)))) (IterEx.list (d := .none) (ds := ([a, b] : List Nat).map fun m : Nat => D.int (m : Int)) (Ev.at 5 rfl) (by decide +kernel)) (subK (by kernel_rfl)) (fun i hi σ => Tests.nil) (fun i hi _ σ => ?_) (by decide)) ?_)
  · obtain ⟨m, hm, e1, e2⟩ := hMl i hi
    rw [e1, e2]
    refine Ev.meth Ev.str Meth.join (Evs.cons (Ev.eqL (j := ((bitsOf n m).map fun p => sg (b0 + p)).map .str) (Ev.comp1 [("number", .int m), ("signs", .list (signs.map .str)), ("base", .int b0)] (m := n) (t := fun p => m.testBit p) (f := fun p => .str (sg (b0 + p))) (IterEx.range1 (n := n) (Ev.blt (by kernel_rfl) hrange rfl (by decide +kernel) (by decide +kernel)) (Ev.at 2 rfl) (by omega) (by decide +kernel)) (subK (by kernel_rfl)) (fun p hp σ => Tests.one (Tv.bitC (Ev.at 1 rfl) (Ev.at 0 rfl))) (fun p hp _ σ => ?_) (by omega)) ?_) Evs.nil) (Calls.join (LstAt.frozen _) (hj m hm))
    · refine Ev.sub (Ev.at 2 rfl) (Ev.eqI (j := (b0 + p : Nat)) (Ev.bin (Ev.at 3 rfl) (Ev.at (d := .int p) 0 rfl) Bin.add) (Int.natCast_add ..).symm) (Sub1.listN (LstAt.frozen _) (by omega) ?_)
      rw [List.getElem?_map, hsg (b0 + p) (by omega)]; rfl
    · unfold bitsOf; rw [List.map_map]; rfl
  -- lines
  show St ⟨G, N, scopeAt 73, cd, [("texts", .list (([a, b] : List Nat).map fun m => .str (Txt.join " " ((bitsOf n m).map fun p => sg (b0 + p))))), ("signs", .list (signs.map .str)), ("size", .int n), ("base", .int b0), ("order", order), ("low", low), ("sets", .list [.int a, .int b])], σ⟩ [] _ _
  refine St.c (St1.setComp 7 (comp1W [("base", .int b0)] (m := 2) (t := fun _ => true) (f := fun i => .list ((plOf n (([a, b] : List Nat).getD i 0)).map .int)) (IterEx.list (d := .none) (ds := ([a, b] : List Nat).map fun m => D.str (Txt.join " " ((bitsOf n m).map fun p => sg (b0 + p)))) (Ev.at 0 rfl) (by decide +kernel)) (subK (by kernel_rfl)) (fun i hi σ => Tests.nil) (fun i hi _ σ => ?_) (by decide)) ?_)
  · obtain ⟨m, hm, e1, e2⟩ : ∃ m ∈ [a, b], ([a, b] : List Nat).getD i 0 = m ∧ (([a, b] : List Nat).map fun m => D.str (Txt.join " " ((bitsOf n m).map fun p => sg (b0 + p)))).getD i .none = .str (Txt.join " " ((bitsOf n m).map fun p => sg (b0 + p))) := by
      rcases i with _ | _ | i
      · exact ⟨a, .head _, rfl, rfl⟩
      · exact ⟨b, .tail _ (.head _), rfl, rfl⟩
      · omega
    rw [e1, e2]
    have hl := hbl m
    have hw : ∀ j, j < (bitsOf n m).length → (((bitsOf n m).map fun p => sg (b0 + p)).map D.str).getD j .none = .str (sg (b0 + (bitsOf n m).getD j 0)) := fun j hj => by simp [hj]
    refine Ev.eqL (Ev.comp1 [("base", .int b0)] (m := (((bitsOf n m).map fun p => sg (b0 + p)).map D.str).length) (t := fun _ => true) (f := fun j => .int ((bitsOf n m).getD j 0 : Nat)) (IterEx.list (d := .none) (ds := ((bitsOf n m).map fun p => sg (b0 + p)).map D.str) (Ev.eqL (Ev.meth (Ev.at 0 rfl) Meth.split (Evs.cons Ev.str Evs.nil) (CallsNew.split1 (by decide +kernel) (hs1 m hm) (hs2 m hm)).calls) (by rw [hsp m hm])) (by decide +kernel)) (subK (by kernel_rfl)) (fun i hi σ => Tests.nil) (fun j hj _ σ => ?_) (by rw [List.length_map, List.length_map]; omega)) ?_
    · rw [List.length_map, List.length_map] at hj
      rw [hw j hj]
      have hp : (bitsOf n m).getD j 0 < n := hbn m _ (by simp [List.getD_eq_getElem?_getD, hj])
      generalize (bitsOf n m).getD j 0 = p at hp
      exact Ev.eqI (Ev.bin (Ev.bin (Ev.sub (Ev.glob (by kernel_rfl) hT (by decide +kernel)) (Ev.at 0 rfl) (Sub1.text TT (htok (b0 + p) (by omega)))) Ev.int Bin.sub) (Ev.at 1 rfl) Bin.sub) (by omega)
    · rw [filter_all, List.length_map, List.length_map]
      unfold plOf
      conv => rhs; rw [← range_getD (bitsOf n m) 0]
      rw [List.map_map, List.map_map]; rfl
  -- the lines are the sets' places
  show St ⟨G, N, scopeAt 73, cd, [("lines", .list [.list ((plOf n a).map .int), .list ((plOf n b).map .int)]), ("texts", .list (([a, b] : List Nat).map fun m => .str (Txt.join " " ((bitsOf n m).map fun p => sg (b0 + p))))), ("signs", .list (signs.map .str)), ("size", .int n), ("base", .int b0), ("order", order), ("low", low), ("sets", .list [.int a, .int b])], σ⟩ [] _ _
  refine St.c (St1.ifs (b := false) (Tv.cmp (Ev.at 0 rfl) (Ev.eqL (j := [.list ((plOf n a).map .int), .list ((plOf n b).map .int)]) (Ev.comp1 [("size", .int n)] (m := 2) (t := fun _ => true) (f := fun i => .list ((plOf n (([a, b] : List Nat).getD i 0)).map .int)) (IterEx.list (d := .none) (ds := ([a, b] : List Nat).map fun m : Nat => D.int (m : Int)) (Ev.at 7 rfl) (by decide +kernel)) (subK (by kernel_rfl)) (fun i hi σ => Tests.nil) (fun i hi _ σ => ?_) (by decide)) rfl) (Bin.ne_list ?_)) (fun q => nomatch q) fun _ => St.end_ ?_)
  · obtain ⟨m, hm, e1, e2⟩ := hMl i hi
    rw [e1, e2]
    refine Ev.eqL (Ev.comp1 [("number", .int m)] (m := n) (t := fun p => m.testBit p) (f := fun p => .int (p : Nat)) (IterEx.range1 (n := n) (Ev.blt (by kernel_rfl) hrange rfl (by decide +kernel) (by decide +kernel)) (Ev.at 1 rfl) (by omega) (by decide +kernel)) (subK (by kernel_rfl)) (fun p hp σ => Tests.one (Tv.bitC (Ev.at 1 rfl) (Ev.at 0 rfl))) (fun p hp _ σ => Ev.at 0 rfl) (by omega)) ?_
    unfold plOf bitsOf
    rw [List.map_map]; rfl
  · exact plain_two (plain_map fun _ => rfl) (plain_map fun _ => rfl)
  · exact St.re _ hrest (subK (by kernel_rfl))
end
end Mine
end
section
local macro_rules | `(tactic| omega) => `(tactic| lia)
open PySem PySem.W PySem.Calls PyProof.Rows PySem.Builtin
namespace Mine

def pickI (ns : List Int) (l h st : Option Int) : List Int := (sliceRange (sliceBounds l h st ns.length).1 (sliceBounds l h st ns.length).2.1 (sliceBounds l h st ns.length).2.2).filterMap (ns[·]?)
theorem pickL_ints {ns : List Int} {l h st : Option Int} : pickL (ns.map .int) l h st = (pickI ns l h st).map .int := by
  unfold pickL pickI
  rw [List.length_map, List.map_filterMap]
  congr 1
  funext i
  rw [List.getElem?_map]
theorem pickI_le {ns : List Int} {l h st : Option Int} : (pickI ns l h st).length ≤ ns.length := by
  have hi : IntsAre (ns.map fun n => Value.int n 0) ns := by
    induction ns with
    | nil => exact .nil
    | cons n ns ih => exact .cons n 0 ih
  exact length_pickNums_le hi l h st
def seedOf (i : Nat) : Int := [2443, 306, 272, 45].getD i 0
def numOf4 (sc : List Int) (i : Nat) : Int := seedOf i + ((pickI sc (some i) (some 60) (some 4)).map fun x => x.fmod (10 ^ 6)).sum
theorem sum_nonneg' : ∀ l : List Int, (∀ x ∈ l, 0 ≤ x) → 0 ≤ l.sum
  | [], _ => Int.le_refl _
  | a :: l, h => by
    rw [List.sum_cons]
    have := h a (.head _)
    have := sum_nonneg' l fun x hx => h x (.tail _ hx)
    omega
theorem numOf4_nonneg (sc : List Int) (i : Nat) (hi : i < 4) : 0 ≤ numOf4 sc i := by
  unfold numOf4
  have h1 : 0 ≤ seedOf i := by
    rcases i with _ | _ | _ | _ | i
    · decide
    · decide
    · decide
    · decide
    · omega
  have h2 := sum_nonneg' ((pickI sc (some i) (some 60) (some 4)).map fun x => x.fmod (10 ^ 6)) fun x hx => by
    obtain ⟨y, _, rfl⟩ := List.mem_map.mp hx
    exact Int.fmod_nonneg_of_pos _ (by decide)
  omega

theorem sets_ev {X : Cx} {e1 e2 : Expr} {k1 k2 k3 q n : Nat} {p1 p2 p3 p4 p5 p6 p7 : Pos} (h1 : Ev X e1 (.int q)) (h2 : Ev X e2 (.int n)) (hn1 : 1 ≤ n) (hn : n ≤ 16) :
    Ev X (.BinOp (.Constant (.int 1) k1 p1) .Add (.BinOp e1 .Mod (.BinOp (.BinOp (.Constant (.int 2) k2 p2) .Pow e2 p3) .Sub (.Constant (.int 1) k3 p4) p5) p6) p7) (.int (1 + q % (2 ^ n - 1) : Nat)) := by
  have h2n : 2 ≤ 2 ^ n := by
    have : 2 ^ 1 ≤ 2 ^ n := Nat.pow_le_pow_right (by decide) hn1
    omega
  have e : ((2 : Int) ^ (n : Int).toNat - 1) = ((2 ^ n - 1 : Nat) : Int) := by
    rw [Int.toNat_natCast, Int.natCast_sub (by omega), Int.natCast_pow]; rfl
  refine Ev.eqI (Ev.bin Ev.int (Ev.bin h1 (Ev.eqI (Ev.bin (Ev.bin Ev.int h2 (Bin.pow (by omega) ?_)) Ev.int Bin.sub) e) (Bin.mod (by omega))) Bin.add) ?_
  · rw [show Builtin.Int.intBits 2 = 2 by decide +kernel]; omega
  · rw [Int.fmod_eq_emod_of_nonneg _ (Int.natCast_nonneg _), Int.natCast_add, Int.natCast_emod]; rfl
section
variable {G : Gd} {N : Nat} {σ : Sig} {cd : Value}
set_option maxHeartbeats 4000000 in
theorem law_0 {sc : List Int} {Φ : Out → Prop} (hen : nsIn G.K mainGlobals "enumerate" = some none) (hsum : nsIn G.K mainGlobals "sum" = some none) (hsc : sc.length ≤ 1000)
    (hrest : ∀ P L R O : Nat, St ⟨G, N, scopeAt 73, cd, [("size", .int (1 + P % 16 : Nat)), ("base", .int (P / 16 % 33 : Nat)), ("order", .int O), ("low", .int (P / 528 % 18 : Nat)), ("sets", .list [.int (1 + L % (2 ^ (1 + P % 16) - 1) : Nat), .int (1 + R % (2 ^ (1 + P % 16) - 1) : Nat)])], σ⟩ [] ((bodyAt 73).drop 3) Φ) :
    St ⟨G, N, scopeAt 73, cd, [("script", .list (sc.map .int))], σ⟩ [] (bodyAt 73) Φ := by
  refine St.c (St1.assignTup (X := ⟨G, N, scopeAt 73, cd, [("script", .list (sc.map .int))], σ⟩) (ks := [("pick", _), ("left", _), ("right", _), ("order", _)]) (ds := [.int (numOf4 sc 0), .int (numOf4 sc 1), .int (numOf4 sc 2), .int (numOf4 sc 3)]) (ρ := []) (Ev.comp1 [("script", .list (sc.map .int))] (m := 4) (t := fun _ => true) (f := fun i => .int (numOf4 sc i)) (IterEx.enum (k1 := ("place", _)) (k2 := ("first", _)) (d := .tup [.int 2443, .int 306, .int 272, .int 45]) (ds := [.int 2443, .int 306, .int 272, .int 45]) (Ev.blt (by kernel_rfl) hen rfl (by decide +kernel) (by decide +kernel)) (Ev.tup (Evs.cons Ev.int (Evs.cons Ev.int (Evs.cons Ev.int (Evs.cons Ev.int Evs.nil)))) (Nat.le_of_ble_eq_true rfl)) rfl (by decide +kernel) (by decide +kernel) (by decide +kernel)) (fun _ h => h) (fun i hi σ => Tests.nil) (fun i hi _ σ => ?_) (by decide)) rfl rfl (by kernel_rfl) (by decide +kernel) ?_ (fun _ h => absurd h List.not_mem_nil) (fun _ h => absurd h List.not_mem_nil) ?_ (by intro _ _; rfl) (by intro _ _; rfl))
  · have e : [D.int 2443, .int 306, .int 272, .int 45].getD i .none = .int (seedOf i) := by
      rcases i with _ | _ | _ | _ | i
      · rfl
      · rfl
      · rfl
      · rfl
      · omega
    rw [e]
    have hpl : (pickI sc (some i) (some 60) (some 4)).length ≤ 1000 := Nat.le_trans pickI_le hsc
    refine Ev.bin (Ev.at 0 rfl) (Ev.call (Ev.blt (by kernel_rfl) hsum rfl (by decide +kernel) (by decide +kernel)) (Evs.cons (Ev.eqL (j := ((pickI sc (some i) (some 60) (some 4)).map fun x => x.fmod (10 ^ 6)).map .int) (Ev.comp1 [] (m := ((pickI sc (some i) (some 60) (some 4)).map D.int).length) (t := fun _ => true) (f := fun j => .int (((pickI sc (some i) (some 60) (some 4)).getD j 0).fmod (10 ^ 6))) (IterEx.list (d := .none) (Ev.eqL (Ev.sliceL3 (l := some i) (h := some 60) (Ev.at 2 rfl) (Ev.at (d := .int i) 1 rfl) Ev.int Ev.int (by decide) (by rw [List.length_map]; omega)) pickL_ints) (by decide +kernel)) (fun _ h => absurd h List.not_mem_nil) (fun j hj σ => Tests.nil) (fun j hj _ σ => ?_) (by rw [List.length_map]; omega)) ?_) Evs.nil) Calls.sum keepB) Bin.add
    · rw [List.length_map] at hj
      have e : ((pickI sc (some i) (some 60) (some 4)).map D.int).getD j .none = .int ((pickI sc (some i) (some 60) (some 4)).getD j 0) := by simp [hj]
      rw [e]
      refine Ev.bin (Ev.at 0 rfl) (Ev.bin Ev.int Ev.int (Bin.pow (by decide) ?_)) (Bin.mod (by decide))
      rw [show Builtin.Int.intBits 10 = 4 by decide +kernel]; decide
    · rw [filter_all, List.length_map]
      conv => rhs; rw [← range_getD (pickI sc (some i) (some 60) (some 4)) 0]
      rw [List.map_map, List.map_map]; rfl
  · intro k hk
    simp only [List.mem_cons, List.not_mem_nil, or_false] at hk
    rcases hk with rfl | rfl | rfl | rfl <;> decide +kernel
  · obtain ⟨P, hP⟩ := Int.eq_ofNat_of_zero_le (numOf4_nonneg sc 0 (by decide))
    obtain ⟨L, hL⟩ := Int.eq_ofNat_of_zero_le (numOf4_nonneg sc 1 (by decide))
    obtain ⟨R, hR⟩ := Int.eq_ofNat_of_zero_le (numOf4_nonneg sc 2 (by decide))
    obtain ⟨O, hO⟩ := Int.eq_ofNat_of_zero_le (numOf4_nonneg sc 3 (by decide))
    rw [hP, hL, hR, hO]
    show St ⟨G, N, scopeAt 73, cd, [("order", .int O), ("right", .int R), ("left", .int L), ("pick", .int P)], σ⟩ [] _ _
    have hpy : ∀ i j : Int, j.natAbs < 1000 → Builtin.divisionGoesByPylong i j = false := fun i j h => PyProof.noPylong_small (by omega)
    have hfd : ∀ a b : Nat, (a : Int).fdiv (b : Int) = ((a / b : Nat) : Int) := fun a b => by rw [Int.fdiv_eq_ediv_of_nonneg _ (Int.natCast_nonneg b), Int.natCast_ediv]
    have hfm : ∀ a b : Nat, (a : Int).fmod (b : Int) = ((a % b : Nat) : Int) := fun a b => by rw [Int.fmod_eq_emod_of_nonneg _ (Int.natCast_nonneg b), Int.natCast_emod]
    refine St.c (St1.assignTup (X := ⟨G, N, scopeAt 73, cd, [("order", .int O), ("right", .int R), ("left", .int L), ("pick", .int P)], σ⟩) (ks := [("size", _), ("base", _), ("low", _)]) (ds := [.int (1 + P % 16 : Nat), .int (P / 16 % 33 : Nat), .int (P / 528 % 18 : Nat)]) (ρ := [("order", .int O), ("right", .int R), ("left", .int L), ("pick", .int P)])
      (Ev.tup (Evs.cons (Ev.eqI (Ev.bin Ev.int (Ev.bin (Ev.at 3 rfl) Ev.int (Bin.mod (by decide))) Bin.add) ?_) (Evs.cons (Ev.eqI (Ev.bin (Ev.bin (Ev.at 3 rfl) Ev.int (Bin.div (by decide) (hpy _ _ (by decide)))) Ev.int (Bin.mod (by decide))) ?_) (Evs.cons (Ev.eqI (Ev.bin (Ev.bin (Ev.at 3 rfl) Ev.int (Bin.div (by decide) (hpy _ _ (by decide)))) Ev.int (Bin.mod (by decide))) ?_) Evs.nil))) (Nat.le_of_ble_eq_true rfl)) rfl rfl (by kernel_rfl) (by decide +kernel) ?_ (fun _ h => h) (notKeys (by kernel_rfl)) ?_ (by intro _ _; rfl) (by intro env h; cases env; cases h; rfl))
    · rw [show (16 : Int) = ((16 : Nat) : Int) by rfl, hfm, Int.natCast_add]; rfl
    · rw [show (16 : Int) = ((16 : Nat) : Int) by rfl, hfd, show (33 : Int) = ((33 : Nat) : Int) by rfl, hfm]
    · rw [show (528 : Int) = ((528 : Nat) : Int) by rfl, hfd, show (18 : Int) = ((18 : Nat) : Int) by rfl, hfm]
    · intro k hk
      simp only [List.mem_cons, List.not_mem_nil, or_false] at hk
      rcases hk with rfl | rfl | rfl <;> decide +kernel
    · have hr := hrest P L R O
      have hn16 : 1 + P % 16 ≤ 16 := by omega
      have hn1 : 1 ≤ 1 + P % 16 := by omega
      generalize 1 + P % 16 = n at hr hn16 hn1
      generalize P / 16 % 33 = b0 at hr
      generalize P / 528 % 18 = w at hr
      show St ⟨G, N, scopeAt 73, cd, [("low", .int w), ("base", .int b0), ("size", .int n), ("order", .int O), ("right", .int R), ("left", .int L), ("pick", .int P)], σ⟩ [] _ _
      have h2n : 1 ≤ 2 ^ n - 1 := by
        have : 2 ^ 1 ≤ 2 ^ n := Nat.pow_le_pow_right (by decide) hn1
        omega
      refine St.c (St1.set 7 (d := .list [.int (1 + L % (2 ^ n - 1) : Nat), .int (1 + R % (2 ^ n - 1) : Nat)]) (Ev.list (Evs.cons (sets_ev (Ev.at 5 rfl) (Ev.at 2 rfl) hn1 hn16) (Evs.cons (sets_ev (Ev.at 4 rfl) (Ev.at 2 rfl) hn1 hn16) Evs.nil)) (Nat.le_of_ble_eq_true rfl)) ?_ (hs := by intro _ _; rfl))
      exact St.re _ hr (subK (by kernel_rfl))
end
end Mine
end
section
local macro_rules | `(tactic| omega) => `(tactic| lia)
open PySem PySem.W PySem.Calls PyProof.Rows PySem.Builtin
namespace Mine

/-! Kemperman and Scherk: sums in the numbers of a ring of n places. A set is a periodic test of integers. -/
section
variable {n : Nat}
def Per (n : Nat) (f : Int → Bool) : Prop := ∀ x, f (x + n) = f x
def card (n : Nat) (f : Int → Bool) : Nat := (List.range n).countP fun i : Nat => f (i : Int)
theorem Per.nat {f : Int → Bool} (h : Per n f) (x : Int) : ∀ k : Nat, f (x + (k : Int) * n) = f x
  | 0 => by simp
  | k + 1 => by
    have := h (x + (k : Int) * n)
    rw [Per.nat h x k] at this
    rw [← this]; congr 1; rw [Int.natCast_succ, Int.add_mul, Int.one_mul, Int.add_assoc]
theorem Per.int {f : Int → Bool} (h : Per n f) (x k : Int) : f (x + k * n) = f x := by
  rcases Int.eq_nat_or_neg k with ⟨m, rfl | rfl⟩
  · exact h.nat x m
  · have := h.nat (x + -(m : Int) * n) m
    rw [← this]; congr 1
    rw [Int.add_assoc, ← Int.add_mul, Int.add_left_neg, Int.zero_mul, Int.add_zero]
theorem Per.emod {f : Int → Bool} (h : Per n f) (x : Int) : f (x % n) = f x := by
  have := h.int (x % n) (x / n)
  rw [← this]; congr 1
  have := Int.emod_add_mul_ediv x n
  rw [Int.mul_comm]; omega
theorem Per.shift {f : Int → Bool} (h : Per n f) (t : Int) : Per n fun x => f (x + t) := fun x => by
  show f (x + n + t) = f (x + t)
  rw [show x + n + t = (x + t) + n by omega]; exact h _
theorem Per.or {f g : Int → Bool} (hf : Per n f) (hg : Per n g) : Per n fun x => f x || g x := fun x => by simp only [hf x, hg x]
theorem Per.and {f g : Int → Bool} (hf : Per n f) (hg : Per n g) : Per n fun x => f x && g x := fun x => by simp only [hf x, hg x]

theorem card_succ {f : Int → Bool} (h : Per n f) : card n (fun x => f (x + 1)) = card n f := by
  unfold card
  have e1 : (List.range (n + 1)).countP (fun i : Nat => f (i : Int)) = (List.range n).countP (fun i : Nat => f (i : Int)) + (if f (n : Int) then 1 else 0) := by
    rw [List.range_succ, List.countP_append, List.countP_singleton]
  have e2 : (List.range (n + 1)).countP (fun i : Nat => f (i : Int)) = (if f 0 then 1 else 0) + (List.range n).countP (fun i : Nat => f ((i : Int) + 1)) := by
    rw [List.range_succ_eq_map, List.countP_cons, List.countP_map, Nat.add_comm]
    rfl
  have e3 : f (n : Int) = f 0 := by have := h 0; rwa [Int.zero_add] at this
  rw [e3] at e1
  show (List.range n).countP (fun i : Nat => f ((i : Int) + 1)) = (List.range n).countP fun i : Nat => f (i : Int)
  omega
theorem card_shiftN {f : Int → Bool} (h : Per n f) : ∀ k : Nat, card n (fun x => f (x + (k : Int))) = card n f
  | 0 => by simp
  | k + 1 => by
    rw [← card_shiftN h k, ← card_succ (h.shift (k : Int))]
    congr 1
    funext x
    show f (x + ((k + 1 : Nat) : Int)) = f (x + 1 + k)
    congr 1; rw [Int.natCast_succ]; omega
theorem card_shift {f : Int → Bool} (h : Per n f) (t : Int) : card n (fun x => f (x + t)) = card n f := by
  rcases Int.eq_nat_or_neg t with ⟨m, rfl | rfl⟩
  · exact card_shiftN h m
  · rw [← card_shiftN (h.shift (-(m : Int))) m]
    congr 1
    funext x
    show f (x + m + -m) = f x
    congr 1; omega
theorem card_mono {f g : Int → Bool} (h : ∀ x, f x = true → g x = true) : card n f ≤ card n g := List.countP_mono_left fun i _ => h i
theorem card_split {f g : Int → Bool} : card n (fun x => f x || g x) + card n (fun x => f x && g x) = card n f + card n g := by
  unfold card
  induction List.range n with
  | nil => rfl
  | cons i l ih =>
    simp only [List.countP_cons] at ih ⊢
    cases f i <;> cases g i <;> simp <;> omega
theorem card_pos {f : Int → Bool} (h : Per n f) (hn : 1 ≤ n) {x : Int} (hx : f x = true) : 1 ≤ card n f := by
  refine List.countP_pos_iff.mpr ⟨(x % n).toNat, List.mem_range.mpr ?_, ?_⟩
  · have := Int.emod_lt_of_pos x (show (0 : Int) < n by omega)
    have := Int.emod_nonneg x (show (n : Int) ≠ 0 by omega)
    omega
  · have := Int.emod_nonneg x (show (n : Int) ≠ 0 by omega)
    rw [Int.toNat_of_nonneg this, h.emod]; exact hx
theorem card_lt {f g : Int → Bool} (hf : Per n f) (hg : Per n g) (hn : 1 ≤ n) (h : ∀ x, f x = true → g x = true) {x : Int} (hx : g x = true) (hx' : f x = false) : card n f < card n g := by
  have e : card n g = card n f + card n (fun x => g x && !f x) := by
    unfold card
    induction List.range n with
    | nil => rfl
    | cons i l ih =>
      simp only [List.countP_cons, ih]
      have := h (i : Int)
      cases hfi : f i <;> cases hgi : g i <;> simp [hfi, hgi] at this ⊢ <;> omega
  have : 1 ≤ card n (fun x => g x && !f x) := card_pos (x := x) (fun y => by simp only [hf y, hg y]) hn (by simp [hx, hx'])
  omega

/-- the set of sums -/
def Sums (n : Nat) (A B : Int → Bool) (x : Int) : Bool := (List.range n).any fun i => A (i : Int) && B (x - i)
theorem sums_iff {A B : Int → Bool} (hA : Per n A) (hB : Per n B) (hn : 1 ≤ n) {x : Int} : Sums n A B x = true ↔ ∃ a, A a = true ∧ B (x - a) = true := by
  unfold Sums
  rw [List.any_eq_true]
  constructor
  · rintro ⟨i, _, h⟩
    rw [Bool.and_eq_true] at h
    exact ⟨i, h.1, h.2⟩
  · rintro ⟨a, h1, h2⟩
    have hp := Int.emod_nonneg a (show (n : Int) ≠ 0 by omega)
    refine ⟨(a % n).toNat, List.mem_range.mpr ?_, ?_⟩
    · have := Int.emod_lt_of_pos a (show (0 : Int) < n by omega)
      omega
    · rw [Int.toNat_of_nonneg hp, hA.emod, h1, Bool.true_and]
      have := hB.int (x - a) (a / n)
      rw [h2] at this
      rw [← this]; congr 1
      have := Int.emod_add_mul_ediv a n
      rw [Int.mul_comm (a / n)]; omega
theorem per_sums {A B : Int → Bool} (hA : Per n A) (hB : Per n B) (hn : 1 ≤ n) : Per n (Sums n A B) := fun x => by
  unfold Sums
  congr 1
  funext i
  rw [show x + n - (i : Int) = (x - i) + n by omega, hB]

/-- Scherk: 0 in both sets, and 0 = 0 + 0 its only sum -/
theorem scherk (hn : 1 ≤ n) : ∀ (k : Nat) (A B : Int → Bool), Per n A → Per n B → card n B ≤ k → A 0 = true → B 0 = true → (∀ x, A x = true → B (-x) = true → x % n = 0) → card n A + card n B ≤ card n (Sums n A B) + 1
  | 0, A, B, hA, hB, hk, hA0, hB0, h0 => by
    have := card_pos hB hn hB0; omega
  | k + 1, A, B, hA, hB, hk, hA0, hB0, h0 => by
    by_cases hall : ∀ e, A e = true → ∀ b, B b = true → A (e + b) = true
    · -- then B is the nought alone
      have hAB : ∀ b, B b = true → b % n = 0 := by
        intro b hb
        -- A (k * b) for all k; so A (-b)
        have hm : ∀ m : Nat, A ((m : Int) * b) = true := by
          intro m
          induction m with
          | zero => simpa using hA0
          | succ m ih =>
            have := hall _ ih b hb
            rw [Int.natCast_succ, Int.add_mul, Int.one_mul]; exact this
        have hneg : A (-b) = true := by
          have h1 := hm (n - 1)
          have h2 := hA.int (-b) b
          rw [← h2]
          rw [show (-b + b * n : Int) = ((n - 1 : Nat) : Int) * b by
            rw [Int.natCast_sub hn, Int.sub_mul, Int.mul_comm b]; simp; omega]
          exact h1
        have := h0 (-b) hneg (by rw [Int.neg_neg]; exact hb)
        have h3 := Int.emod_emod_of_dvd
        have hd : (n : Int) ∣ -b := Int.dvd_of_emod_eq_zero this
        exact Int.emod_eq_zero_of_dvd (Int.dvd_neg.mp hd)
      have hB1 : card n B ≤ 1 := by
        have : card n B ≤ card n (fun x => decide (x % n = 0)) := card_mono fun x hx => decide_eq_true (hAB x hx)
        refine Nat.le_trans this ?_
        unfold card
        have e : (List.range n).countP (fun i : Nat => decide ((i : Int) % n = 0)) = (List.range n).countP (fun i : Nat => i == 0) := by
          refine List.countP_congr fun i hi => ?_
          have := List.mem_range.mp hi
          rw [Int.emod_eq_of_lt (by omega) (by omega)]
          simp
        rw [e]
        exact List.nodup_iff_count.mp (List.nodup_range (n := n)) 0
      have hAS : card n A ≤ card n (Sums n A B) := card_mono fun x hx => (sums_iff hA hB hn).mpr ⟨x, hx, by rw [Int.sub_self]; exact hB0⟩
      omega
    · -- the e-transform
      obtain ⟨e, he, b, hb, heb⟩ : ∃ e, A e = true ∧ ∃ b, B b = true ∧ A (e + b) = false := by
        rcases Classical.not_forall.mp hall with ⟨e, h1⟩
        rcases Classical.not_imp.mp h1 with ⟨he, h2⟩
        rcases Classical.not_forall.mp h2 with ⟨b, h3⟩
        rcases Classical.not_imp.mp h3 with ⟨hb, h4⟩
        exact ⟨e, he, b, hb, by simpa using h4⟩
      have hBe : Per n fun x => B (x + -e) := hB.shift (-e)
      have hAe : Per n fun x => A (x + e) := hA.shift e
      have hA' : Per n fun x => A x || B (x + -e) := hA.or hBe
      have hB' : Per n fun x => B x && A (x + e) := hB.and hAe
      have hlt : card n (fun x => B x && A (x + e)) < card n B := card_lt hB' hB hn (fun x h => by rw [Bool.and_eq_true] at h; exact h.1) hb (by rw [hb, Bool.true_and, Int.add_comm]; exact heb)
      have ih := scherk hn k (fun x => A x || B (x + -e)) (fun x => B x && A (x + e)) hA' hB' (by omega) (by simp [hA0]) (by simp [hB0, he]) (fun x hx hx' => by
        rw [Bool.and_eq_true] at hx'
        rw [Bool.or_eq_true] at hx
        rcases hx with hx | hx
        · exact h0 x hx hx'.1
        · -- x = e + b', - x = b''
          have h1 := h0 (-x + e) hx'.2 (by rw [show -(-x + e) = x + -e by omega]; exact hx)
          have hd : (n : Int) ∣ -x + e := Int.dvd_of_emod_eq_zero h1
          obtain ⟨c, hc⟩ := hd
          have hAx : A x = true := by
            have := hA.int x c
            rw [← this, show x + c * n = e by rw [Int.mul_comm]; omega]; exact he
          exact h0 x hAx hx'.1)
      have hsplit : card n (fun x => A x || B (x + -e)) + card n (fun x => B x && A (x + e)) = card n A + card n B := by
        have h1 := card_split (n := n) (f := A) (g := fun x => B (x + -e))
        have h2 := card_shift hB (-e)
        have h3 := card_shift (hA.and hBe) e
        have h4 : card n (fun x => A (x + e) && B (x + e + -e)) = card n (fun x => B x && A (x + e)) := by
          congr 1; funext x
          rw [show x + e + -e = x by omega, Bool.and_comm]
        rw [h4] at h3
        omega
      have hsub : card n (Sums n (fun x => A x || B (x + -e)) (fun x => B x && A (x + e))) ≤ card n (Sums n A B) := card_mono fun x hx => by
        obtain ⟨y, h1, h2⟩ := (sums_iff hA' hB' hn).mp hx
        rw [Bool.and_eq_true] at h2
        rw [Bool.or_eq_true] at h1
        rcases h1 with h1 | h1
        · exact (sums_iff hA hB hn).mpr ⟨y, h1, h2.1⟩
        · refine (sums_iff hA hB hn).mpr ⟨x - y + e, h2.2, ?_⟩
          rw [show x - (x - y + e) = y + -e by omega]; exact h1
      omega
end
end Mine
end
section
local macro_rules | `(tactic| omega) => `(tactic| lia)
open PySem PySem.W PySem.Calls PyProof.Rows PySem.Builtin
namespace Mine

section
variable {n : Nat}
theorem card_part {f g : Int → Bool} : card n f = card n (fun x => f x && g x) + card n (fun x => f x && !g x) := by
  unfold card
  induction List.range n with
  | nil => rfl
  | cons i l ih =>
    simp only [List.countP_cons] at ih ⊢
    cases f i <;> cases g i <;> simp <;> omega
/-- Kemperman: a sum c that comes r times -/
theorem kemperman (hn : 1 ≤ n) {A B : Int → Bool} (hA : Per n A) (hB : Per n B) {c : Int} (hc : Sums n A B c = true) : card n A + card n B ≤ card n (Sums n A B) + card n (fun x => A x && B (c - x)) := by
  obtain ⟨a0, ha, hb⟩ := (sums_iff hA hB hn).mp hc
  have hBc : Per n fun x => B (c - x) := fun x => by
    show B (c - (x + n)) = B (c - x)
    have := hB (c - (x + n))
    rw [← this]; congr 1; omega
  have hE : Per n fun x => decide ((x - a0) % (n : Int) = 0) := fun x => by
    show decide ((x + n - a0) % (n : Int) = 0) = decide ((x - a0) % (n : Int) = 0)
    rw [show x + n - a0 = (x - a0) + n by omega, Int.add_emod_right]
  have hA' : Per n fun x => A x && (!B (c - x) || decide ((x - a0) % (n : Int) = 0)) := fun x => by
    have h1 := hA x
    have h2 := hBc x
    have h3 := hE x
    simp only at h2 h3
    simp only [h1, h2, h3]
  have hs := scherk hn (card n fun x => B (x + (c - a0))) (fun x => A (x + a0) && (!B (c - (x + a0)) || decide ((x + a0 - a0) % (n : Int) = 0))) (fun x => B (x + (c - a0))) (hA'.shift a0) (hB.shift (c - a0)) (Nat.le_refl _) (by
    simp only [Int.zero_add, Int.sub_self, Int.zero_emod, decide_true, Bool.or_true, Bool.and_true]; exact ha) (by rw [Int.zero_add]; exact hb) (fun x hx hx' => by
    rw [Bool.and_eq_true, Bool.or_eq_true] at hx
    have e : c - (x + a0) = -x + (c - a0) := by omega
    rw [e, hx'] at hx
    rcases hx.2 with h | h
    · cases h
    · have := of_decide_eq_true h
      rwa [show x + a0 - a0 = x by omega] at this)
  have hcA := card_shift hA' a0
  have hcB := card_shift hB (c - a0)
  have hS : card n (Sums n (fun x => A (x + a0) && (!B (c - (x + a0)) || decide ((x + a0 - a0) % (n : Int) = 0))) (fun x => B (x + (c - a0)))) ≤ card n (Sums n A B) := by
    rw [← card_shift (per_sums hA hB hn) c]
    refine card_mono fun x hx => ?_
    obtain ⟨y, h1, h2⟩ := (sums_iff (hA'.shift a0) (hB.shift (c - a0)) hn).mp hx
    rw [Bool.and_eq_true] at h1
    refine (sums_iff hA hB hn).mpr ⟨y + a0, h1.1, ?_⟩
    rw [show x + c - (y + a0) = x - y + (c - a0) by omega]; exact h2
  -- how many were taken away
  have p1 := card_part (n := n) (f := A) (g := fun x => !B (c - x) || decide ((x - a0) % (n : Int) = 0))
  have p2 := card_part (n := n) (f := fun x => A x && B (c - x)) (g := fun x => decide ((x - a0) % (n : Int) = 0))
  have p3 : card n (fun x => A x && !(!B (c - x) || decide ((x - a0) % (n : Int) = 0))) = card n (fun x => (A x && B (c - x)) && !decide ((x - a0) % (n : Int) = 0)) := by
    congr 1; funext x
    cases A x <;> cases B (c - x) <;> cases decide ((x - a0) % (n : Int) = 0) <;> rfl
  have p4 : 1 ≤ card n (fun x => (A x && B (c - x)) && decide ((x - a0) % (n : Int) = 0)) := card_pos ((hA.and hBc).and hE) hn (x := a0) (by simp [ha, hb])
  skip
  omega

/-- the set that a number's figures tell -/
def setOf (n m : Nat) (x : Int) : Bool := m.testBit (x % n).toNat
theorem per_set {m : Nat} : Per n (setOf n m) := fun x => by unfold setOf; rw [Int.add_emod_right]
theorem setOf_nat {m i : Nat} (hi : i < n) : setOf n m (i : Int) = m.testBit i := by
  unfold setOf
  rw [Int.emod_eq_of_lt (by omega) (by omega), Int.toNat_natCast]
theorem countP_eq_filter {α : Type} {p : α → Bool} {l : List α} : l.countP p = (l.filter p).length := List.countP_eq_length_filter
end
end Mine
end
section
local macro_rules | `(tactic| omega) => `(tactic| lia)
open PySem PySem.W PySem.Calls PyProof.Rows PySem.Builtin
namespace Mine

theorem sum_ite_countP {α : Type} (P : α → Bool) : ∀ l : List α, (l.map fun i => if P i then 1 else 0).sum = l.countP P
  | [] => rfl
  | a :: l => by
    rw [List.map_cons, List.sum_cons, sum_ite_countP P l, List.countP_cons]
    cases P a <;> simp <;> omega
theorem min_of : ∀ l : List Nat, l ≠ [] → ∃ r ∈ l, ∀ x ∈ l, r ≤ x
  | [], h => absurd rfl h
  | [a], _ => ⟨a, .head _, fun x hx => by rw [List.mem_singleton.mp hx]; exact Nat.le_refl _⟩
  | a :: b :: l, _ => by
    obtain ⟨r, hr, hm⟩ := min_of (b :: l) (by simp)
    by_cases h : a ≤ r
    · exact ⟨a, .head _, fun x hx => by
        rcases List.mem_cons.mp hx with rfl | hx
        · exact Nat.le_refl _
        · exact Nat.le_trans h (hm x hx)⟩
    · exact ⟨r, .tail _ hr, fun x hx => by
        rcases List.mem_cons.mp hx with rfl | hx
        · omega
        · exact hm x hx⟩
theorem bit_below {n m : Nat} (h1 : 1 ≤ m) (h2 : m < 2 ^ n) : ∃ i, i < n ∧ m.testBit i = true := by
  obtain ⟨i, hi⟩ := Nat.exists_testBit_of_ne_zero (show m ≠ 0 by omega)
  refine ⟨i, ?_, hi⟩
  rcases Nat.lt_or_ge i n with h | h
  · exact h
  · have := Nat.ge_two_pow_of_testBit hi
    have : 2 ^ n ≤ 2 ^ i := Nat.pow_le_pow_right (by decide) h
    omega

section
variable {n a b : Nat}
theorem duOf_countP (p : Nat) : duOf n a b p = (List.range n).countP fun i => a.testBit i && b.testBit ((p + n - i) % n) := sum_ite_countP _ _
theorem duOf_le (p : Nat) : duOf n a b p ≤ n := by
  rw [duOf_countP]
  have := List.countP_le_length (p := fun i => a.testBit i && b.testBit ((p + n - i) % n)) (l := List.range n)
  rwa [List.length_range] at this
theorem set_back {p i : Nat} (hi : i < n) : setOf n b ((p : Int) - i) = b.testBit ((p + n - i) % n) := by
  unfold setOf
  congr 1
  have : ((p : Int) - i) % n = (((p + n - i) % n : Nat) : Int) := by
    rw [Int.natCast_emod, ← Int.add_emod_right]
    congr 1; omega
  rw [this, Int.toNat_natCast]
theorem duOf_card (p : Nat) : duOf n a b p = card n (fun x => setOf n a x && setOf n b ((p : Int) - x)) := by
  rw [duOf_countP]
  unfold card
  refine List.countP_congr fun i hi => ?_
  have hi := List.mem_range.mp hi
  show _ ↔ (setOf n a (i : Int) && setOf n b ((p : Int) - i)) = true
  rw [setOf_nat hi, set_back hi]
theorem duOf_pos (p : Nat) : 0 < duOf n a b p ↔ Sums n (setOf n a) (setOf n b) (p : Int) = true := by
  rw [duOf_card]
  unfold card Sums
  rw [List.countP_pos_iff, List.any_eq_true]
theorem supp_card : (suppOf n (duOf n a b)).length = card n (Sums n (setOf n a) (setOf n b)) := by
  unfold suppOf card
  rw [← List.countP_eq_length_filter]
  refine List.countP_congr fun i hi => ?_
  rw [decide_eq_true_eq]
  exact duOf_pos i
theorem pl_card (m : Nat) : (plOf n m).length = card n (setOf n m) := by
  unfold plOf bitsOf card
  rw [List.length_map, ← List.countP_eq_length_filter]
  refine List.countP_congr fun i hi => ?_
  rw [setOf_nat (List.mem_range.mp hi)]
/-- the places that came are no fewer than both sets' places less as often as the rarest came -/
theorem law_fin (hn : 1 ≤ n) {c : Nat} (hc : c ∈ suppOf n (duOf n a b)) : (plOf n a).length + (plOf n b).length ≤ (suppOf n (duOf n a b)).length + duOf n a b c := by
  have hc' := of_decide_eq_true (List.mem_filter.mp hc).2
  have := kemperman hn (per_set (m := a)) (per_set (m := b)) ((duOf_pos c).mp hc')
  rw [supp_card, pl_card, pl_card, duOf_card]
  exact this
theorem bits_ne (m : Nat) (h1 : 1 ≤ m) (h2 : m < 2 ^ n) : ∃ i, i ∈ bitsOf n m := by
  obtain ⟨i, hi, h⟩ := bit_below h1 h2
  exact ⟨i, List.mem_filter.mpr ⟨List.mem_range.mpr hi, h⟩⟩
theorem pl_ok (m : Nat) (hn : n ≤ 16) (h1 : 1 ≤ m) (h2 : m < 2 ^ n) : 1 ≤ (plOf n m).length ∧ (plOf n m).length ≤ 16 ∧ (plOf n m).Nodup := by
  unfold plOf
  rw [List.length_map]
  refine ⟨?_, ?_, ?_⟩
  · obtain ⟨i, hi⟩ := bits_ne m h1 h2
    exact List.length_pos_of_mem hi
  · have := List.length_filter_le (fun i => m.testBit i) (List.range n)
    rw [List.length_range] at this
    exact Nat.le_trans this hn
  · have : (bitsOf n m).Nodup := List.Pairwise.filter _ List.nodup_range
    rw [List.nodup_iff_pairwise_ne, List.pairwise_map]
    exact (List.nodup_iff_pairwise_ne.mp this).imp fun h q => h (by omega)
theorem supp_ne (hn : 1 ≤ n) (ha1 : 1 ≤ a) (ha : a < 2 ^ n) (hb1 : 1 ≤ b) (hb : b < 2 ^ n) : suppOf n (duOf n a b) ≠ [] := by
  obtain ⟨i, hi, h1⟩ := bit_below ha1 ha
  obtain ⟨j, hj, h2⟩ := bit_below hb1 hb
  intro q
  have hmem : (i + j) % n ∈ suppOf n (duOf n a b) := by
    refine List.mem_filter.mpr ⟨List.mem_range.mpr (Nat.mod_lt _ hn), ?_⟩
    rw [decide_eq_true_eq, duOf_pos]
    refine (sums_iff per_set per_set hn).mpr ⟨i, by rw [setOf_nat hi]; exact h1, ?_⟩
    have : setOf n b (((i + j) % n : Nat) - i) = setOf n b (j : Int) := by
      unfold setOf
      congr 2
      rw [Int.natCast_emod, Int.sub_emod, Int.emod_emod_of_dvd _ (Int.dvd_refl _), ← Int.sub_emod, Int.natCast_add]
      congr 1; omega
    rw [this, setOf_nat hj]; exact h2
  rw [q] at hmem
  exact absurd hmem List.not_mem_nil
end

section
variable {n : Nat} {du : Nat → Nat}
theorem row_sorted : (rowOf n du).Pairwise (· ≤ ·) := by
  unfold rowOf
  rw [List.pairwise_flatMap]
  refine ⟨fun p hp => List.pairwise_replicate.mpr (.inr (Int.le_refl _)), ?_⟩
  refine List.pairwise_lt_range.imp fun {p q} hpq x hx y hy => ?_
  rw [List.eq_of_mem_replicate hx, List.eq_of_mem_replicate hy]
  omega
theorem row_len (h : ∀ p, du p ≤ 16) (hn : n ≤ 16) : (rowOf n du).length ≤ 1000 := by
  have : ∀ m, ((List.range m).flatMap fun p => List.replicate (du p) (256 - n + (p : Int))).length ≤ m * 16 := by
    intro m
    induction m with
    | zero => simp
    | succ m ih =>
      rw [List.range_succ, List.flatMap_append, List.length_append, List.flatMap_singleton, List.length_replicate]
      have := h m; omega
  have := this n
  unfold rowOf; omega
theorem cnt_sum (P : Int → Bool) (m : Nat) : ((List.range m).flatMap fun p => List.replicate (du p) (256 - n + (p : Int))).countP P = ((List.range m).map fun p : Nat => if P (256 - n + (p : Int)) then du p else 0).sum := by
  induction m with
  | zero => rfl
  | succ m ih =>
    rw [List.range_succ, List.flatMap_append, List.countP_append, ih, List.flatMap_singleton, List.countP_replicate, List.map_append, List.sum_append]
    simp
theorem row_cnt (p : Nat) (hp : p < n) : cntLe (rowOf n du) (256 - n + p) = cntLt (rowOf n du) (256 - n + p) + du p := by
  unfold cntLe cntLt rowOf
  rw [cnt_sum, cnt_sum]
  have : ∀ m, ((List.range m).map fun q : Nat => if decide ((256 - n + (q : Int) : Int) ≤ 256 - n + p) then du q else 0).sum = ((List.range m).map fun q : Nat => if decide ((256 - n + (q : Int) : Int) < 256 - n + p) then du q else 0).sum + if p < m then du p else 0 := by
    intro m
    induction m with
    | zero => rfl
    | succ m ih =>
      rw [List.range_succ, List.map_append, List.map_append, List.sum_append, List.sum_append, ih]
      simp only [List.map_cons, List.map_nil, List.sum_cons, List.sum_nil, decide_eq_true_eq]
      by_cases h1 : m < p
      · rw [if_pos (show (256 - n + (m : Int) : Int) ≤ 256 - n + p by omega), if_pos (show (256 - n + (m : Int) : Int) < 256 - n + p by omega), if_neg (show ¬ p < m by omega), if_neg (show ¬ p < m + 1 by omega)]; omega
      · by_cases h2 : m = p
        · subst h2
          rw [if_pos (Int.le_refl _), if_neg (Int.lt_irrefl _), if_neg (Nat.lt_irrefl _), if_pos (Nat.lt_succ_self _)]; omega
        · rw [if_neg (show ¬ (256 - n + (m : Int) : Int) ≤ 256 - n + p by omega), if_neg (show ¬ (256 - n + (m : Int) : Int) < 256 - n + p by omega), if_pos (show p < m by omega), if_pos (show p < m + 1 by omega)]; omega
  rw [this n, if_pos hp]
end
end Mine
end
section
local macro_rules | `(tactic| omega) => `(tactic| lia)
open PySem PySem.W PySem.Calls PyProof.Rows PySem.Builtin PySem.Builtin.Str
namespace Mine

/-- the places where a text is found, as a fold -/
def occStep (s sub : Str) (hi limit : Nat) (st : Array Nat × Nat) (i : Nat) : Array Nat × Nat :=
  if ((st.1.size < limit ∧ st.2 ≤ i) ∧ i + sub.length ≤ hi) ∧ subAt s sub i = true then (st.1.push i, i + sub.length) else st
theorem occ_fold (s sub : Str) (lo hi limit : Nat) : occurrences s sub lo hi limit = ((List.range' lo (hi + 1 - lo)).foldl (occStep s sub hi limit) (#[], lo)).1.toList := by
  rw [StrLaws.occ_eq]
  have : ∀ (l : List Nat) (st : Array Nat × Nat), (forIn (m := Id) l st (StrLaws.occBody s sub hi limit)).run = l.foldl (occStep s sub hi limit) st := by
    intro l
    induction l with
    | nil => intro st; rfl
    | cons i l ih =>
      intro st
      rw [List.forIn_cons, List.foldl_cons]
      unfold StrLaws.occBody occStep
      split
      · exact ih _
      · exact ih _
  rw [this]
theorem fold_still {s sub : Str} {hi limit : Nat} (st : Array Nat × Nat) : ∀ l : List Nat, (∀ i ∈ l, st.2 ≤ i → i + sub.length ≤ hi → subAt s sub i = false) → l.foldl (occStep s sub hi limit) st = st
  | [], _ => rfl
  | i :: l, h => by
    rw [List.foldl_cons]
    have e : occStep s sub hi limit st i = st := by
      unfold occStep
      rw [if_neg]
      rintro ⟨⟨⟨_, h1⟩, h2⟩, h3⟩
      rw [h i (.head _) h1 h2] at h3; cases h3
    rw [e]
    exact fold_still st l fun j hj => h j (.tail _ hj)

/-- words with a separator between -/
def joinL (sep : List Nat) : List (List Nat) → List Nat
  | [] => []
  | w :: ws => w ++ ws.flatMap (fun p => sep ++ p)
def cutsOf (k : Nat) : Nat → List (List Nat) → List Nat
  | _, [] => []
  | _, [_] => []
  | a, w :: w2 :: ws => (a + w.length) :: cutsOf k (a + w.length + k) (w2 :: ws)
theorem joinL_cons2 {sep w w2 : List Nat} {ws : List (List Nat)} : joinL sep (w :: w2 :: ws) = w ++ (sep ++ joinL sep (w2 :: ws)) := by
  simp [joinL]

theorem subAt_iff (s sub : Str) (i : Nat) : subAt s sub i = true ↔ (s.cps.toList.drop i).take sub.length = sub.cps.toList := by
  rw [StrLaws.subAt_eq]; simp
theorem len_list (s : Str) : s.cps.toList.length = s.length := by simp [Str.length]

theorem occ_join {s sub : Str} {c : Nat} {rest : List Nat} (hsub : sub.cps.toList = c :: rest) (limit : Nat) (hlim : s.length < limit) : ∀ (ws : List (List Nat)) (a : Nat) (found : Array Nat) (free : Nat), ws ≠ [] → (∀ w ∈ ws, c ∉ w) → s.cps.toList.drop a = joinL sub.cps.toList ws → a ≤ s.length → free ≤ a → found.size ≤ a →
    ((List.range' a (s.length + 1 - a)).foldl (occStep s sub s.length limit) (found, free)).1.toList = found.toList ++ cutsOf sub.length a ws
  | [], _, _, _, h, _, _, _, _, _ => absurd rfl h
  | [w], a, found, free, _, hw, hd, ha, hf, hs => by
    rw [fold_still]
    · simp [cutsOf]
    · intro i hi _ hle
      have hi' : a ≤ i := by simp [List.mem_range'] at hi; omega
      cases h : subAt s sub i with
      | false => rfl
      | true =>
        exfalso
        rw [subAt_iff, hsub] at h
        have e : s.cps.toList.drop i = w.drop (i - a) := by
          have : s.cps.toList.drop i = (s.cps.toList.drop a).drop (i - a) := by rw [List.drop_drop]; congr 1; omega
          rw [this, hd]; simp [joinL]
        rw [e] at h
        have hm : c ∈ (w.drop (i - a)).take sub.length := by rw [h]; exact .head _
        exact hw w (.head _) (List.mem_of_mem_drop (List.mem_of_mem_take hm))
  | w :: w2 :: ws, a, found, free, _, hw, hd, ha, hf, hs => by
    have hk : sub.length = rest.length + 1 := by rw [← len_list, hsub]; rfl
    rw [joinL_cons2] at hd
    have hlen : s.length = a + w.length + sub.length + (joinL sub.cps.toList (w2 :: ws)).length := by
      have := congrArg List.length hd
      rw [List.length_drop, len_list, List.length_append, List.length_append, len_list] at this
      omega
    have hr : List.range' a (s.length + 1 - a) = List.range' a w.length ++ ((a + w.length) :: (List.range' (a + w.length + 1) rest.length ++ List.range' (a + w.length + sub.length) (s.length + 1 - (a + w.length + sub.length)))) := by
      rw [show s.length + 1 - a = w.length + (1 + (rest.length + (s.length + 1 - (a + w.length + sub.length)))) by omega, ← List.range'_append_1, ← List.range'_append_1, ← List.range'_append_1]
      congr 1
      show [a + w.length] ++ _ = _
      rw [List.singleton_append]
      congr 2
      congr 1; omega
    have hskip : ∀ i ∈ List.range' a w.length, free ≤ i → i + sub.length ≤ s.length → subAt s sub i = false := by
      intro i hi _ _
      have hi' : a ≤ i ∧ i < a + w.length := by simp [List.mem_range'] at hi; omega
      cases h : subAt s sub i with
      | false => rfl
      | true =>
        exfalso
        rw [subAt_iff, hsub] at h
        have e : s.cps.toList.drop i = (w ++ (sub.cps.toList ++ joinL sub.cps.toList (w2 :: ws))).drop (i - a) := by
          rw [← hd, List.drop_drop]; congr 1; omega
        rw [e, List.drop_append_of_le_length (by omega)] at h
        cases hx : w.drop (i - a) with
        | nil =>
          have := congrArg List.length hx
          rw [List.length_drop] at this
          simp at this; omega
        | cons y ys =>
          rw [hx, hk] at h
          have hy : y = c := by
            have := congrArg List.head? h
            simpa using this
          have : y ∈ w := List.mem_of_mem_drop (by rw [hx]; exact .head _)
          rw [hy] at this
          exact hw w (.head _) this
    have hat : subAt s sub (a + w.length) = true := by
      rw [subAt_iff]
      have : s.cps.toList.drop (a + w.length) = (s.cps.toList.drop a).drop w.length := by rw [List.drop_drop]
      rw [this, hd, List.drop_left, ← len_list sub, List.take_left]
    have e : occStep s sub s.length limit (found, free) (a + w.length) = (found.push (a + w.length), a + w.length + sub.length) := by
      unfold occStep
      rw [if_pos ⟨⟨⟨by show found.size < limit; omega, by show free ≤ _; omega⟩, by omega⟩, hat⟩]
    have hskip2 : ∀ i ∈ List.range' (a + w.length + 1) rest.length, a + w.length + sub.length ≤ i → i + sub.length ≤ s.length → subAt s sub i = false := by
      intro i hi h1 _
      simp [List.mem_range'] at hi
      omega
    have ih := occ_join hsub limit hlim (w2 :: ws) (a + w.length + sub.length) (found.push (a + w.length)) (a + w.length + sub.length) (by simp) (fun x hx => hw x (.tail _ hx)) (by
          have : s.cps.toList.drop (a + w.length + sub.length) = ((s.cps.toList.drop a).drop w.length).drop sub.length := by rw [List.drop_drop, List.drop_drop, Nat.add_assoc]
          rw [this, hd, List.drop_left, ← len_list sub, List.drop_left]) (by omega) (Nat.le_refl _) (by rw [Array.size_push]; omega)
    rw [hr, List.foldl_append, fold_still (found, free) _ hskip, List.foldl_cons, e, List.foldl_append, fold_still (found.push (a + w.length), a + w.length + sub.length) _ hskip2, ih, Array.toList_push]
    simp [cutsOf]
end Mine
end
section
local macro_rules | `(tactic| omega) => `(tactic| lia)
open PySem PySem.W PySem.Calls PyProof.Rows PySem.Builtin PySem.Builtin.Str
namespace Mine

abbrev Ls (x : Str) : List Nat := x.cps.toList
theorem str_ext {x y : Str} (h : Ls x = Ls y) : x = y := by
  obtain ⟨a⟩ := x
  obtain ⟨b⟩ := y
  exact congrArg Str.mk (Array.toList_inj.mp h)
theorem len_Ls (x : Str) : (Ls x).length = x.length := len_list x
theorem sub_Ls (s : Str) (i j : Nat) : Ls (strSub s i j) = ((Ls s).drop i).take (j - i) := by
  unfold Ls strSub
  rw [Array.toList_extract, List.extract_eq_take_drop]

theorem parts_at {s : Str} {sep : List Nat} : ∀ (ws : List Str) (a : Nat), ws ≠ [] → (Ls s).drop a = joinL sep (ws.map Ls) → a ≤ s.length →
    ((a :: (cutsOf sep.length a (ws.map Ls)).map (· + sep.length)).zip (cutsOf sep.length a (ws.map Ls) ++ [s.length])).map (fun p => strSub s p.1 p.2) = ws
  | [], _, h, _, _ => absurd rfl h
  | [w], a, _, hd, ha => by
    show [strSub s a s.length] = [w]
    congr 1
    refine str_ext ?_
    rw [sub_Ls, hd]
    have : (joinL sep [Ls w]).length = s.length - a := by
      have := congrArg List.length hd
      rw [List.length_drop, len_Ls] at this
      exact this.symm
    rw [show ([w] : List Str).map Ls = [Ls w] from rfl, List.take_of_length_le (by omega)]
    simp [joinL]
  | w :: w2 :: ws, a, _, hd, ha => by
    have hd' : (Ls s).drop a = Ls w ++ (sep ++ joinL sep ((w2 :: ws).map Ls)) := by
      rw [hd]; exact joinL_cons2
    have hlen : s.length = a + w.length + sep.length + (joinL sep ((w2 :: ws).map Ls)).length := by
      have := congrArg List.length hd'
      rw [List.length_drop, len_Ls, List.length_append, List.length_append, len_Ls] at this
      omega
    have hd2 : (Ls s).drop (a + w.length + sep.length) = joinL sep ((w2 :: ws).map Ls) := by
      have : (Ls s).drop (a + w.length + sep.length) = (((Ls s).drop a).drop (Ls w).length).drop sep.length := by rw [List.drop_drop, List.drop_drop, len_Ls, Nat.add_assoc]
      rw [this, hd', List.drop_left, List.drop_left]
    have ih := parts_at (w2 :: ws) (a + w.length + sep.length) (by simp) hd2 (by omega)
    have hc : cutsOf sep.length a ((w :: w2 :: ws).map Ls) = (a + w.length) :: cutsOf sep.length (a + w.length + sep.length) ((w2 :: ws).map Ls) := by
      show (a + (Ls w).length) :: cutsOf sep.length (a + (Ls w).length + sep.length) _ = _
      rw [len_Ls]; rfl
    rw [hc, List.map_cons, List.cons_append, List.zip_cons_cons, List.map_cons]
    show strSub s a (a + w.length) :: (((a + w.length + sep.length) :: (cutsOf sep.length (a + w.length + sep.length) ((w2 :: ws).map Ls)).map (· + sep.length)).zip (cutsOf sep.length (a + w.length + sep.length) ((w2 :: ws).map Ls) ++ [s.length])).map (fun p => strSub s p.1 p.2) = _
    rw [ih]
    congr 1
    refine str_ext ?_
    rw [sub_Ls, hd', show a + w.length - a = (Ls w).length by rw [len_Ls]; omega, List.take_left]

structure SplitOk (s sep : Str) (ws : List Str) : Prop where
  split : Txt.split s sep = ws
  parts : partsBetween s (occurrences s sep 0 s.length (s.length + 1)) sep.length = ws
  has : 2 ≤ ws.length → Txt.contains s sep = true

theorem split_join {s sep : Str} {c : Nat} {rest : List Nat} (hsep : Ls sep = c :: rest) (hk : Str.strKind sep = 1) {ws : List Str} (hne : ws ≠ []) (hw : ∀ w ∈ ws, c ∉ Ls w) (hs : Ls s = joinL (Ls sep) (ws.map Ls)) : SplitOk s sep ws := by
  have hl : sep.length = (Ls sep).length := (len_Ls sep).symm
  have hocc : ∀ limit, s.length < limit → occurrences s sep 0 s.length limit = cutsOf sep.length 0 (ws.map Ls) := fun limit hlim => by
    rw [occ_fold]
    have := occ_join (s := s) hsep limit hlim (ws.map Ls) 0 #[] 0 (by simpa using hne) (fun w hw' => by
      obtain ⟨x, hx, rfl⟩ := List.mem_map.mp hw'
      exact hw x hx) (by rw [List.drop_zero]; exact hs) (Nat.zero_le _) (Nat.le_refl _) (Nat.zero_le _)
    simpa using this
  have hparts : partsBetween s (occurrences s sep 0 s.length (s.length + 1)) sep.length = ws := by
    unfold partsBetween
    rw [hocc _ (Nat.lt_succ_self _), hl]
    exact parts_at ws 0 hne (by rw [List.drop_zero]; exact hs) (Nat.zero_le _)
  have hkind : ¬ Str.strKind s < Str.strKind sep := by
    rw [hk]; unfold Str.strKind; split
    · omega
    · split <;> omega
  have hone : ∀ w, ws = [w] → s = w := fun w e => str_ext (by rw [hs, e]; simp [joinL])
  have htwo : 2 ≤ ws.length → sep.length ≤ s.length ∧ (cutsOf sep.length 0 (ws.map Ls)).isEmpty = false := fun h => by
    match ws, h with
    | w :: w2 :: ws, _ =>
      refine ⟨?_, rfl⟩
      have := congrArg List.length hs
      rw [show (w :: w2 :: ws).map Ls = Ls w :: Ls w2 :: ws.map Ls from rfl, joinL_cons2, List.length_append, List.length_append, len_Ls, len_Ls] at this
      omega
  refine ⟨?_, hparts, fun h => ?_⟩
  · unfold Txt.split
    by_cases h2 : 2 ≤ ws.length
    · obtain ⟨h3, h4⟩ := htwo h2
      rw [if_neg (by simp only [Bool.or_eq_true, decide_eq_true_eq]; omega), hparts, if_neg (by rw [hocc _ (Nat.lt_succ_self _), h4]; exact Bool.false_ne_true)]
    · match ws, hne, h2 with
      | [w], _, _ =>
        have e := hone w rfl
        split
        · rw [e]
        · split
          · rw [e]
          · exact hparts
      | _ :: _ :: _, _, h2 => simp at h2
  · -- found at least once
    obtain ⟨h3, h4⟩ := htwo h
    unfold Txt.contains
    rw [Bool.not_eq_true', List.isEmpty_eq_false_iff]
    intro q
    have hq : ∀ i, i + sep.length ≤ s.length → subAt s sep i = false := by
      intro i hi
      cases hx : subAt s sep i with
      | false => rfl
      | true =>
        exfalso
        rw [occ_fold] at q
        -- the first hit is taken
        have key : ∀ (l : List Nat) (free : Nat), (∃ j ∈ l, free ≤ j ∧ j + sep.length ≤ s.length ∧ subAt s sep j = true) → (l.foldl (occStep s sep s.length 1) (#[], free)).1.toList ≠ [] := by
          intro l
          induction l with
          | nil => rintro free ⟨j, hj, _⟩; cases hj
          | cons a l ih =>
            rintro free ⟨j, hj, h1, h2, h5⟩
            rw [List.foldl_cons]
            by_cases hc : ((((#[] : Array Nat), free).1.size < 1 ∧ ((#[] : Array Nat), free).2 ≤ a) ∧ a + sep.length ≤ s.length) ∧ subAt s sep a = true
            · unfold occStep
              rw [if_pos hc]
              have grow : ∀ (l : List Nat) (st : Array Nat × Nat), st.1.toList ≠ [] → (l.foldl (occStep s sep s.length 1) st).1.toList ≠ [] := by
                intro l
                induction l with
                | nil => intro st h; exact h
                | cons b l ih2 =>
                  intro st h
                  rw [List.foldl_cons]
                  refine ih2 _ ?_
                  unfold occStep
                  split
                  · simp
                  · exact h
              exact grow l _ (by simp)
            · have e : occStep s sep s.length 1 ((#[] : Array Nat), free) a = (#[], free) := by unfold occStep; rw [if_neg hc]
              rw [e]
              refine ih free ⟨j, ?_, h1, h2, h5⟩
              rcases List.mem_cons.mp hj with rfl | hj
              · exact absurd ⟨⟨⟨Nat.zero_lt_one, h1⟩, h2⟩, h5⟩ hc
              · exact hj
        exact key _ 0 ⟨i, by simp [List.mem_range']; omega, Nat.zero_le _, hi, hx⟩ q
    have hno : occurrences s sep 0 s.length (s.length + 1) = [] := by
      rw [occ_fold, fold_still]
      intro i _ _ h5
      exact hq i h5
    rw [hocc _ (Nat.lt_succ_self _)] at hno
    rw [hno] at h4; cases h4

theorem glue_Ls (sep : Str) : ∀ (l : List Str) (acc : Array Nat), (l.foldl (fun acc p => acc ++ sep.cps ++ p.cps) acc).toList = acc.toList ++ (l.map Ls).flatMap (fun p => Ls sep ++ p)
  | [], acc => by simp
  | w :: l, acc => by
    rw [List.foldl_cons, glue_Ls sep l, List.map_cons, List.flatMap_cons]
    simp
theorem join_Ls (sep : Str) (ws : List Str) : Ls (Txt.join sep ws) = joinL (Ls sep) (ws.map Ls) := by
  unfold Txt.join glued Ls
  cases ws with
  | nil => rfl
  | cons w ws =>
    show ((ws.foldl (fun acc p => acc ++ sep.cps ++ p.cps) w.cps)).toList = _
    rw [glue_Ls]
    rfl
theorem joinL_len (sep : List Nat) : ∀ (ws : List (List Nat)) (m : Nat), (∀ w ∈ ws, w.length ≤ m) → (joinL sep ws).length ≤ ws.length * (m + sep.length)
  | [], _, _ => Nat.zero_le _
  | w :: ws, m, h => by
    have h1 := h w (.head _)
    have : ∀ l : List (List Nat), (∀ w ∈ l, w.length ≤ m) → (l.flatMap (fun p => sep ++ p)).length ≤ l.length * (m + sep.length) := by
      intro l
      induction l with
      | nil => intro _; simp
      | cons x l ih =>
        intro hl
        rw [List.flatMap_cons, List.length_append, List.length_append, List.length_cons, Nat.succ_mul]
        have := hl x (.head _)
        have := ih fun y hy => hl y (.tail _ hy)
        omega
    have := this ws fun y hy => h y (.tail _ hy)
    show (w ++ ws.flatMap (fun p => sep ++ p)).length ≤ _
    rw [List.length_append, List.length_cons, Nat.succ_mul]
    omega
theorem join_len {sep : Str} {ws : List Str} {m : Nat} (h : ∀ w ∈ ws, w.length ≤ m) : (Txt.join sep ws).length ≤ ws.length * (m + sep.length) := by
  rw [← len_Ls, join_Ls, ← len_Ls sep, ← List.length_map (f := Ls)]
  exact joinL_len _ _ _ fun w hw => by
    obtain ⟨x, hx, rfl⟩ := List.mem_map.mp hw
    rw [len_Ls]; exact h x hx
theorem foldl_len (sep : Str) (m : Nat) : ∀ (l : List Str) (a : Nat), (∀ w ∈ l, w.length ≤ m) → l.foldl (fun a (w : Str) => a + w.length + sep.length) a ≤ a + l.length * (m + sep.length)
  | [], a, _ => by simp
  | w :: l, a, h => by
    rw [List.foldl_cons, List.length_cons, Nat.succ_mul]
    have h1 := h w (.head _)
    have := foldl_len sep m l (a + w.length + sep.length) fun y hy => h y (.tail _ hy)
    omega
theorem joinOk_of {sep : Str} {ws : List Str} {m : Nat} (h : ∀ w ∈ ws, w.length ≤ m) (hb : ws.length * (m + sep.length) ≤ 100000) : JoinOk sep ws = true := by
  unfold JoinOk tooLong
  rw [Bool.not_eq_true', decide_eq_false_iff_not, List.foldl_toArray]
  have := foldl_len sep m ws 0 h
  have hs : sizeLine = 16777216 := by decide +kernel
  omega
end Mine
end
section
local macro_rules | `(tactic| omega) => `(tactic| lia)
open PySem PySem.W PySem.Calls PyProof.Rows PySem.Builtin
namespace Mine

theorem bitOr_nat (a b : Nat) : Builtin.bitOr (a : Int) (b : Int) = ((a ||| b : Nat) : Int) := by
  have e : ∀ x : Nat, Builtin.bitNot (x : Int) < 0 ∧ Builtin.bitNot (Builtin.bitNot (x : Int)) = x := fun x => by unfold Builtin.bitNot; omega
  unfold Builtin.bitOr Builtin.bitAnd
  rw [decide_eq_false (by have := (e a).1; omega), decide_eq_false (by have := (e b).1; omega)]
  show Builtin.bitNot (Builtin.bitNot _) = _
  rw [(e a).2, (e b).2, (e _).2, Int.toNat_natCast, Int.toNat_natCast]
theorem and_pow (i M : Nat) : 2 ^ i * M &&& 2 ^ i = if M % 2 = 1 then 2 ^ i else 0 := by
  refine Nat.eq_of_testBit_eq fun j => ?_
  rw [Nat.testBit_and, Nat.testBit_two_pow_mul, Nat.testBit_two_pow]
  by_cases h : i = j
  · subst h
    have : M.testBit 0 = decide (M % 2 = 1) := Nat.testBit_zero M
    split <;> rename_i h2 <;> simp [this, h2]
  · split <;> simp [h]
theorem or_pow (i M : Nat) (h : M % 2 = 1) : 2 ^ i * M ||| 2 ^ i = 2 ^ i * M := by
  refine Nat.eq_of_testBit_eq fun j => ?_
  rw [Nat.testBit_or, Nat.testBit_two_pow_mul, Nat.testBit_two_pow]
  by_cases hj : i = j
  · subst hj
    have : M.testBit 0 = decide (M % 2 = 1) := Nat.testBit_zero M
    simp [this, h]
  · simp [hj]
theorem xor_pow (i M : Nat) (h : M % 2 = 1) : Builtin.bitXor ((2 ^ i * M : Nat) : Int) ((2 ^ i : Nat) : Int) = ((2 ^ (i + 1) * (M / 2) : Nat) : Int) := by
  unfold Builtin.bitXor
  rw [bitOr_nat, bitAnd_nat, or_pow i M h, and_pow, if_pos h]
  obtain ⟨m, rfl⟩ : ∃ m, M = 2 * m + 1 := ⟨M / 2, by omega⟩
  rw [show (2 * m + 1) / 2 = m by omega, Nat.pow_succ, Nat.mul_add, Nat.mul_one, ← Nat.mul_assoc]
  omega
theorem xor_small {f : Int} {i : Nat} (hi : i < 32) (hf : 0 ≤ f ∧ f < 2 ^ 40) : 0 ≤ Builtin.bitXor f (1 * 2 ^ i) ∧ Builtin.bitXor f (1 * 2 ^ i) < 2 ^ 40 := by
  obtain ⟨a, rfl⟩ := Int.eq_ofNat_of_zero_le hf.1
  have h40 : (2 : Int) ^ 40 = ((2 ^ 40 : Nat) : Int) := by decide +kernel
  rw [show (1 : Int) * 2 ^ i = ((2 ^ i : Nat) : Int) by rw [Int.one_mul, Int.natCast_pow]; rfl]
  unfold Builtin.bitXor
  rw [bitOr_nat, bitAnd_nat, h40] at *
  have h1 : a ||| 2 ^ i < 2 ^ 40 := Nat.or_lt_two_pow (by have := hf.2; omega) (Nat.pow_lt_pow_right (by decide) (by omega))
  have h2 : a &&& 2 ^ i ≤ a ||| 2 ^ i := Nat.le_trans Nat.and_le_left Nat.left_le_or
  omega

/-- the names of the bits that are set -/
theorem pf_names {nm nm' : Nat → Str} : ∀ (k i M : Nat) (acc : List Str), i + k = 32 → M ≠ 0 → M < 2 ^ (k + 1) → (∀ j, j < 32 → nm j = nm' j) → nm' 32 = baseText "0x" 16 (2 ^ 32) →
    pfRun nm k i ((2 ^ i * M : Nat) : Int) acc = acc ++ ((List.range (k + 1)).filter fun j => M.testBit j).map fun j => nm' (i + j)
  | 0, i, M, acc, hi, h0, hM, _, hn => by
    have hM1 : M = 1 := by omega
    have hi32 : i = 32 := by omega
    subst hM1 hi32
    show acc ++ [baseText "0x" 16 ((2 ^ 32 * 1 : Nat) : Int)] = acc ++ [nm' (32 + 0)]
    rw [Nat.add_zero, hn]; rfl
  | k + 1, i, M, acc, hi, h0, hM, hnm, hn => by
    have e2 : (1 : Int) * 2 ^ i = ((2 ^ i : Nat) : Int) := by rw [Int.one_mul, Int.natCast_pow]; rfl
    have hpos : 0 < 2 ^ i := Nat.pow_pos (by decide)
    have hpos1 : 0 < 2 ^ (i + 1) := Nat.pow_pos (by decide)
    have hM2 : M / 2 < 2 ^ (k + 1) := by rw [Nat.pow_succ] at hM; omega
    have hr : ((List.range (k + 1 + 1)).filter fun j => M.testBit j).map (fun j => nm' (i + j)) = (if M % 2 = 1 then [nm' i] else []) ++ ((List.range (k + 1)).filter fun j => (M / 2).testBit j).map fun j => nm' (i + 1 + j) := by
      rw [List.range_succ_eq_map, List.filter_cons, List.filter_map, Nat.testBit_zero]
      have e : ((fun j => M.testBit j) ∘ Nat.succ) = fun j => (M / 2).testBit j := by
        funext j
        exact Nat.testBit_succ M j
      have e3 : ∀ l : List Nat, (l.map Nat.succ).map (fun j => nm' (i + j)) = l.map fun j => nm' (i + 1 + j) := fun l => by
        rw [List.map_map]
        refine List.map_congr_left fun j _ => ?_
        show nm' (i + (j + 1)) = _
        congr 1; omega
      rw [e]
      by_cases h : M % 2 = 1
      · simp only [h, decide_true, if_true, List.map_cons, Nat.add_zero, e3, List.singleton_append]
      · simp only [h, decide_false, Bool.false_eq_true, if_false, e3, List.nil_append]
    rw [hr]
    unfold pfRun
    rw [e2, bitAnd_nat, and_pow]
    by_cases h : M % 2 = 1
    · rw [if_pos h, if_pos (by simp; omega), if_pos h, xor_pow i M h]
      by_cases h2 : M / 2 = 0
      · rw [if_neg (by rw [h2]; simp), h2, hnm i (by omega)]
        simp
      · rw [if_pos (by simp; omega), pf_names k (i + 1) (M / 2) (acc ++ [nm i]) (by omega) h2 hM2 hnm hn, hnm i (by omega), List.append_assoc]
    · rw [if_neg h, if_neg (by simp), if_neg h]
      have : 2 ^ i * M = 2 ^ (i + 1) * (M / 2) := by
        obtain ⟨m, rfl⟩ : ∃ m, M = 2 * m := ⟨M / 2, by omega⟩
        rw [show 2 * m / 2 = m by omega, Nat.pow_succ, Nat.mul_assoc]
      rw [this, pf_names k (i + 1) (M / 2) acc (by omega) (by omega) hM2 hnm hn]
      rfl

/-- the number of the flags, by its figures -/
def flagsN (n w : Nat) (du : Nat → Nat) : Nat := ((suppOf n du).map fun p => 2 ^ (w + p)).sum
theorem flags_nat (n w : Nat) (du : Nat → Nat) : flagsOf n w du = ((flagsN n w du : Nat) : Int) := by
  unfold flagsOf flagsN
  induction suppOf n du with
  | nil => rfl
  | cons p l ih => rw [List.map_cons, List.sum_cons, List.map_cons, List.sum_cons, ih, Int.natCast_add, Int.natCast_pow]; rfl
theorem flagsN_succ (n w : Nat) (du : Nat → Nat) : flagsN (n + 1) w du = flagsN n w du + if 0 < du n then 2 ^ (w + n) else 0 := by
  unfold flagsN suppOf
  rw [List.range_succ, List.filter_append, List.map_append, List.sum_append]
  congr 1
  by_cases h : 0 < du n <;> simp [h]
theorem flagsN_lt (w : Nat) (du : Nat → Nat) : ∀ n, flagsN n w du < 2 ^ (w + n)
  | 0 => Nat.pow_pos (by decide)
  | n + 1 => by
    rw [flagsN_succ]
    have := flagsN_lt w du n
    rw [← Nat.add_assoc, Nat.pow_succ]
    split <;> omega
theorem flagsN_bit (w : Nat) (du : Nat → Nat) : ∀ n j, (flagsN n w du).testBit j = decide (w ≤ j ∧ j < w + n ∧ 0 < du (j - w))
  | 0, j => by simp [flagsN, suppOf]; omega
  | n + 1, j => by
    rw [flagsN_succ]
    by_cases h : 0 < du n
    · rw [if_pos h, Nat.add_comm]
      rcases Nat.lt_trichotomy j (w + n) with hj | hj | hj
      · rw [Nat.testBit_two_pow_add_gt hj, flagsN_bit w du n j]
        congr 1
        exact propext ⟨fun ⟨a, b, c⟩ => ⟨a, by omega, c⟩, fun ⟨a, b, c⟩ => ⟨a, by omega, c⟩⟩
      · subst hj
        rw [Nat.testBit_two_pow_add_eq, flagsN_bit w du n]
        have : w + n - w = n := by omega
        simp [this, h]
      · have hlt : 2 ^ (w + n) + flagsN n w du < 2 ^ j := by
          have h1 := flagsN_lt w du n
          have h2 : 2 ^ (w + n + 1) ≤ 2 ^ j := Nat.pow_le_pow_right (by decide) hj
          rw [Nat.pow_succ] at h2; omega
        rw [Nat.testBit_lt_two_pow hlt]
        symm
        rw [decide_eq_false_iff_not]
        rintro ⟨_, b, _⟩; omega
    · rw [if_neg h, Nat.add_zero, flagsN_bit w du n j]
      congr 1
      refine propext ⟨fun ⟨a, b, c⟩ => ⟨a, by omega, c⟩, fun ⟨a, b, c⟩ => ⟨a, ?_, c⟩⟩
      rcases Nat.lt_or_ge j (w + n) with q | q
      · exact q
      · have : j - w = n := by omega
        rw [this] at c; exact absurd c h
theorem bits_list {n w : Nat} {du : Nat → Nat} (h : w + n ≤ 33) : ((List.range 33).filter fun j => (flagsN n w du).testBit j) = (suppOf n du).map fun p => w + p := by
  have e : List.range 33 = List.range w ++ ((List.range n).map (fun p => w + p) ++ (List.range (33 - w - n)).map fun p => w + n + p) := by
    rw [← List.range'_eq_map_range, ← List.range'_eq_map_range, List.range_eq_range', List.range_eq_range']
    rw [show List.range' 0 33 = List.range' 0 (w + (n + (33 - w - n))) by rw [show w + (n + (33 - w - n)) = 33 by omega], ← List.range'_append_1, ← List.range'_append_1]
    simp
  rw [e, List.filter_append, List.filter_append]
  have h1 : (List.range w).filter (fun j => (flagsN n w du).testBit j) = [] := List.filter_eq_nil_iff.mpr fun j hj => by
    have := List.mem_range.mp hj
    rw [flagsN_bit]; simp; omega
  have h3 : ((List.range (33 - w - n)).map fun p => w + n + p).filter (fun j => (flagsN n w du).testBit j) = [] := List.filter_eq_nil_iff.mpr fun j hj => by
    obtain ⟨p, _, rfl⟩ := List.mem_map.mp hj
    rw [flagsN_bit]; simp; omega
  rw [h1, h3, List.nil_append, List.append_nil, List.filter_map]
  unfold suppOf
  congr 1
  refine List.filter_congr fun p hp => ?_
  have := List.mem_range.mp hp
  show (flagsN n w du).testBit (w + p) = _
  rw [flagsN_bit, Nat.add_sub_cancel_left]
  congr 1
  exact propext ⟨fun ⟨_, _, c⟩ => c, fun c => ⟨by omega, by omega, c⟩⟩
/-- the flags' words -/
theorem words_of {nm nm' : Nat → Str} {n w : Nat} {du : Nat → Nat} (hw : w + n ≤ 33) (hs : suppOf n du ≠ []) (hnm : ∀ j, j < 32 → nm j = nm' j) (hn : nm' 32 = baseText "0x" 16 (2 ^ 32)) :
    pfRun nm 32 0 (flagsOf n w du) [] = (suppOf n du).map fun p => nm' (w + p) := by
  have h0 : flagsN n w du ≠ 0 := by
    intro q
    obtain ⟨p, l, e⟩ := List.exists_cons_of_ne_nil hs
    have : (2 ^ (w + p) : Nat) > 0 := Nat.pow_pos (by decide)
    unfold flagsN at q
    rw [e, List.map_cons, List.sum_cons] at q
    omega
  have hlt : flagsN n w du < 2 ^ (32 + 1) := Nat.lt_of_lt_of_le (flagsN_lt w du n) (Nat.pow_le_pow_right (by decide) (by omega))
  have := pf_names (nm := nm) (nm' := nm') 32 0 (flagsN n w du) [] rfl h0 hlt hnm hn
  rw [Nat.pow_zero, Nat.one_mul, List.nil_append, bits_list hw, List.map_map] at this
  rw [flags_nat, this]
  refine List.map_congr_left fun p _ => ?_
  show nm' (0 + (w + p)) = _
  rw [Nat.zero_add]
end Mine
end
section
local macro_rules | `(tactic| omega) => `(tactic| lia)
open PySem PySem.W PySem.Calls PyProof.Rows PySem.Builtin
namespace Mine

theorem six_bits : ∀ x, x < 64 → (64 + x) &&& 64 ≠ 0 ∧ (64 + x) &&& 63 = x ∧ x &&& 63 = x ∧ x &&& 64 = 0 ∧ (192 + x) &&& 64 ≠ 0 ∧ (192 + x) &&& 63 = x ∧ (128 + x) &&& 64 = 0 ∧ (128 + x) &&& 63 = x := by decide +kernel
theorem and_lit (a k : Nat) : Builtin.bitAnd (a : Int) (OfNat.ofNat k : Int) = ((a &&& k : Nat) : Int) := bitAnd_nat a k
/-- the figures by sixty-fours, the highest first -/
def encN : Nat → Nat → List Nat
  | 0, v => [v % 64]
  | m + 1, v => (64 + v / 64 ^ (m + 1) % 64) :: encN m v
theorem encN_len : ∀ m v, (encN m v).length = m + 1
  | 0, _ => rfl
  | m + 1, v => by rw [encN, List.length_cons, encN_len]
theorem pv_go {octs : List Int} {i : Nat} {b b' val : Int} {k : Nat} (hb : (Builtin.bitAnd b 64 != 0) = true) (hi : octs[i]? = some b') (hv : val.natAbs < 2 ^ 64) : pvRun octs (k + 1) i b val = pvRun octs k (i + 1) b' (Builtin.bitOr (val * 2 ^ 6) (Builtin.bitAnd b' 63)) := by
  rw [pvRun, if_pos hb, hi]; simp only [hv, if_true]
theorem pv_end {octs : List Int} {i : Nat} {b val : Int} {k : Nat} (hb : ¬ (Builtin.bitAnd b 64 != 0) = true) : pvRun octs (k + 1) i b val = some (val, i) := by
  rw [pvRun, if_neg hb]
theorem or_next (a x : Nat) (h : x < 64) : Builtin.bitOr ((a : Int) * 2 ^ 6) (x : Int) = ((64 * a + x : Nat) : Int) := by
  rw [show (a : Int) * 2 ^ 6 = ((2 ^ 6 * a : Nat) : Int) by rw [Int.mul_comm]; rfl, bitOr_nat, ← Nat.two_pow_add_eq_or_of_lt (i := 6) h]
theorem pv_enc {v : Nat} (hv : v < 2 ^ 64) : ∀ (m i k : Nat) (octs : List Int) (b : Int), (Builtin.bitAnd b 64 != 0) = true → octs.drop i = (encN m v).map (fun x : Nat => (x : Int)) → pvRun octs (k + m + 2) i b ((v / 64 ^ (m + 1) : Nat) : Int) = some ((v : Int), i + m + 1)
  | 0, i, k, octs, b, hb, hd => by
    have hx := six_bits (v % 64) (Nat.mod_lt _ (by decide))
    have hi : octs[i]? = some ((v % 64 : Nat) : Int) := by
      have := congrArg (fun l : List Int => l[0]?) hd
      simpa [encN] using this
    rw [show k + 0 + 2 = (k + 1) + 1 by omega, pv_go hb hi (by rw [Int.natAbs_natCast]; exact Nat.lt_of_le_of_lt (Nat.div_le_self _ _) hv)]
    rw [pv_end (by rw [and_lit, hx.2.2.2.1]; simp), and_lit, hx.2.2.1, or_next _ _ (Nat.mod_lt _ (by decide))]
    congr 2
    rw [Nat.zero_add, Nat.pow_one]; omega
  | m + 1, i, k, octs, b, hb, hd => by
    have hlt : v / 64 ^ (m + 1) % 64 < 64 := Nat.mod_lt _ (by decide)
    have hx := six_bits _ hlt
    have hi : octs[i]? = some ((64 + v / 64 ^ (m + 1) % 64 : Nat) : Int) := by
      have := congrArg (fun l : List Int => l[0]?) hd
      simpa [encN] using this
    have hd' : octs.drop (i + 1) = (encN m v).map (fun x : Nat => (x : Int)) := by
      have := congrArg List.tail hd
      rw [List.tail_drop] at this
      rw [this]; rfl
    rw [show k + (m + 1) + 2 = (k + m + 2) + 1 by omega, pv_go hb hi (by rw [Int.natAbs_natCast]; exact Nat.lt_of_le_of_lt (Nat.div_le_self _ _) hv)]
    rw [and_lit, hx.2.1, or_next _ _ hlt]
    have e : 64 * (v / 64 ^ (m + 1 + 1)) + v / 64 ^ (m + 1) % 64 = v / 64 ^ (m + 1) := by
      rw [Nat.pow_succ, ← Nat.div_div_eq_div_mul]; exact Nat.div_add_mod _ _
    rw [e, pv_enc hv m (i + 1) k octs _ (by rw [and_lit]; simpa using hx.1) hd']
    congr 2; omega
/-- the figures as the program writes them -/
theorem octs_enc {v : Nat} : ∃ m, m ≤ 5 ∧ (v < 64 ^ 6 → v < 64 ^ (m + 1)) ∧ octsOf (v : Int) = (encN m v).map (fun x : Nat => (x : Int)) := by
  have e1 : ∀ i : Nat, (64 : Int) ^ (5 - i) = ((64 ^ (5 - i) : Nat) : Int) := fun i => by rw [Int.natCast_pow]; rfl
  have e : octsOf (v : Int) = (((List.range 5).filter fun i => decide (64 ^ (5 - i) ≤ v)).map fun i => 64 + v / 64 ^ (5 - i) % 64).map (fun x : Nat => (x : Int)) ++ [((v % 64 : Nat) : Int)] := by
    unfold octsOf
    rw [List.map_map]
    congr 1
    · have hf : (fun i : Nat => decide ((v : Int) ≥ 64 ^ (5 - i))) = fun i => decide (64 ^ (5 - i) ≤ v) := by
        funext i
        rw [e1]
        congr 1
        exact propext Int.ofNat_le
      rw [hf]
      refine List.map_congr_left fun i _ => ?_
      show 64 + ((v : Int).fdiv (64 ^ (5 - i))).fmod 64 = ((64 + v / 64 ^ (5 - i) % 64 : Nat) : Int)
      rw [e1, Int.fdiv_eq_ediv_of_nonneg _ (Int.natCast_nonneg _), Int.fmod_eq_emod_of_nonneg _ (by decide)]
      omega
    · rw [Int.fmod_eq_emod_of_nonneg _ (by decide)]; rfl
  have hr : List.range 5 = [0, 1, 2, 3, 4] := rfl
  rw [e, hr]
  have p1 : decide (64 ^ (5 - 0) ≤ v) = decide (1073741824 ≤ v) := rfl
  have p2 : decide (64 ^ (5 - 1) ≤ v) = decide (16777216 ≤ v) := rfl
  have p3 : decide (64 ^ (5 - 2) ≤ v) = decide (262144 ≤ v) := rfl
  have p4 : decide (64 ^ (5 - 3) ≤ v) = decide (4096 ≤ v) := rfl
  have p5 : decide (64 ^ (5 - 4) ≤ v) = decide (64 ≤ v) := rfl
  simp only [List.filter_cons, List.filter_nil, p1, p2, p3, p4, p5]
  by_cases h1 : 1073741824 ≤ v
  · refine ⟨5, Nat.le_refl _, fun h => h, ?_⟩
    rw [decide_eq_true h1, decide_eq_true (by omega), decide_eq_true (by omega), decide_eq_true (by omega), decide_eq_true (by omega)]; rfl
  · by_cases h2 : 16777216 ≤ v
    · refine ⟨4, by decide, fun _ => by show v < 1073741824; omega, ?_⟩
      rw [decide_eq_false h1, decide_eq_true h2, decide_eq_true (by omega), decide_eq_true (by omega), decide_eq_true (by omega)]; rfl
    · by_cases h3 : 262144 ≤ v
      · refine ⟨3, by decide, fun _ => by show v < 16777216; omega, ?_⟩
        rw [decide_eq_false h1, decide_eq_false h2, decide_eq_true h3, decide_eq_true (by omega), decide_eq_true (by omega)]; rfl
      · by_cases h4 : 4096 ≤ v
        · refine ⟨2, by decide, fun _ => by show v < 262144; omega, ?_⟩
          rw [decide_eq_false h1, decide_eq_false h2, decide_eq_false h3, decide_eq_true h4, decide_eq_true (by omega)]; rfl
        · by_cases h5 : 64 ≤ v
          · refine ⟨1, by decide, fun _ => by show v < 4096; omega, ?_⟩
            rw [decide_eq_false h1, decide_eq_false h2, decide_eq_false h3, decide_eq_false h4, decide_eq_true h5]; rfl
          · refine ⟨0, by decide, fun _ => by show v < 64; omega, ?_⟩
            rw [decide_eq_false h1, decide_eq_false h2, decide_eq_false h3, decide_eq_false h4, decide_eq_false h5]; rfl
/-- what is written is read back -/
theorem octs_read {v : Nat} (hv : v < 64 ^ 6) : ∃ o os, octsOf (v : Int) = o :: os ∧ ((128 + o) :: os).length ≤ 6 ∧ ∃ k, pvRun ((128 + o) :: os) k 1 (128 + o) (Builtin.bitAnd (128 + o) 63) = some ((v : Int), ((128 + o) :: os).length) := by
  obtain ⟨m, hm, hlt, e⟩ := octs_enc (v := v)
  have hlt := hlt hv
  have hlen := encN_len m v
  cases m with
  | zero =>
    have hv64 : v < 64 := hlt
    have hx := six_bits v hv64
    refine ⟨(v : Int), [], ?_, Nat.le_of_ble_eq_true rfl, 1, ?_⟩
    · rw [e, encN, Nat.mod_eq_of_lt hv64]; rfl
    · have e3 : (128 + (v : Int)) = ((128 + v : Nat) : Int) := by omega
      rw [e3, pv_end (by rw [and_lit, hx.2.2.2.2.2.2.1]; simp), and_lit, hx.2.2.2.2.2.2.2]; rfl
  | succ m =>
    have hd : v / 64 ^ (m + 1) < 64 := by
      rw [Nat.div_lt_iff_lt_mul (Nat.pow_pos (by decide)), Nat.mul_comm, ← Nat.pow_succ]; exact hlt
    have hx := six_bits _ hd
    refine ⟨((64 + v / 64 ^ (m + 1) % 64 : Nat) : Int), (encN m v).map (fun x : Nat => (x : Int)), e, ?_, 0 + m + 2, ?_⟩
    · rw [List.length_cons, List.length_map, encN_len]; omega
    · have e3 : (128 + ((64 + v / 64 ^ (m + 1) % 64 : Nat) : Int)) = ((192 + v / 64 ^ (m + 1) : Nat) : Int) := by rw [Nat.mod_eq_of_lt hd]; omega
      rw [e3, and_lit, hx.2.2.2.2.2.1]
      rw [pv_enc (Nat.lt_of_lt_of_le hv (by decide)) m 1 0 _ _ (by rw [and_lit]; simpa using hx.2.2.2.2.1) rfl, List.length_cons, List.length_map, encN_len]
      congr 2; omega
end Mine
end
section
local macro_rules | `(tactic| omega) => `(tactic| lia)
open PySem PySem.W PySem.Calls PyProof.Rows PySem.Builtin PySem.Builtin.Str
namespace Mine

theorem Ls_append (a b : Str) : Ls (a ++ b) = Ls a ++ Ls b := by
  obtain ⟨x⟩ := a
  obtain ⟨y⟩ := b
  exact Array.toList_append
theorem slice_from (x : Str) {i : Nat} (h : i ≤ x.length) : Ls (Txt.slice x (some i) none) = (Ls x).drop i := by
  have := StrLaws.sliceText_from (x := x) (i := (i : Int)) ⟨Int.natCast_nonneg i, by rw [len_list]; exact Int.ofNat_le.mpr h⟩
  show Ls (StrLaws.sliceText x (some i) none) = _
  rw [this, Int.toNat_natCast]
  show ((Ls x).drop i).take _ = _
  rw [List.take_of_length_le]
  show (x.cps.toList.drop i).length ≤ _
  rw [List.length_drop]; omega
theorem slice_to (x : Str) {i : Nat} (h : i ≤ x.length) : Ls (Txt.slice x none (some i)) = (Ls x).take i := by
  have := StrLaws.sliceText_to (x := x) (j := (i : Int)) ⟨Int.natCast_nonneg i, by rw [len_list]; exact Int.ofNat_le.mpr h⟩
  show Ls (StrLaws.sliceText x none (some i)) = _
  rw [this]
  show ((Ls x).drop 0).take _ = _
  rw [List.drop_zero]
  congr 1
theorem slice_mid (x : Str) (h : 2 ≤ x.length) : Ls (Txt.slice x (some 1) (some (-1))) = ((Ls x).drop 1).take (x.length - 2) := by
  show Ls (StrLaws.sliceText x (some 1) (some (-1))) = _
  rw [StrLaws.sliceText_neg_hi x (some 1) (by decide) (by omega), show (-1 : Int) + x.length = ((x.length - 1 : Nat) : Int) by omega]
  rw [show (some (1 : Int)) = some ((1 : Nat) : Int) from rfl, StrLaws.sliceText_nat x (by omega) (by omega)]
  show ((Ls x).drop 1).take _ = _
  rw [show x.length - 1 - 1 = x.length - 2 by omega]

theorem starts_iff (x y : Str) : Txt.startswith x y = decide ((Ls x).take (Ls y).length = Ls y) := by
  unfold Txt.startswith
  rw [Bool.eq_iff_iff, Bool.and_eq_true, decide_eq_true_eq, decide_eq_true_eq, subAt_iff, List.drop_zero, len_Ls]
  refine ⟨fun h => h.2, fun h => ⟨?_, h⟩⟩
  have := congrArg List.length h
  rw [List.length_take, len_Ls, len_Ls] at this
  omega
theorem ends_iff {x y : Str} (hl : y.length ≤ x.length) : Txt.endswith x y = decide ((Ls x).drop (x.length - y.length) = Ls y) := by
  unfold Txt.endswith
  rw [Bool.eq_iff_iff, Bool.and_eq_true, decide_eq_true_eq, decide_eq_true_eq, subAt_iff]
  have e : ((Ls x).drop (x.length - y.length)).take y.length = (Ls x).drop (x.length - y.length) := List.take_of_length_le (by rw [List.length_drop, len_Ls]; omega)
  rw [e]
  exact ⟨fun h => h.2, fun h => ⟨by omega, h⟩⟩

/-- the first place where a text is found -/
theorem first_fold (s sub : Str) (hi : Nat) : ∀ (m a free : Nat), free ≤ a →
    (((List.range' a m).foldl (occStep s sub hi 1) (#[], free)).1.toList = [] ∧ ∀ k, a ≤ k → k < a + m → k + sub.length ≤ hi → subAt s sub k = false) ∨
    ∃ k, ((List.range' a m).foldl (occStep s sub hi 1) (#[], free)).1.toList = [k] ∧ a ≤ k ∧ k + sub.length ≤ hi ∧ subAt s sub k = true ∧ ∀ j, a ≤ j → j < k → j + sub.length ≤ hi → subAt s sub j = false
  | 0, a, free, hf => .inl ⟨rfl, fun k h1 h2 => absurd h2 (by omega)⟩
  | m + 1, a, free, hf => by
    have hstop : ∀ (l : List Nat) (k fr : Nat), (l.foldl (occStep s sub hi 1) (#[k], fr)).1.toList = [k] := by
      intro l
      induction l with
      | nil => intro k fr; rfl
      | cons b l ih =>
        intro k fr
        rw [List.foldl_cons]
        have : occStep s sub hi 1 (#[k], fr) b = (#[k], fr) := by
          unfold occStep
          rw [if_neg]
          rintro ⟨⟨⟨h, _⟩, _⟩, _⟩
          simp at h
        rw [this]; exact ih k fr
    rw [List.range'_succ, List.foldl_cons]
    by_cases hc : a + sub.length ≤ hi ∧ subAt s sub a = true
    · right
      have : occStep s sub hi 1 ((#[] : Array Nat), free) a = (#[a], a + sub.length) := by
        unfold occStep
        rw [if_pos ⟨⟨⟨Nat.zero_lt_one, hf⟩, hc.1⟩, hc.2⟩]; rfl
      rw [this]
      exact ⟨a, hstop _ _ _, Nat.le_refl _, hc.1, hc.2, fun j h1 h2 => absurd h2 (by omega)⟩
    · have : occStep s sub hi 1 ((#[] : Array Nat), free) a = (#[], free) := by
        unfold occStep
        rw [if_neg fun h => hc ⟨h.1.2, h.2⟩]
      rw [this]
      have hno : a + sub.length ≤ hi → subAt s sub a = false := fun h => by
        cases q : subAt s sub a with
        | false => rfl
        | true => exact absurd ⟨h, q⟩ hc
      rcases first_fold s sub hi m (a + 1) free (by omega) with ⟨h1, h2⟩ | ⟨k, h1, h2, h3, h4, h5⟩
      · refine .inl ⟨h1, fun k q1 q2 q3 => ?_⟩
        rcases Nat.eq_or_lt_of_le q1 with rfl | q
        · exact hno q3
        · exact h2 k q (by omega) q3
      · refine .inr ⟨k, h1, by omega, h3, h4, fun j q1 q2 q3 => ?_⟩
        rcases Nat.eq_or_lt_of_le q1 with rfl | q
        · exact hno q3
        · exact h5 j q q2 q3
theorem find4_spec (x y : Str) {lo hi : Nat} (h1 : lo ≤ x.length) (h2 : hi ≤ x.length) :
    (find4 x y lo hi = -1 ∧ ∀ k, lo ≤ k → k + y.length ≤ hi → subAt x y k = false) ∨ ∃ k : Nat, find4 x y lo hi = k ∧ lo ≤ k ∧ k + y.length ≤ hi ∧ subAt x y k = true ∧ ∀ j, lo ≤ j → j < k → j + y.length ≤ hi → subAt x y j = false := by
  have f1 : ∀ a : Nat, fromIndex x.length (a : Int) = a := fun a => by unfold fromIndex; rw [if_neg (by omega)]; omega
  unfold find4
  rw [f1, f1, Nat.min_eq_left h2, occ_fold]
  rcases first_fold x y hi (hi + 1 - lo) lo lo (Nat.le_refl _) with ⟨q1, q2⟩ | ⟨k, q1, q2⟩
  · rw [q1]
    exact .inl ⟨rfl, fun k r1 r2 => q2 k r1 (by omega) r2⟩
  · rw [q1]
    exact .inr ⟨k, rfl, q2⟩
theorem find4_empty {x y : Str} (hy : y.length = 0) {lo hi : Nat} (h1 : lo ≤ hi) (h2 : hi ≤ x.length) : find4 x y lo hi = lo := by
  have hat : subAt x y lo = true := by
    rw [subAt_iff, hy, List.take_zero]
    have := len_Ls y
    rw [hy] at this
    exact (List.length_eq_zero_iff.mp this).symm
  rcases find4_spec x y (lo := lo) (hi := hi) (by omega) h2 with ⟨_, q⟩ | ⟨k, e, q1, q2, q3, q4⟩
  · rw [q lo (Nat.le_refl _) (by omega)] at hat; cases hat
  · rw [e]
    rcases Nat.eq_or_lt_of_le q1 with rfl | q
    · rfl
    · rw [q4 lo (Nat.le_refl _) q (by omega)] at hat; cases hat

/-- the ellipsis of three dots -/
theorem dots_Ls : Ls ("..." : Str) = 46 :: [46, 46] := by decide +kernel
theorem EllOk.of {want got : Str} {ws : List Str} {r : Bool} (hw : ∀ w ∈ ws, 46 ∉ Ls w) (hs : Ls want = joinL (46 :: [46, 46]) (ws.map Ls)) (h2 : 2 ≤ ws.length) (hn : ws.length ≤ 10) (hwl : want.length ≤ 1000) (hg : got.length ≤ 1000) (hp : ∀ w ∈ ws, w.length ≤ 1000) (hr : ellRun got ws = r) : EllOk want got r := by
  have S := split_join (s := want) dots_Ls (by decide +kernel) (ws := ws) (fun q => by subst q; simp at h2) hw (by rw [dots_Ls]; exact hs)
  refine ⟨S.has h2, by rw [S.split]; exact h2, by rw [S.split]; omega, by omega, by omega, fun w hw => ?_, by rw [S.parts]; omega, by rw [S.split]; exact hr⟩
  rw [S.split] at hw
  have := hp w hw; omega
end Mine
end
section
local macro_rules | `(tactic| omega) => `(tactic| lia)
open PySem PySem.W PySem.Calls PyProof.Rows PySem.Builtin PySem.Builtin.Str
namespace Mine

def starAt (du : Nat → Nat) (i : Nat) : Nat := if decide (0 < du i) then 42 else 32
def ringL (n : Nat) (du : Nat → Nat) : List Nat := (List.range n).map (starAt du)
theorem dots_len : ("..." : Str).length = 3 := by decide +kernel
theorem joinL_none : ∀ ws : List (List Nat), joinL [] ws = ws.flatten
  | [] => rfl
  | w :: ws => by
    show w ++ ws.flatMap (fun p => [] ++ p) = w ++ ws.flatten
    congr 1
    rw [List.flatMap_def]
    congr 1
    exact List.map_id' ws
theorem ring_Ls (n : Nat) (du : Nat → Nat) : Ls (Txt.join "" (ringW n du)) = ringL n du := by
  rw [join_Ls, show Ls ("" : Str) = [] by decide +kernel, joinL_none]
  unfold ringW ringL
  rw [List.map_map]
  have : (Ls ∘ fun i => if decide (0 < du i) then ("*" : Str) else " ") = fun i => [starAt du i] := by
    funext i
    show Ls (if decide (0 < du i) then ("*" : Str) else " ") = [starAt du i]
    unfold starAt
    split
    · decide +kernel
    · decide +kernel
  rw [this]
  induction List.range n with
  | nil => rfl
  | cons a l ih => rw [List.map_cons, List.flatten_cons, ih]; rfl
theorem starAt_eq {du : Nat → Nat} {i j : Nat} : starAt du i = starAt du j ↔ decide (0 < du i) = decide (0 < du j) := by
  unfold starAt
  cases decide (0 < du i) <;> cases decide (0 < du j) <;> simp
theorem no_dot {n : Nat} {du : Nat → Nat} : 46 ∉ ringL n du := fun h => by
  obtain ⟨i, _, e⟩ := List.mem_map.mp h
  unfold starAt at e
  split at e <;> cases e
section
variable {n : Nat} {du : Nat → Nat}
theorem ringL_len : (ringL n du).length = n := by unfold ringL; rw [List.length_map, List.length_range]
theorem ring_turn {t : Nat} (ht : t ≤ n) : (ringL n du).drop t ++ (ringL n du).take t = (List.range n).map fun j => starAt du ((j + t) % n) := by
  refine List.ext_getElem ?_ fun j h1 h2 => ?_
  · rw [List.length_append, List.length_drop, List.length_take, ringL_len, List.length_map, List.length_range]; omega
  · rw [List.length_map, List.length_range] at h2
    rw [List.getElem_append]
    split
    · rename_i h
      rw [List.length_drop, ringL_len] at h
      rw [List.getElem_drop]
      simp only [ringL, List.getElem_map, List.getElem_range]
      rw [Nat.mod_eq_of_lt (by omega), Nat.add_comm]
    · rename_i h
      rw [List.length_drop, ringL_len] at h
      rw [List.getElem_take]
      simp only [ringL, List.getElem_map, List.getElem_range, List.length_drop, List.length_map, List.length_range]
      congr 1
      rw [Nat.mod_eq_sub_mod (by omega), Nat.mod_eq_of_lt (by omega)]; omega
theorem same_turn {t : Nat} (ht : t ≤ n) : sameAt n du t = decide ((ringL n du).drop t ++ (ringL n du).take t = ringL n du) := by
  rw [ring_turn ht]
  unfold sameAt
  rw [Bool.eq_iff_iff, List.all_eq_true, decide_eq_true_eq]
  unfold ringL
  rw [List.map_inj_left]
  exact forall_congr' fun j => forall_congr' fun _ => by rw [beq_iff_eq, starAt_eq]
theorem same_zero : sameAt n du 0 = true := by
  rw [same_turn (Nat.zero_le _), decide_eq_true_eq, List.drop_zero, List.take_zero, List.append_nil]

variable {rg : Str}
theorem split_same {t : Nat} (ht : t ≤ n) : ((ringL n du).drop t ++ (ringL n du).take t = ringL n du) ↔ (ringL n du).take (n - t) = (ringL n du).drop t ∧ (ringL n du).drop (n - t) = (ringL n du).take t := by
  have hl : ((ringL n du).drop t).length = n - t := by rw [List.length_drop, ringL_len]
  constructor
  · intro h
    constructor
    · conv => lhs; rw [← h]
      rw [← hl, List.take_left]
    · conv => lhs; rw [← h]
      rw [← hl, List.drop_left]
  · rintro ⟨h1, h2⟩
    rw [← h1, ← h2]; exact List.take_append_drop _ _

theorem ring_e1 (hr : Ls rg = ringL n du) (hn : n ≤ 16) {t : Nat} (ht : t < n) : EllOk ((Txt.slice rg (some t) none ++ "...") ++ Txt.slice rg none (some t)) rg (sameAt n du t) := by
  have hl : rg.length = n := by rw [← len_Ls, hr, ringL_len]
  have ha := slice_from rg (i := t) (by omega)
  have hb := slice_to rg (i := t) (by omega)
  rw [hr] at ha hb
  have hla : (Txt.slice rg (some t) none).length = n - t := by rw [← len_Ls, ha, List.length_drop, ringL_len]
  have hlb : (Txt.slice rg none (some t)).length = t := by rw [← len_Ls, hb, List.length_take, ringL_len]; omega
  refine EllOk.of (ws := [Txt.slice rg (some t) none, Txt.slice rg none (some t)]) (fun w hw h => ?_) ?_ (Nat.le_of_ble_eq_true rfl) (Nat.le_of_ble_eq_true rfl) ?_ (by omega) (fun w hw => ?_) ?_
  · simp only [List.mem_cons, List.not_mem_nil, or_false] at hw
    rcases hw with rfl | rfl
    · rw [ha] at h; exact no_dot (List.mem_of_mem_drop h)
    · rw [hb] at h; exact no_dot (List.mem_of_mem_take h)
  · rw [Ls_append, Ls_append, dots_Ls]; simp [joinL]
  · rw [← len_Ls, Ls_append, Ls_append, List.length_append, List.length_append, len_Ls, len_Ls, len_Ls, dots_len]; omega
  · simp only [List.mem_cons, List.not_mem_nil, or_false] at hw
    rcases hw with rfl | rfl <;> omega
  · rw [same_turn (by omega)]
    unfold ellRun
    show (if (Txt.slice rg (some t) none).length = 0 then _ else if Txt.startswith rg (Txt.slice rg (some t) none) then ellTail rg [Txt.slice rg none (some t)] (Txt.slice rg (some t) none).length else false) = _
    rw [if_neg (by omega), starts_iff, ha, hr, List.length_drop, ringL_len]
    have hiff := split_same (du := du) (t := t) (n := n) (by omega)
    by_cases h1 : (ringL n du).take (n - t) = (ringL n du).drop t
    · rw [decide_eq_true h1, if_pos rfl]
      unfold ellTail
      show (if (Txt.slice rg none (some t)).length = 0 then ellEnd rg [Txt.slice rg none (some t)] ((Txt.slice rg (some t) none).length : Int) rg.length else if Txt.endswith rg (Txt.slice rg none (some t)) then ellEnd rg [] ((Txt.slice rg (some t) none).length : Int) (rg.length - ((Txt.slice rg none (some t)).length : Int)) else false) = _
      rw [hla, hlb, hl]
      by_cases h0 : t = 0
      · subst h0
        rw [if_pos rfl]
        unfold ellEnd
        rw [if_neg (by omega)]
        unfold ellLoop
        rw [show ((n - 0 : Nat) : Int) = (n : Nat) by omega, find4_empty (by omega) (Nat.le_refl n) (by omega), if_neg (by omega)]
        unfold ellLoop
        symm
        rw [decide_eq_true_eq, List.drop_zero, List.take_zero, List.append_nil]
      · rw [if_neg h0, ends_iff (by omega), hr, hb, hl, hlb]
        by_cases h2 : (ringL n du).drop (n - t) = (ringL n du).take t
        · rw [decide_eq_true h2, if_pos rfl, decide_eq_true (hiff.mpr ⟨h1, h2⟩)]
          unfold ellEnd
          rw [if_neg (by omega)]
          rfl
        · rw [decide_eq_false h2, if_neg Bool.false_ne_true, decide_eq_false fun h => h2 (hiff.mp h).2]
    · rw [decide_eq_false h1, if_neg Bool.false_ne_true, decide_eq_false fun h => h1 (hiff.mp h).1]

theorem ring_e2 (hr : Ls rg = ringL n du) (hn : n ≤ 16) {t : Nat} (ht : t < n) : EllOk ((Txt.slice rg none (some (t + 1 : Nat)) ++ "...") ++ Txt.slice rg (some t) none) rg false := by
  have hl : rg.length = n := by rw [← len_Ls, hr, ringL_len]
  have ha := slice_from rg (i := t) (by omega)
  have hb := slice_to rg (i := t + 1) (by omega)
  rw [hr] at ha hb
  have hla : (Txt.slice rg (some t) none).length = n - t := by rw [← len_Ls, ha, List.length_drop, ringL_len]
  have hlb : (Txt.slice rg none (some (t + 1 : Nat))).length = t + 1 := by rw [← len_Ls, hb, List.length_take, ringL_len]; omega
  refine EllOk.of (ws := [Txt.slice rg none (some (t + 1 : Nat)), Txt.slice rg (some t) none]) (fun w hw h => ?_) ?_ (Nat.le_of_ble_eq_true rfl) (Nat.le_of_ble_eq_true rfl) ?_ (by omega) (fun w hw => ?_) ?_
  · simp only [List.mem_cons, List.not_mem_nil, or_false] at hw
    rcases hw with rfl | rfl
    · rw [hb] at h; exact no_dot (List.mem_of_mem_take h)
    · rw [ha] at h; exact no_dot (List.mem_of_mem_drop h)
  · rw [Ls_append, Ls_append, dots_Ls]; simp [joinL]
  · rw [← len_Ls, Ls_append, Ls_append, List.length_append, List.length_append, len_Ls, len_Ls, len_Ls, dots_len]; omega
  · simp only [List.mem_cons, List.not_mem_nil, or_false] at hw
    rcases hw with rfl | rfl <;> omega
  · unfold ellRun
    show (if (Txt.slice rg none (some (t + 1 : Nat))).length = 0 then _ else if Txt.startswith rg (Txt.slice rg none (some (t + 1 : Nat))) then ellTail rg [Txt.slice rg (some t) none] (Txt.slice rg none (some (t + 1 : Nat))).length else false) = _
    rw [if_neg (by omega)]
    split
    · unfold ellTail
      show (if (Txt.slice rg (some t) none).length = 0 then _ else if Txt.endswith rg (Txt.slice rg (some t) none) then ellEnd rg [] ((Txt.slice rg none (some (t + 1 : Nat))).length : Int) ((rg.length : Int) - ((Txt.slice rg (some t) none).length : Int)) else false) = _
      rw [if_neg (by omega)]
      split
      · unfold ellEnd
        rw [if_pos (by omega)]
      · rfl
    · rfl

/-- the words of the middle: nothing, the ring (k times), nothing -/
theorem ring_e3 (hr : Ls rg = ringL n du) (hn : n ≤ 16) (h1 : 1 ≤ n) : EllOk (("..." ++ rg) ++ "...") (Txt.slice (rg ++ rg) (some 1) (some (-1))) (decide (((List.range n).map (sameAt n du)).count true > 1)) := by
  have hl : rg.length = n := by rw [← len_Ls, hr, ringL_len]
  have hl2 : (rg ++ rg).length = 2 * n := by rw [← len_Ls, Ls_append, List.length_append, len_Ls]; omega
  have hg := slice_mid (rg ++ rg) (by omega)
  rw [Ls_append, hr, hl2] at hg
  have hlg : (Txt.slice (rg ++ rg) (some 1) (some (-1))).length = 2 * n - 2 := by
    rw [← len_Ls, hg, List.length_take, List.length_drop, List.length_append, ringL_len]; omega
  have he : Ls (⟨#[]⟩ : Str) = [] := rfl
  refine EllOk.of (ws := [⟨#[]⟩, rg, ⟨#[]⟩]) (fun w hw h => ?_) ?_ (Nat.le_of_ble_eq_true rfl) (Nat.le_of_ble_eq_true rfl) ?_ (by omega) (fun w hw => ?_) ?_
  · simp only [List.mem_cons, List.not_mem_nil, or_false] at hw
    rcases hw with rfl | rfl | rfl
    · cases h
    · rw [hr] at h; exact no_dot h
    · cases h
  · rw [Ls_append, Ls_append, dots_Ls, hr]
    show _ = joinL _ [[], Ls rg, []]
    rw [hr]; simp [joinL]
  · rw [← len_Ls, Ls_append, Ls_append, List.length_append, List.length_append, len_Ls, len_Ls, dots_len]; omega
  · simp only [List.mem_cons, List.not_mem_nil, or_false] at hw
    rcases hw with rfl | rfl | rfl
    · exact Nat.zero_le _
    · omega
    · exact Nat.zero_le _
  · -- a turn that leaves all as it is, besides the first
    have hcnt : (((List.range n).map (sameAt n du)).count true > 1) ↔ ∃ t, 1 ≤ t ∧ t < n ∧ sameAt n du t = true := by
      obtain ⟨m, rfl⟩ : ∃ m, n = m + 1 := ⟨n - 1, by omega⟩
      rw [List.range_succ_eq_map, List.map_cons, List.count_cons, same_zero]
      simp only [beq_self_eq_true, if_true]
      constructor
      · intro h
        have hp : 0 < (((List.range m).map Nat.succ).map (sameAt (m + 1) du)).count true := by omega
        have := List.count_pos_iff.mp hp
        obtain ⟨t, ht, e⟩ := List.mem_map.mp this
        obtain ⟨u, hu, rfl⟩ := List.mem_map.mp ht
        have := List.mem_range.mp hu
        exact ⟨u + 1, by omega, by omega, e⟩
      · rintro ⟨t, q1, q2, e⟩
        have : true ∈ ((List.range m).map Nat.succ).map (sameAt (m + 1) du) := List.mem_map.mpr ⟨t, List.mem_map.mpr ⟨t - 1, List.mem_range.mpr (by omega), by omega⟩, e⟩
        have := List.count_pos_iff.mpr this
        omega
    have hat : ∀ k, k + n ≤ 2 * n - 2 → subAt (Txt.slice (rg ++ rg) (some 1) (some (-1))) rg k = sameAt n du (k + 1) := fun k hk => by
      clear hcnt
      rw [same_turn (by omega), Bool.eq_iff_iff, subAt_iff, decide_eq_true_eq]
      show ((Ls (Txt.slice (rg ++ rg) (some 1) (some (-1)))).drop k).take rg.length = Ls rg ↔ _
      rw [hg, hr, hl]
      have e : (((ringL n du ++ ringL n du).drop 1).take (2 * n - 2)).drop k = ((ringL n du ++ ringL n du).drop (k + 1)).take (2 * n - 2 - k) := by
        rw [List.drop_take, List.drop_drop, Nat.add_comm]
      rw [e, List.take_take, Nat.min_eq_left (by omega), List.drop_append_of_le_length (by rw [ringL_len]; omega), List.take_append, List.length_drop, ringL_len, List.take_of_length_le (by rw [List.length_drop, ringL_len]; omega)]
      rw [show n - (n - (k + 1)) = k + 1 by omega]
    unfold ellRun
    show (if (⟨#[]⟩ : Str).length = 0 then ellTail _ [⟨#[]⟩, rg, ⟨#[]⟩] 0 else _) = _
    rw [if_pos (show (⟨#[]⟩ : Str).length = 0 from rfl)]
    unfold ellTail
    show (if (⟨#[]⟩ : Str).length = 0 then ellEnd _ [⟨#[]⟩, rg, ⟨#[]⟩] 0 _ else _) = _
    rw [if_pos (show (⟨#[]⟩ : Str).length = 0 from rfl), hlg]
    unfold ellEnd
    rw [if_neg (by omega)]
    unfold ellLoop
    have z := find4_empty (x := Txt.slice (rg ++ rg) (some 1) (some (-1))) (y := ⟨#[]⟩) rfl (lo := 0) (hi := 2 * n - 2) (Nat.zero_le _) (by omega)
    rw [show ((0 : Nat) : Int) = 0 from rfl] at z
    rw [z, if_neg (by omega)]
    unfold ellLoop
    show (if find4 _ rg ((0 : Nat) : Int) _ < 0 then false else ellLoop _ _ [⟨#[]⟩] (find4 _ rg ((0 : Nat) : Int) _ + rg.length)) = _
    rcases find4_spec (Txt.slice (rg ++ rg) (some 1) (some (-1))) rg (lo := 0) (hi := 2 * n - 2) (Nat.zero_le _) (by omega) with ⟨q, q2⟩ | ⟨k, q, _, q2, q3, _⟩
    · rw [q, if_pos (by decide)]
      symm
      rw [decide_eq_false_iff_not, hcnt]
      rintro ⟨t, t1, t2, e⟩
      have := q2 (t - 1) (Nat.zero_le _) (by omega)
      rw [hat _ (by omega), show t - 1 + 1 = t by omega, e] at this; cases this
    · rw [hl] at q2
      rw [q, if_neg (by omega)]
      unfold ellLoop
      rw [hl, show (k : Int) + n = ((k + n : Nat) : Int) by omega, find4_empty rfl (by omega) (by omega), if_neg (by omega)]
      unfold ellLoop
      symm
      rw [decide_eq_true_eq, hcnt]
      exact ⟨k + 1, by omega, by omega, by rw [← hat k q2]; exact q3⟩

theorem ring_e4 (hr : Ls rg = ringL n du) (hn : n ≤ 16) (h1 : 1 ≤ n) : EllOk (((("..." ++ rg) ++ "...") ++ rg) ++ "...") (Txt.slice (rg ++ rg) (some 1) none) false := by
  have hl : rg.length = n := by rw [← len_Ls, hr, ringL_len]
  have hl2 : (rg ++ rg).length = 2 * n := by rw [← len_Ls, Ls_append, List.length_append, len_Ls]; omega
  have hg := slice_from (rg ++ rg) (i := 1) (by omega)
  rw [show ((1 : Nat) : Int) = 1 from rfl] at hg
  have hlg : (Txt.slice (rg ++ rg) (some 1) none).length = 2 * n - 1 := by
    rw [← len_Ls, hg, List.length_drop, len_Ls]; omega
  refine EllOk.of (ws := [⟨#[]⟩, rg, rg, ⟨#[]⟩]) (fun w hw h => ?_) ?_ (Nat.le_of_ble_eq_true rfl) (Nat.le_of_ble_eq_true rfl) ?_ (by omega) (fun w hw => ?_) ?_
  · simp only [List.mem_cons, List.not_mem_nil, or_false] at hw
    rcases hw with rfl | rfl | rfl | rfl
    · cases h
    · rw [hr] at h; exact no_dot h
    · rw [hr] at h; exact no_dot h
    · cases h
  · rw [Ls_append, Ls_append, Ls_append, Ls_append, dots_Ls, hr]
    show _ = joinL _ [[], Ls rg, Ls rg, []]
    rw [hr]; simp [joinL]
  · rw [← len_Ls, Ls_append, Ls_append, Ls_append, Ls_append, List.length_append, List.length_append, List.length_append, List.length_append, len_Ls, len_Ls, dots_len]; omega
  · simp only [List.mem_cons, List.not_mem_nil, or_false] at hw
    rcases hw with rfl | rfl | rfl | rfl
    · exact Nat.zero_le _
    · omega
    · omega
    · exact Nat.zero_le _
  · unfold ellRun
    show (if (⟨#[]⟩ : Str).length = 0 then ellTail _ [⟨#[]⟩, rg, rg, ⟨#[]⟩] 0 else _) = _
    rw [if_pos (show (⟨#[]⟩ : Str).length = 0 from rfl)]
    unfold ellTail
    show (if (⟨#[]⟩ : Str).length = 0 then ellEnd _ [⟨#[]⟩, rg, rg, ⟨#[]⟩] 0 _ else _) = _
    rw [if_pos (show (⟨#[]⟩ : Str).length = 0 from rfl), hlg]
    unfold ellEnd
    rw [if_neg (by omega)]
    unfold ellLoop
    have z := find4_empty (x := Txt.slice (rg ++ rg) (some 1) none) (y := ⟨#[]⟩) rfl (lo := 0) (hi := 2 * n - 1) (Nat.zero_le _) (by omega)
    rw [show ((0 : Nat) : Int) = 0 from rfl] at z
    rw [z, if_neg (by omega)]
    unfold ellLoop
    show (if find4 _ rg ((0 : Nat) : Int) _ < 0 then false else ellLoop _ _ [rg, ⟨#[]⟩] (find4 _ rg ((0 : Nat) : Int) _ + rg.length)) = _
    rcases find4_spec (Txt.slice (rg ++ rg) (some 1) none) rg (lo := 0) (hi := 2 * n - 1) (Nat.zero_le _) (by omega) with ⟨q, q2⟩ | ⟨k, q, _, q2, q3, _⟩
    · rw [q, if_pos (by decide)]
    · rw [hl] at q2
      rw [q, if_neg (by omega)]
      unfold ellLoop
      rw [hl, show (k : Int) + n = ((k + n : Nat) : Int) by omega]
      rcases find4_spec (Txt.slice (rg ++ rg) (some 1) none) rg (lo := k + n) (hi := 2 * n - 1) (by omega) (by omega) with ⟨r, _⟩ | ⟨j, _, r1, r2, _⟩
      · rw [r, if_pos (by decide)]
      · rw [hl] at r2; omega
end
end Mine
end
section
local macro_rules | `(tactic| omega) => `(tactic| lia)
open PySem PySem.W PySem.Calls PyProof.Rows PySem.Builtin
namespace Mine

theorem sum_pick (f : Nat → Nat) (p : Nat) : ∀ n, ((List.range n).map fun q => if q = p then f q else 0).sum = if p < n then f p else 0
  | 0 => rfl
  | n + 1 => by
    rw [List.range_succ, List.map_append, List.sum_append, sum_pick f p n]
    simp only [List.map_cons, List.map_nil, List.sum_cons, List.sum_nil]
    by_cases h : n = p
    · subst h; rw [if_neg (Nat.lt_irrefl _), if_pos rfl, if_pos (Nat.lt_succ_self _)]; omega
    · rw [if_neg h]
      by_cases h2 : p < n
      · rw [if_pos h2, if_pos (by omega)]; rfl
      · rw [if_neg h2, if_neg (by omega)]; rfl
section
variable {n a b : Nat}
/-- the sums, by places alone -/
def sumsN (n a b : Nat) : List Nat := (bitsOf n a).flatMap fun i => (bitsOf n b).map fun j => (i + j) % n
def rowN (n : Nat) (du : Nat → Nat) : List Nat := (List.range n).flatMap fun p => List.replicate (du p) p
theorem row_eq (du : Nat → Nat) : rowOf n du = (rowN n du).map fun p : Nat => (256 - n + (p : Int) : Int) := by
  unfold rowOf rowN
  rw [List.map_flatMap]
  congr 1
  funext p
  rw [List.map_replicate]
theorem sums_eq (hn : 1 ≤ n) : (((plOf n a).flatMap fun x => (plOf n b).map fun y => (x, y)).map (symOf n)) = (sumsN n a b).map fun p : Nat => (256 - n + (p : Int) : Int) := by
  unfold plOf sumsN
  rw [List.map_flatMap, List.map_flatMap, List.flatMap_map]
  rw [List.flatMap_def, List.flatMap_def]
  congr 1
  refine List.map_congr_left fun i hi => ?_
  rw [List.map_map, List.map_map, List.map_map]
  refine List.map_congr_left fun j hj => ?_
  have h1 := List.mem_range.mp (List.mem_filter.mp hi).1
  have h2 := List.mem_range.mp (List.mem_filter.mp hj).1
  show symOf n ((i : Int), (j : Int)) = 256 - n + ((i + j) % n : Nat)
  unfold symOf
  by_cases h : n ≤ i + j
  · rw [if_pos (by show (i : Int) + j ≥ n; omega), Nat.mod_eq_sub_mod h, Nat.mod_eq_of_lt (by omega)]
    show (256 - n + i + j - n : Int) = _
    omega
  · rw [if_neg (by show ¬ (i : Int) + j ≥ n; omega), Nat.mod_eq_of_lt (by omega)]
    show (256 - n + i + j : Int) = _
    omega
theorem count_row (du : Nat → Nat) (p : Nat) : (rowN n du).count p = if p < n then du p else 0 := by
  unfold rowN
  rw [List.count_flatMap, ← sum_pick du p n]
  congr 1
  refine List.map_congr_left fun q _ => ?_
  show (List.replicate (du q) q).count p = _
  rw [List.count_replicate]
  simp
theorem one_place {i p j : Nat} (hi : i < n) (hj : j < n) (hp : p < n) : (i + j) % n = p ↔ j = (p + n - i) % n := by
  have e1 : (i + j) % n = if n ≤ i + j then i + j - n else i + j := by
    split
    · rw [Nat.mod_eq_sub_mod (by assumption), Nat.mod_eq_of_lt (by omega)]
    · rw [Nat.mod_eq_of_lt (by omega)]
  have e2 : (p + n - i) % n = if i ≤ p then p - i else p + n - i := by
    split
    · rw [Nat.mod_eq_sub_mod (by omega), Nat.mod_eq_of_lt (by omega)]; omega
    · rw [Nat.mod_eq_of_lt (by omega)]
  rw [e1, e2]
  split <;> split <;> omega
theorem count_sums (hn : 1 ≤ n) (p : Nat) : (sumsN n a b).count p = if p < n then duOf n a b p else 0 := by
  by_cases hp : p < n
  · rw [if_pos hp]
    unfold sumsN duOf
    rw [List.count_flatMap]
    unfold bitsOf
    have key : ∀ l : List Nat, (∀ i ∈ l, i < n) → ((l.filter fun i => a.testBit i).map (List.count p ∘ fun i => ((List.range n).filter fun j => b.testBit j).map fun j => (i + j) % n)).sum = (l.map fun i => if a.testBit i && b.testBit ((p + n - i) % n) then 1 else 0).sum := by
      intro l
      induction l with
      | nil => intro _; rfl
      | cons i l ih =>
        intro h
        have hi := h i (.head _)
        have ih := ih fun x hx => h x (.tail _ hx)
        rw [List.filter_cons, List.map_cons, List.sum_cons]
        cases ha : a.testBit i with
        | false => simpa using ih
        | true =>
          rw [if_pos rfl, List.map_cons, List.sum_cons, ih]
          congr 1
          show (((List.range n).filter fun j => b.testBit j).map fun j => (i + j) % n).count p = _
          rw [List.count, List.countP_map, List.countP_filter]
          have hj0 : (p + n - i) % n < n := Nat.mod_lt _ hn
          have : (List.range n).countP (fun j => ((fun x => x == p) ∘ fun j => (i + j) % n) j && b.testBit j) = (List.range n).countP (fun j => j == (p + n - i) % n && b.testBit ((p + n - i) % n)) := by
            refine List.countP_congr fun j hj => ?_
            have hj := List.mem_range.mp hj
            have := one_place (p := p) hi hj hp
            simp only [Function.comp, Bool.and_eq_true, beq_iff_eq]
            constructor
            · rintro ⟨q1, q2⟩
              have e := this.mp q1
              exact ⟨e, by rw [← e]; exact q2⟩
            · rintro ⟨q1, q2⟩
              exact ⟨this.mpr q1, by rw [q1]; exact q2⟩
          rw [this]
          cases hb : b.testBit ((p + n - i) % n) with
          | false => simp
          | true =>
            simp only [Bool.and_true, if_true]
            have := List.nodup_range.count (a := (p + n - i) % n) (l := List.range n)
            rw [if_pos (List.mem_range.mpr hj0)] at this
            exact this
    exact key _ fun i hi => List.mem_range.mp hi
  · rw [if_neg hp]
    refine List.count_eq_zero.mpr fun h => ?_
    obtain ⟨i, _, h⟩ := List.mem_flatMap.mp h
    obtain ⟨j, _, e⟩ := List.mem_map.mp h
    have := Nat.mod_lt (i + j) hn
    omega
theorem sums_perm (hn : 1 ≤ n) : (sumsN n a b).Perm (rowN n (duOf n a b)) := List.perm_iff_count.mpr fun p => by rw [count_sums hn, count_row]
theorem sums_row (hn : 1 ≤ n) {ks : List Int} (hs : ks.Pairwise (· ≤ ·)) (hp : ks.Perm (((plOf n a).flatMap fun x => (plOf n b).map fun y => (x, y)).map (symOf n))) : ks = rowOf n (duOf n a b) := by
  rw [sums_eq hn] at hp
  have h2 : ks.Perm (rowOf n (duOf n a b)) := by
    rw [row_eq]
    exact hp.trans ((sums_perm hn).map _)
  exact h2.eq_of_pairwise (fun x y _ _ h3 h4 => Int.le_antisymm h3 h4) hs row_sorted
end

-- the operators
def signsText : Str := "( ) [ ] : , ; + - * / | & < > = . % { } == != <= >= ~ ^ << >> ** += -= *= /= %= &= |= ^= <<= >>= **= // //= @ @= -> ..."
def sgOfN (i : Nat) : Str := (signsOf signsText).getD i ⟨#[]⟩
def tokTab : List (Str × PyData) := ([("!", 54), ("!=", 28), ("%", 24), ("%=", 40), ("&", 19), ("&=", 41), ("(", 7), (")", 8), ("*", 16), ("**", 35), ("**=", 46), ("*=", 38), ("+", 14), ("+=", 36), (",", 12), ("-", 15), ("-=", 37), ("->", 51), (".", 23), ("...", 52), ("/", 17), ("//", 47), ("//=", 48), ("/=", 39), (":", 11), (":=", 53), (";", 13), ("<", 20), ("<<", 33), ("<<=", 44), ("<=", 29), ("=", 22), ("==", 27), (">", 21), (">=", 30), (">>", 34), (">>=", 45), ("@", 49), ("@=", 50), ("[", 9), ("]", 10), ("^", 32), ("^=", 43), ("{", 25), ("|", 18), ("|=", 42), ("}", 26), ("~", 31)] : List (String × Int)).map fun p => (Str.ofString p.1, .int p.2)
theorem signs_len : (signsOf signsText).length = 48 := by decide +kernel
theorem signs_get {i : Nat} (h : i < 48) : (signsOf signsText)[i]? = some (sgOfN i) := by
  have : i < (signsOf signsText).length := by rw [signs_len]; exact h
  simp [sgOfN, List.getD_eq_getElem?_getD, this]
theorem signs_small : ∀ i, i < 48 → (sgOfN i).length ≤ 3 ∧ (Ls (sgOfN i)).contains 32 = false ∧ (match KTD.datumAt (sgOfN i) tokTab with | some (.int k) => k == 7 + (i : Int) | _ => false) = true := by decide +kernel
theorem signs_tok {i : Nat} (h : i < 48) : KTD.datumAt (sgOfN i) tokTab = some (.int (7 + (i : Nat))) := by
  have := (signs_small i h).2.2
  split at this
  · rename_i k e; rw [e, beq_iff_eq.mp this]
  · cases this
theorem blank_Ls : Ls (" " : Str) = 32 :: [] := by decide +kernel
theorem texts_ok {n m b0 : Nat} (hn : n ≤ 16) (hb : b0 ≤ 32) (hne : bitsOf n m ≠ []) :
    JoinOk " " ((bitsOf n m).map fun p => sgOfN (b0 + p)) = true ∧ (Txt.join " " ((bitsOf n m).map fun p => sgOfN (b0 + p))).length ≤ 100000 ∧ SplitOk (Txt.join " " ((bitsOf n m).map fun p => sgOfN (b0 + p))) " " ((bitsOf n m).map fun p => sgOfN (b0 + p)) := by
  have hlt : ∀ p ∈ bitsOf n m, b0 + p < 48 := fun p hp => by
    have := List.mem_range.mp (List.mem_filter.mp hp).1; omega
  have hl : ((bitsOf n m).map fun p => sgOfN (b0 + p)).length ≤ 16 := by
    rw [List.length_map]
    have := List.length_filter_le (fun i => m.testBit i) (List.range n)
    rw [List.length_range] at this
    exact Nat.le_trans this hn
  have h3 : ∀ w ∈ (bitsOf n m).map fun p => sgOfN (b0 + p), w.length ≤ 3 := fun w hw => by
    obtain ⟨p, hp, rfl⟩ := List.mem_map.mp hw
    exact (signs_small _ (hlt p hp)).1
  have hbl : (" " : Str).length = 1 := by decide +kernel
  refine ⟨joinOk_of h3 (by rw [hbl]; omega), ?_, ?_⟩
  · have := join_len (sep := " ") h3
    rw [hbl] at this; omega
  · refine split_join blank_Ls (by decide +kernel) (by simpa using hne) (fun w hw h => ?_) (join_Ls _ _)
    obtain ⟨p, hp, rfl⟩ := List.mem_map.mp hw
    have := (signs_small _ (hlt p hp)).2.1
    rw [List.contains_eq_mem, decide_eq_false_iff_not] at this
    exact this h
end Mine
end
section
local macro_rules | `(tactic| omega) => `(tactic| lia)
open PySem PySem.W PySem.Calls PyProof.Rows PySem.Builtin
namespace Mine

theorem hex_len (i : Int) (h0 : 0 ≤ i) (h : i < 2 ^ 40) : (baseText "0x" 16 i).length ≤ 1000 := by
  have h10 : i.natAbs < 16 ^ 10 := by
    have e : (2 : Int) ^ 40 = ((16 ^ 10 : Nat) : Int) := by decide +kernel
    rw [e] at h; omega
  have h1 := toDigits_len_pow (b := 16) (k := 10) (by decide) (by decide) h10
  rw [baseText_nonneg h0, Str.length_append, Str.length_append, ofString_ofList_length (Nat.toDigits 16 i.natAbs)]
  have h2 : (Str.ofString "").length = 0 := by decide +kernel
  have h3 : (Str.ofString "0x").length = 2 := by decide +kernel
  omega
abbrev nmW (p : Nat) : Str := flagNameW flagWords p
def flagTab : List (Int × PyData) := ([(1, "OPTIMIZED"), (2, "NEWLOCALS"), (4, "VARARGS"), (8, "VARKEYWORDS"), (16, "NESTED"), (32, "GENERATOR"), (64, "NOFREE"), (128, "COROUTINE"), (256, "ITERABLE_COROUTINE"), (512, "ASYNC_GENERATOR")] : List (Int × String)).map fun p => (p.1, .str (Str.ofString p.2))
abbrev flagTabD : List (PyData × PyData) := flagTab.map fun p => (PyData.int p.1, p.2)
def lookOk (i : Nat) : Bool := match (PySem.Spec.lookup (.int (1 * 2 ^ i)) flagTabD).getD (.str (baseText "0x" 16 (1 * 2 ^ i))) with
  | .str y => y == nmW i
  | _ => false
theorem nm_small : ∀ p, p < 33 → (nmW p).length ≤ 100 ∧ (Ls (nmW p)).contains 44 = false := by decide +kernel
theorem nm_look : ∀ p, p < 32 → lookOk p = true := by decide +kernel
theorem nm_32 : nmW 32 = baseText "0x" 16 (2 ^ 32) := by decide +kernel
theorem nm_inj : ∀ i, i < 33 → ∀ j, j < 33 → nmW i = nmW j → i = j := by decide +kernel
theorem look_get {i : Nat} (h : i < 32) : (PySem.Spec.lookup (.int (1 * 2 ^ i)) flagTabD).getD (.str (baseText "0x" 16 (1 * 2 ^ i))) = .str (nmW i) := by
  have := nm_look i h
  unfold lookOk at this
  split at this
  · rename_i y e; rw [e, beq_iff_eq.mp this]
  · cases this
section
variable {n w : Nat} {du : Nat → Nat}
theorem supp_lt {p : Nat} (h : p ∈ suppOf n du) : p < n := List.mem_range.mp (List.mem_filter.mp h).1
theorem supp_len : (suppOf n du).length ≤ n := by
  have := List.length_filter_le (fun p => decide (0 < du p)) (List.range n)
  rwa [List.length_range] at this
theorem name_in (hw : w + n ≤ 33) {i : Nat} (hi : i < n) : (((suppOf n du).map fun p => nmW (w + p)).any fun y => y == nmW (w + i)) = decide (0 < du i) := by
  rw [Bool.eq_iff_iff, List.any_eq_true, decide_eq_true_eq]
  constructor
  · rintro ⟨y, hy, e⟩
    obtain ⟨p, hp, rfl⟩ := List.mem_map.mp hy
    have hpn := supp_lt hp
    have := nm_inj _ (by omega) _ (by omega) (beq_iff_eq.mp e)
    have hpi : p = i := by omega
    subst hpi
    exact of_decide_eq_true (List.mem_filter.mp hp).2
  · intro h
    exact ⟨_, List.mem_map.mpr ⟨i, List.mem_filter.mpr ⟨List.mem_range.mpr hi, decide_eq_true h⟩, rfl⟩, by simp⟩
theorem comma_Ls : Ls (", " : Str) = 44 :: [32] := by decide +kernel
theorem words_ok (hw : w + n ≤ 33) (hn : n ≤ 16) (hs : suppOf n du ≠ []) :
    JoinOk ", " ((suppOf n du).map fun p => nmW (w + p)) = true ∧ (Txt.join ", " ((suppOf n du).map fun p => nmW (w + p))).length ≤ 100000 ∧ SplitOk (Txt.join ", " ((suppOf n du).map fun p => nmW (w + p))) ", " ((suppOf n du).map fun p => nmW (w + p)) := by
  have hl : ((suppOf n du).map fun p => nmW (w + p)).length ≤ 16 := by
    rw [List.length_map]; exact Nat.le_trans supp_len hn
  have h3 : ∀ y ∈ (suppOf n du).map fun p => nmW (w + p), y.length ≤ 100 := fun y hy => by
    obtain ⟨p, hp, rfl⟩ := List.mem_map.mp hy
    have := supp_lt hp
    exact (nm_small _ (by omega)).1
  have hbl : (", " : Str).length = 2 := by decide +kernel
  refine ⟨joinOk_of h3 (by rw [hbl]; omega), ?_, ?_⟩
  · have := join_len (sep := ", ") h3
    rw [hbl] at this; omega
  · refine split_join comma_Ls (by decide +kernel) (by simpa using hs) (fun y hy h => ?_) (join_Ls _ _)
    obtain ⟨p, hp, rfl⟩ := List.mem_map.mp hy
    have := supp_lt hp
    have := (nm_small (w + p) (by omega)).2
    rw [List.contains_eq_mem, decide_eq_false_iff_not] at this
    exact this h
theorem flags_small (hw : w + n ≤ 33) : flagsN n w du < 2 ^ 33 := Nat.lt_of_lt_of_le (flagsN_lt w du n) (Nat.pow_le_pow_right (by decide) hw)
theorem ring_join (hn : n ≤ 16) : JoinOk "" (ringW n du) = true := by
  have h1 : ∀ y ∈ ringW n du, y.length ≤ 1 := fun y hy => by
    obtain ⟨p, _, rfl⟩ := List.mem_map.mp hy
    split
    · exact Nat.le_of_eq (by decide +kernel)
    · exact Nat.le_of_eq (by decide +kernel)
  refine joinOk_of h1 ?_
  rw [show ("" : Str).length = 0 by decide +kernel]
  unfold ringW
  rw [List.length_map, List.length_range]; omega
end
end Mine
end
section
open PySem PySem.W PySem.Calls PyProof.Rows PySem.Builtin
namespace Mine

/-- the function at an address of the written part -/
def fdOf (K : Frag) (a : Addr) : FuncData := match K.lookup a with
  | some ⟨_, _, .func fd, _⟩ => fd
  | _ => default
def codeOk (K : Frag) (T : Addr) (v : Value) (q : Str) : Bool := match v with
  | .ref c => c != T && (match K.lookup c with
    | some ⟨_, _, .fields vs, _⟩ => (match (vs[1]? : Option Value) with
      | some (.str x _) => x == q
      | _ => false)
    | _ => false)
  | _ => false
/-- a def of the text stands in the written part -/
structure FnOk (K : Frag) (T : Addr) (i : Nat) (name : Str) (a : Addr) : Prop where
  isf : fnIn K a = true
  body : (fdOf K a).body = .stmts (bodyAt i)
  scp : (fdOf K a).scope = scopeAt i
  glob : (fdOf K a).globals = mainGlobals
  blt : (fdOf K a).builtins = builtinsNs
  clo : (fdOf K a).closure = []
  cdr : codeOk K T (fdOf K a).code (fdOf K a).qualname = true
  ns : nsIn K mainGlobals name = some (some (.ref a))
def plainScope (sc : Scope) : Bool := (sc.names.all fun p => p.2 != .free) && !sc.isCoroutine && !sc.isGenerator && sc.kind == .function

theorem FnOk.at {G : Gd} (g : G.K.In G.s1.heap) {i : Nat} {name : Str} {a : Addr} (h : FnOk G.K G.T i name a) (hs : plainScope (scopeAt i) = true) : FnAt G i name a (fdOf G.K a).code (fdOf G.K a) := by
  have hl : ∃ oc od sl, G.K.lookup a = some ⟨oc, od, .func (fdOf G.K a), sl⟩ := by
    have := h.isf
    unfold fnIn at this
    split at this
    · rename_i e
      exact ⟨_, _, _, by unfold fdOf; rw [e]⟩
    · cases this
  obtain ⟨oc, od, sl, hl⟩ := hl
  unfold plainScope at hs
  simp only [Bool.and_eq_true, Bool.not_eq_true', beq_iff_eq] at hs
  obtain ⟨⟨⟨h1, h2⟩, h3⟩, h4⟩ := hs
  have hc : ∃ c o vs t, (fdOf G.K a).code = .ref c ∧ c ≠ G.T ∧ G.K.lookup c = some o ∧ o.data = .fields vs ∧ vs[1]? = some (.str (fdOf G.K a).qualname t) := by
    have := h.cdr
    unfold codeOk at this
    split at this
    · rename_i c e
      simp only [Bool.and_eq_true] at this
      obtain ⟨q1, q2⟩ := this
      split at q2
      · rename_i vs _ e2
        split at q2
        · rename_i x t e3
          have := beq_iff_eq.mp q2
          subst this
          exact ⟨c, _, vs, t, e, by simpa using q1, e2, rfl, e3⟩
        · cases q2
      · cases q2
    · cases this
  obtain ⟨c, o, vs, t, e1, e2, e3, e4, e5⟩ := hc
  refine ⟨⟨⟨oc, od, sl, g _ _ hl⟩, h.body, h.scp, rfl, h.glob, h.blt, h.clo, ⟨c, o, vs, t, e1, g _ _ e3, e4, e5⟩, fun q => ?_, h1, h2, h3, h4⟩, h.ns, ?_⟩
  · rw [e1] at q; cases q; exact e2 rfl
  · unfold keepIn; simp only [hl]

theorem len1 {α : Type} {l : List α} (h : l.length = 1) : ∃ a, l = [a] := List.length_eq_one_iff.mp h
theorem lenS {α : Type} {l : List α} {n : Nat} (h : l.length = n + 1) : ∃ a m, l = a :: m ∧ m.length = n := by
  cases l with
  | nil => cases h
  | cons a l => exact ⟨a, l, rfl, Nat.succ.inj h⟩
theorem len2 {α : Type} {l : List α} (h : l.length = 2) : ∃ a b, l = [a, b] := by
  obtain ⟨a, m, rfl, hm⟩ := lenS h
  obtain ⟨b, rfl⟩ := len1 hm
  exact ⟨a, b, rfl⟩
theorem len3 {α : Type} {l : List α} (h : l.length = 3) : ∃ a b c, l = [a, b, c] := by
  obtain ⟨a, m, rfl, hm⟩ := lenS h
  obtain ⟨b, c, rfl⟩ := len2 hm
  exact ⟨a, b, c, rfl⟩
theorem len4 {α : Type} {l : List α} (h : l.length = 4) : ∃ a b c d, l = [a, b, c, d] := by
  obtain ⟨a, m, rfl, hm⟩ := lenS h
  obtain ⟨b, c, d, rfl⟩ := len3 hm
  exact ⟨a, b, c, d, rfl⟩
section
variable {G : Gd} {fd : FuncData}
theorem bind0 (e : ∀ S, peek G.K S (bindArgs fd ⟨[], []⟩) = some []) : BindAs G fd [] [] [] [] := fun σ s vs X hl => by
  obtain rfl := List.length_eq_zero_iff.mp hl
  exact ⟨[], kp_binds X e, fun r => r⟩
theorem bind1 {x : Str} (e : ∀ S v, peek G.K S (bindArgs fd ⟨[v], []⟩) = some [(x, v)]) (d : D) : BindAs G fd [] [x] [d] [d] := fun σ s vs X hl => by
  obtain ⟨v, rfl⟩ := len1 hl
  exact ⟨[v], kp_binds X fun S => e S v, fun r => r⟩
theorem bind2 {x y : Str} (e : ∀ S v w, peek G.K S (bindArgs fd ⟨[v, w], []⟩) = some [(x, v), (y, w)]) (d1 d2 : D) : BindAs G fd [] [x, y] [d1, d2] [d1, d2] := fun σ s vs X hl => by
  obtain ⟨v, w, rfl⟩ := len2 hl
  exact ⟨[v, w], kp_binds X fun S => e S v w, fun r => r⟩
theorem bind3 {x y z : Str} (e : ∀ S v w u, peek G.K S (bindArgs fd ⟨[v, w, u], []⟩) = some [(x, v), (y, w), (z, u)]) (d1 d2 d3 : D) : BindAs G fd [] [x, y, z] [d1, d2, d3] [d1, d2, d3] := fun σ s vs X hl => by
  obtain ⟨v, w, u, rfl⟩ := len3 hl
  exact ⟨[v, w, u], kp_binds X fun S => e S v w u, fun r => r⟩
end

/-- how a search binds its arguments -/
structure SrchPeek (K : Frag) (t : Tok) (fd : FuncData) : Prop where
  b2 : ∀ S a x, peek K S (bindArgs fd ⟨[a, x], []⟩) = some [(("a" : Str), a), ("x", x), ("lo", .int 0 t), ("hi", .none), ("key", .none)]
  b3 : ∀ S a x l, peek K S (bindArgs fd ⟨[a, x, l], []⟩) = some [(("a" : Str), a), ("x", x), ("lo", l), ("hi", .none), ("key", .none)]
  b4 : ∀ S a x l h, peek K S (bindArgs fd ⟨[a, x, l, h], []⟩) = some [(("a" : Str), a), ("x", x), ("lo", l), ("hi", h), ("key", .none)]
  k2 : ∀ S a x f, peek K S (bindArgs fd ⟨[a, x], [("key", f)]⟩) = some [(("a" : Str), a), ("x", x), ("lo", .int 0 t), ("hi", .none), ("key", f)]
  k4 : ∀ S a x l h f, peek K S (bindArgs fd ⟨[a, x, l, h], [("key", f)]⟩) = some [(("a" : Str), a), ("x", x), ("lo", l), ("hi", h), ("key", f)]
theorem SrchPeek.bind {G : Gd} {t : Tok} {fd : FuncData} (P : SrchPeek G.K t fd) : SrchBind G fd where
  b2 := fun d x σ s vs X hl => by
    obtain ⟨a, x, rfl⟩ := len2 hl
    exact ⟨[a, x, .int 0 t, .none, .none], kp_binds X fun S => P.b2 S a x, fun r => .append (.cons (.int 0 t) (.cons .none (.cons .none .nil))) r⟩
  b3 := fun d x lo σ s vs X hl => by
    obtain ⟨a, x, l, rfl⟩ := len3 hl
    exact ⟨[a, x, l, .none, .none], kp_binds X fun S => P.b3 S a x l, fun r => .append (.cons .none (.cons .none .nil)) r⟩
  b4 := fun d x lo hi σ s vs X hl => by
    obtain ⟨a, x, l, h, rfl⟩ := len4 hl
    exact ⟨[a, x, l, h, .none], kp_binds X fun S => P.b4 S a x l h, fun r => .append (.cons .none .nil) r⟩
  k2 := fun d x f σ s vs X hl => by
    obtain ⟨a, x, rfl⟩ := len2 hl
    exact ⟨[a, x, .int 0 t, .none, f], kp_binds X fun S => P.k2 S a x f, fun r => .append (.cons (.int 0 t) (.cons .none (.cons (.fn f) .nil))) r⟩
  k4 := fun d x lo hi f σ s vs X hl => by
    obtain ⟨a, x, l, h, rfl⟩ := len4 hl
    exact ⟨[a, x, l, h, f], kp_binds X fun S => P.k4 S a x l h f, fun r => .append (.cons (.fn f) .nil) r⟩

end Mine
end
section
local macro_rules | `(tactic| omega) => `(tactic| lia)
open PySem PySem.W PySem.Calls PyProof.Rows PySem.Builtin
namespace Mine

/-- what the written part says -/
structure Facts (K : Frag) (T C : Addr) : Prop where
  f1 : FnOk K T 1 "insort_right" 23
  f2 : FnOk K T 2 "bisect_right" 32
  f3 : FnOk K T 3 "insort_left" 41
  f4 : FnOk K T 4 "bisect_left" 50
  f7 : FnOk K T 7 "pretty_flags" 58
  f8 : FnOk K T 8 "_parse_varint" 65
  f11 : FnOk K T 11 "_ellipsis_match" 72
  f63 : FnOk K T 63 "ISTERMINAL" 82
  f64 : FnOk K T 64 "ISNONTERMINAL" 89
  f66 : FnOk K T 66 "_law_signs" 96
  f67 : FnOk K T 67 "_law_names" 101
  f68 : FnOk K T 68 "_law_octets" 106
  f69 : FnOk K T 69 "_law_read" 113
  f70 : FnOk K T 70 "_law_refused" 120
  f71 : FnOk K T 71 "_law_shelf" 127
  f72 : FnOk K T 72 "_law_sums" 132
  s1 : SrchPeek K 189 (fdOf K 23)
  s2 : SrchPeek K 202 (fdOf K 32)
  s3 : SrchPeek K 216 (fdOf K 41)
  s4 : SrchPeek K 229 (fdOf K 50)
  b7 : ∀ S v, peek K S (bindArgs (fdOf K 58) ⟨[v], []⟩) = some [(("flags" : Str), v)]
  b8 : ∀ S v, peek K S (bindArgs (fdOf K 65) ⟨[v], []⟩) = some [(("iterator" : Str), v)]
  b11 : ∀ S v w, peek K S (bindArgs (fdOf K 72) ⟨[v, w], []⟩) = some [(("want" : Str), v), ("got", w)]
  b63 : ∀ S v, peek K S (bindArgs (fdOf K 82) ⟨[v], []⟩) = some [(("x" : Str), v)]
  b64 : ∀ S v, peek K S (bindArgs (fdOf K 89) ⟨[v], []⟩) = some [(("x" : Str), v)]
  b66 : ∀ S, peek K S (bindArgs (fdOf K 96) ⟨[], []⟩) = some []
  b67 : ∀ S v w, peek K S (bindArgs (fdOf K 101) ⟨[v, w], []⟩) = some [(("base" : Str), v), ("size", w)]
  b68 : ∀ S v, peek K S (bindArgs (fdOf K 106) ⟨[v], []⟩) = some [(("number" : Str), v)]
  b69 : ∀ S v, peek K S (bindArgs (fdOf K 113) ⟨[v], []⟩) = some [(("octets" : Str), v)]
  b70 : ∀ S v w u, peek K S (bindArgs (fdOf K 120) ⟨[v, w, u], []⟩) = some [(("search" : Str), v), ("row", w), ("low", u)]
  b71 : ∀ S v w, peek K S (bindArgs (fdOf K 127) ⟨[v, w], []⟩) = some [(("lines" : Str), v), ("order", w)]
  b72 : ∀ S v w u, peek K S (bindArgs (fdOf K 132) ⟨[v, w, u], []⟩) = some [(("lines" : Str), v), ("size", w), ("order", u)]
  hC : (fdOf K 127).code = .ref C
  hN : nsIn K mainGlobals "NT_OFFSET" = some (some (.int 256 409))
  hM : nsIn K mainGlobals "ELLIPSIS_MARKER" = some (some (.str "..." 297))
  hD : nsIn K mainGlobals "COMPILER_FLAG_NAMES" = some (some (.ref 51))
  hT : nsIn K mainGlobals "EXACT_TOKEN_TYPES" = some (some (.ref 73))
  tT : KTD.tabLook KTD.flatLooks (fun a => K.lookup a) 73 tokTab = true
  tD : KTD.keyedLook (fun a => K.lookup a) 51 flagTab = true
  len : nsIn K mainGlobals "len" = some none
  range : nsIn K mainGlobals "range" = some none
  sum : nsIn K mainGlobals "sum" = some none
  enum : nsIn K mainGlobals "enumerate" = some none
  sorted : nsIn K mainGlobals "sorted" = some none
  min : nsIn K mainGlobals "min" = some none
  str : nsIn K mainGlobals "str" = some none
  ve : nsIn K mainGlobals "ValueError" = some none
  si : nsIn K mainGlobals "StopIteration" = some none
  next : nsIn K mainGlobals "next" = some none
  iter : nsIn K mainGlobals "iter" = some none
  hex : nsIn K mainGlobals "hex" = some none

theorem nice1 {x : Str} (h : niceName x) : ∀ y ∈ [x], niceName y := fun y hy => by rw [List.mem_singleton.mp hy]; exact h
theorem nice2 {x y : Str} (h1 : niceName x) (h2 : niceName y) : ∀ z ∈ [x, y], niceName z := fun z hz => by
  rcases List.mem_cons.mp hz with rfl | hz
  · exact h1
  · exact nice1 h2 z hz
theorem nice3 {x y u : Str} (h1 : niceName x) (h2 : niceName y) (h3 : niceName u) : ∀ z ∈ [x, y, u], niceName z := fun z hz => by
  rcases List.mem_cons.mp hz with rfl | hz
  · exact h1
  · exact nice2 h2 h3 z hz
section
variable {G : Gd} {N : Nat} {σ : Sig}
theorem c_signs {a : Addr} {cd : Value} {fd : FuncData} (F : FnAt G 66 "_law_signs" a cd fd) (hb : BindAs G fd [] [] [] []) : Calls G (N + 1) σ (.ref a) [] (.list ((signsOf signsText).map .str)) := by
  refine CallsM.calls (CallsM.of_body F.K (hb σ) (by kernel_rfl) List.nodup_nil (fun _ h => absurd h List.not_mem_nil) rfl ?_)
  exact St.c (St1.retSigns (x := signsText) (by decide +kernel) (by decide +kernel) (by decide +kernel) rfl ⟨rfl, rfl⟩)
theorem c_names {a : Addr} {cd : Value} {fd : FuncData} {base size : Nat} (F : FnAt G 67 "_law_names" a cd fd) (hb : ∀ d1 d2, BindAs G fd [] ["base", "size"] [d1, d2] [d1, d2]) (hrange : nsIn G.K mainGlobals "range" = some none) (h1 : base ≤ 100) (h2 : size ≤ 100) :
    Calls G (N + 1) σ (.ref a) [.int base, .int size] (.list (((List.range size).map fun i => nmW (base + i)).map .str)) := by
  refine CallsM.calls (CallsM.of_body F.K (hb _ _ σ) (by kernel_rfl) (by decide +kernel) (nice2 (by decide +kernel) (by decide +kernel)) rfl ?_)
  exact St.mono (names_body hrange h1 h2) fun o ho => by cases o <;> first | exact ho | exact ho.elim
theorem c_octets {a : Addr} {cd : Value} {fd : FuncData} {v o : Int} {os : List Int} (F : FnAt G 68 "_law_octets" a cd fd) (hb : ∀ d, BindAs G fd [] ["number"] [d] [d]) (hrange : nsIn G.K mainGlobals "range" = some none) (ho : octsOf v = o :: os) :
    Calls G (N + 1) σ (.ref a) [.int v] (.list (((128 + o) :: os).map .int)) := by
  refine CallsM.calls (CallsM.of_body F.K (hb _ σ) (by kernel_rfl) (by decide +kernel) (nice1 (by decide +kernel)) rfl ?_)
  exact St.mono (octets_body hrange ho) fun o ho => by cases o <;> first | exact ho | exact ho.elim
theorem c_pretty {a : Addr} {cd : Value} {fd : FuncData} {fl : Int} {R : List Str} (F : FnAt G 7 "pretty_flags" a cd fd) (hb : ∀ d, BindAs G fd [] ["flags"] [d] [d]) (hrange : nsIn G.K mainGlobals "range" = some none) (hhex : nsIn G.K mainGlobals "hex" = some none) (hD : nsIn G.K mainGlobals "COMPILER_FLAG_NAMES" = some (some (.ref 51)))
    (TD : IntTab G.prog G.w G.s1.heap 51 flagTabD) (hfl : 0 ≤ fl ∧ fl < 2 ^ 40) (hR : pfRun nmW 32 0 fl [] = R) (hj : JoinOk ", " R = true) :
    Calls G (N + 1) σ (.ref a) [.int fl] (.str (Txt.join ", " R)) := by
  have h := CallsM.of_body (V := []) (σ := σ) F.K (hb (.int fl) σ) (by kernel_rfl) (by decide +kernel) (nice1 (by decide +kernel)) rfl (Ψ := fun d σ' => d = .str (Txt.join ", " R))
    (St.mono (pretty_body (n := N) (nm := nmW) hrange hhex hD (fun X hX => by subst hX; exact Meth.getInt TD) (fun i σ hi => Calls.getInt TD (look_get hi)) hex_len hfl (fun i hi f hf => xor_small hi hf) hR hj) fun o ho => by cases o <;> first | exact ho.1 | exact ho.elim)
  intro A F' s vs g r
  refine wpAny_mono (h A F' s vs g r) (fun v s' ⟨x, d', σ', g', r', e1⟩ => ⟨x, ?_⟩) fun _ _ e => e
  subst e1
  obtain ⟨_, rfl⟩ := r'.strI
  exact .str _ _
theorem c_sums {a : Addr} {cd : Value} {fd : FuncData} {n x y o : Nat} {aL aR iL iR aT aN : Addr} {t : Tok} (F : FnAt G 72 "_law_sums" a cd fd) (hb : ∀ d1 d2 d3, BindAs G fd [] ["lines", "size", "order"] [d1, d2, d3] [d1, d2, d3])
    (hbL : SrchAt G 4 "bisect_left" aL) (hbR : SrchAt G 2 "bisect_right" aR) (hiL : SrchAt G 3 "insort_left" iL) (hiR : SrchAt G 1 "insort_right" iR) (hT : Fn1At G 63 "ISTERMINAL" "x" aT) (hNt : Fn1At G 64 "ISNONTERMINAL" "x" aN)
    (hN : nsIn G.K mainGlobals "NT_OFFSET" = some (some (.int 256 t))) (hlen : nsIn G.K mainGlobals "len" = some none) (hen : nsIn G.K mainGlobals "enumerate" = some none) (hn : n ≤ 16) (h1n : 1 ≤ n) :
    Calls G (N + 3) σ (.ref a) [.list [.list ((plOf n x).map .int), .list ((plOf n y).map .int)], .int n, .int o] (.list ((rowOf n (duOf n x y)).map .int)) := by
  have hl : ∀ m, (plOf n m).length ≤ 20 := fun m => by
    unfold plOf bitsOf
    rw [List.length_map]
    have := List.length_filter_le (fun i => m.testBit i) (List.range n)
    rw [List.length_range] at this
    omega
  refine CallsM.calls (CallsM.of_body F.K (hb _ _ _ σ) (by kernel_rfl) (by decide +kernel) (nice3 (by decide +kernel) (by decide +kernel) (by decide +kernel)) rfl ?_)
  exact St.mono (sums_body hbL hbR hiL hiR hT hNt hN hlen hen (hl x) (hl y) fun ks hs hp => sums_row h1n hs hp) fun o ho => by cases o <;> first | exact ho | exact ho.elim
end
end Mine
end
section
local macro_rules | `(tactic| omega) => `(tactic| lia)
open PySem PySem.W PySem.Calls PyProof.Rows PySem.Builtin
namespace Mine

set_option maxHeartbeats 2000000 in
/-- the law gives True -/
theorem law_true {G : Gd} {M : Nat} {cd : Value} (kin : G.K.In G.s1.heap) (F : Facts G.K G.T G.C) {sc : List Int} (hsc : sc.length ≤ 1000) :
    St ⟨G, M + 4, scopeAt 73, cd, [("script", .list (sc.map .int))], []⟩ [] (bodyAt 73) (fun o => match o with | .ret d σ' => d = .bool true ∧ σ' = [] | _ => False) := by
  have hbL : SrchAt G 4 "bisect_left" 50 := ⟨_, _, F.f4.at kin (by kernel_rfl), F.s4.bind⟩
  have hbR : SrchAt G 2 "bisect_right" 32 := ⟨_, _, F.f2.at kin (by kernel_rfl), F.s2.bind⟩
  have hiL : SrchAt G 3 "insort_left" 41 := ⟨_, _, F.f3.at kin (by kernel_rfl), F.s3.bind⟩
  have hiR : SrchAt G 1 "insort_right" 23 := ⟨_, _, F.f1.at kin (by kernel_rfl), F.s1.bind⟩
  have hTm : Fn1At G 63 "ISTERMINAL" "x" 82 := ⟨_, _, F.f63.at kin (by kernel_rfl), bind1 F.b63⟩
  have hNt : Fn1At G 64 "ISNONTERMINAL" "x" 89 := ⟨_, _, F.f64.at kin (by kernel_rfl), bind1 F.b64⟩
  have hE : EllAt G 72 := ⟨_, _, F.f11.at kin (by kernel_rfl), bind2 F.b11⟩
  have FSg := F.f66.at kin (by kernel_rfl)
  have FNm := F.f67.at kin (by kernel_rfl)
  have FOc := F.f68.at kin (by kernel_rfl)
  have FRd := F.f69.at kin (by kernel_rfl)
  have FRf := F.f70.at kin (by kernel_rfl)
  have FSh := F.f71.at kin (by kernel_rfl)
  have FSm := F.f72.at kin (by kernel_rfl)
  have FPf := F.f7.at kin (by kernel_rfl)
  have FPv := F.f8.at kin (by kernel_rfl)
  rw [F.hC] at FSh
  have TT : KTD.TabOf (fun d v => PyProof.V.Flat v d) G.s1.heap 73 tokTab := KTD.tab_of_look (fun _ _ h => KTD.flat_of_looks h) kin F.tT
  have TD : IntTab G.prog G.w G.s1.heap 51 flagTabD := KTD.keyed_of_look kin F.tD G.prog G.w
  refine law_0 F.enum F.sum hsc fun P L R O => ?_
  have hn16 : 1 + P % 16 ≤ 16 := by omega
  have hn1 : 1 ≤ 1 + P % 16 := by omega
  have hb0 : P / 16 % 33 ≤ 32 := by omega
  have hw : P / 528 % 18 ≤ 17 := by omega
  generalize 1 + P % 16 = n at hn16 hn1 ⊢
  generalize P / 16 % 33 = b0 at hb0 ⊢
  generalize P / 528 % 18 = w at hw ⊢
  have h2n : 2 ≤ 2 ^ n := by
    have : 2 ^ 1 ≤ 2 ^ n := Nat.pow_le_pow_right (by decide) hn1
    omega
  have hset : ∀ q : Nat, 1 ≤ 1 + q % (2 ^ n - 1) ∧ 1 + q % (2 ^ n - 1) < 2 ^ n := fun q => by
    have := Nat.mod_lt q (show 2 ^ n - 1 > 0 by omega)
    omega
  obtain ⟨ha1, ha2⟩ := hset L
  obtain ⟨hb1, hb2⟩ := hset R
  generalize 1 + L % (2 ^ n - 1) = a at ha1 ha2 ⊢
  generalize 1 + R % (2 ^ n - 1) = b at hb1 hb2 ⊢
  have hne : ∀ m ∈ [a, b], bitsOf n m ≠ [] := fun m hm => by
    simp only [List.mem_cons, List.not_mem_nil, or_false] at hm
    rcases hm with rfl | rfl
    · obtain ⟨i, hi⟩ := bits_ne m ha1 ha2
      exact List.ne_nil_of_mem hi
    · obtain ⟨i, hi⟩ := bits_ne m hb1 hb2
      exact List.ne_nil_of_mem hi
  have htx := fun m hm => texts_ok (n := n) (m := m) (b0 := b0) hn16 hb0 (hne m hm)
  refine law_3 (sg := sgOfN) (signs := signsOf signsText) (DT := tokTab) FSg.g (c_signs FSg (bind0 F.b66)) F.hT TT F.range hn16 hb0 (fun i hi => signs_get hi) (fun i hi => signs_tok hi) (fun m hm => (htx m hm).1) (fun m hm => (htx m hm).2.2.split) (fun m hm => (htx m hm).2.1) (fun m hm => ?_) ?_
  · rw [(htx m hm).2.2.parts, List.length_map]
    have := List.length_filter_le (fun i => m.testBit i) (List.range n)
    rw [List.length_range] at this
    exact Nat.le_trans this (by omega)
  have hA := pl_ok (n := n) a hn16 ha1 ha2
  have hB := pl_ok (n := n) b hn16 hb1 hb2
  have hdu : ∀ p, duOf n a b p ≤ 16 := fun p => Nat.le_trans (duOf_le p) hn16
  refine law_7 (N := M) (A := plOf n a) (B := plOf n b) (R := rowOf n (duOf n a b)) hbL hbR hiL hiR FSh (bind2 F.b71) FSm.g (c_sums FSm (bind3 F.b72) hbL hbR hiL hiR hTm hNt F.hN F.len F.enum hn16 hn1) FRf (bind3 F.b70) F.sorted F.len F.enum F.ve F.str hA hB ?_
  refine law_12 (N := M + 3) hbL hbR F.range F.sum F.len hn16 hn1 hdu row_sorted (row_len hdu hn16) (fun p hp => row_cnt p hp) ?_
  have hs := supp_ne hn1 ha1 ha2 hb1 hb2
  have hfin := fun c hc => law_fin (n := n) (a := a) (b := b) (c := c) hn1 hc
  generalize duOf n a b = du at hdu hs hfin ⊢
  have hwn : w + n ≤ 33 := by omega
  obtain ⟨o, os, ho, hol, k, hrd⟩ := octs_read (v := flagsN n w du) (Nat.lt_of_lt_of_le (flags_small hwn) (by decide))
  have hW := words_ok (du := du) hwn hn16 hs
  have hcO := c_octets (N := M + 3) (σ := []) FOc (bind1 F.b68) F.range ho
  have hcR := c_read (n := M + 2) (σ := []) FRd (bind1 F.b69) FPv (bind1 F.b8) F.next F.iter F.range F.len F.si (by omega) rfl hrd
  have hcP := c_pretty (N := M + 3) (σ := []) FPf (bind1 F.b7) F.range F.hex F.hD TD (fl := flagsOf n w du) (by
    rw [flags_nat]
    have := flags_small (du := du) hwn
    have e : (2 : Int) ^ 40 = ((2 ^ 40 : Nat) : Int) := by decide +kernel
    rw [e]
    have : (2 : Nat) ^ 33 ≤ 2 ^ 40 := by decide
    omega) (words_of hwn hs (fun _ _ => rfl) nm_32) hW.1
  rw [flags_nat] at hcP
  refine law_16 (nm := fun i => nmW (w + i)) (oc := (128 + o) :: os) (S := Txt.join ", " ((suppOf n du).map fun p => nmW (w + p))) FOc.g FRd.g FNm.g FPf.g F.range F.sum hn16 (by omega) (by rw [flags_nat]; exact hcO) (by rw [flags_nat]; exact hcR) (c_names FNm (bind2 F.b67) F.range (by omega) (by omega)) (by rw [flags_nat]; exact hcP) hW.2.2.split hW.2.1 (by rw [hW.2.2.parts, List.length_map]; exact Nat.le_trans supp_len (by omega)) ?_
  have hr := ring_Ls n du
  have hrl : (Txt.join "" (ringW n du)).length = n := by rw [← len_Ls, hr, ringL_len]
  refine law_22 (N := M + 3) hE F.hM F.range F.len hn16 hn1 (fun i hi => name_in hwn hi) rfl (ring_join hn16) hrl (fun i hi => ring_e1 hr hn16 hi) (fun i hi => ring_e2 hr hn16 hi) (ring_e3 hr hn16 hn1) (ring_e4 hr hn16 hn1) ?_
  obtain ⟨r, hr1, hr2⟩ := min_of ((suppOf n du).map du) (by simpa using hs)
  have hfin' : (plOf n a).length + (plOf n b).length ≤ ((suppOf n du).map fun i => nmW (w + i)).length + r := by
    obtain ⟨c, hc, rfl⟩ := List.mem_map.mp hr1
    rw [List.length_map]
    exact hfin c hc
  exact law_27 (N := M + 3) hbL hbR F.range F.len F.min hn16 row_sorted (row_len hdu hn16) (fun p hp => row_cnt p hp) hr1 hr2 (by rw [List.length_map]; exact Nat.le_trans supp_len (by omega)) (by omega) (by omega) hfin'
end Mine
end
section
open PySem PySem.W PySem.Calls PyProof.Rows PySem.Builtin
namespace Mine

theorem ints_reps {h : Heap} : ∀ {vs : List Value} {ns : List Int}, IntsAre vs ns → Reps [] h vs (ns.map .int)
  | _, _, .nil => .nil
  | _, _, .cons n t r => .cons (.int n t) (ints_reps r)
theorem well_list {P : Params} {h : Heap} {a : Addr} {ds : List PyData} (x : Well P h (.ref a) (ofPy (.list ds))) : h.NoDictAt (.ref a) := by
  unfold ofPy at x
  cases x with
  | list e _ => exact ⟨_, e, rfl⟩

/-- what stands when the law has ended -/
structure Ended (s₁ : Shared) (r : Result) (s' : Shared) : Prop where
  ret : r = .ok (.ret (.bool true))
  keep : ∀ b o, (ghostOf s₁.heap [(126, 122)]).get? b = some o → s'.heap.get? b = some o
  os : s'.os = s₁.os
  gens : s'.gens = #[]
  grown : GrownAll [(126, 122)] s'.heap

theorem finish {prog : Program} {w : World} {s₁ : Shared} {K : Frag} {mg mb : Str → Option Value} {p : Program} {loose : List Str} {mean : ExcName → Option Value} (FK : Facts K 122 126) (hK : K.lookup 122 = none) {fa : Addr} {o : Obj} {fd : FuncData}
    (fb : fd.body = .stmts (bodyAt 73)) (fs : fd.scope = scopeAt 73) (fg : fd.globals = mainGlobals) (fl : fd.builtins = builtinsNs) (fc : fd.closure = []) (hb : ∀ S v, peek K S (bindArgs fd ⟨[v], []⟩) = some [(("script" : Str), v)])
    (KX : K.In s₁.heap) (T : Top p loose mean mg mb s₁.heap) (hg : s₁.gens = #[]) (hT9 : TabsAt [(126, 122)] s₁.heap) (ho : s₁.heap.get? fa = some o) (hd : o.data = .func fd) (hcd : s₁.heap.CodeRec fd.code fd.qualname)
    {l : Addr} {vs : List Value} {sc : List Int} (hL : s₁.heap.IsList l vs.toArray) (hI : IntsAre vs sc) (hn : s₁.heap.NoDictAt (.ref l)) (hlen : sc.length ≤ 1000) :
    codeAny (model prog w) callerA (.call (.ref fa) ⟨[.ref l], []⟩) (Ended s₁) s₁ := by
  obtain ⟨hC, hT⟩ := hT9 (126, 122) (.head _)
  have hgs := T.g
  obtain ⟨bm, ob, b1, b2, b3, b4, b5, b6⟩ := T.bmain
  have hbP : bm ≠ 122 := fun q => by
    rw [q, hT] at b3; cases b3; cases b4
  have hbG : bm ≠ mainGlobals := fun q => by
    obtain ⟨o, es, ep, e, hd, _⟩ := T.g
    rw [q, e] at b3; cases b3; rw [hd] at b6; cases b6
  let G : Gd := ⟨prog, w, K, s₁, 122, 126, "", mg, mb⟩
  have ok : GdOk G := ⟨KX, T.g, T.b, T.nolimit, hC, ⟨#[], hT⟩, (fun a o e q => by
    have e' : K.lookup a = some o := e
    rw [show a = 122 from q, hK] at e'; cases e'), hg, ⟨bm, ob, b1, b2, hbG, hbP, b3, b4, b5, b6⟩, T.builtins⟩
  have good : Good G s₁ := ⟨ok, ⟨s₁.heap, s₁.toks, rfl⟩, fun b o _ e => e, ⟨#[], hT, trivial, fun pos cv e => by cases e⟩⟩
  have gin : GIn G (0 + 4 + 1) [] callerA [] s₁ := ⟨good, ⟨rfl, by decide +kernel, by decide +kernel, ⟨[], rfl, rfl, fun _ h => absurd h List.not_mem_nil⟩, fun _ h => absurd h List.not_mem_nil⟩, ⟨fun _ h => absurd h List.not_mem_nil, List.nodup_nil⟩, fun _ h => absurd h List.not_mem_nil⟩
  have hcT : fd.code ≠ .ref G.T := fun q => by
    obtain ⟨c, oc, fs', t, e, g1, d, r⟩ := hcd
    rw [q] at e; cases e
    rw [show s₁.heap.get? 122 = some _ from hT] at g1; cases g1
    cases d; cases r
  have hs : plainScope (scopeAt 73) = true := by kernel_rfl
  unfold plainScope at hs
  simp only [Bool.and_eq_true, Bool.not_eq_true', beq_iff_eq] at hs
  obtain ⟨⟨⟨h1, h2⟩, h3⟩, h4⟩ := hs
  have FL : FnK G fa (bodyAt 73) (scopeAt 73) fd.code fd := ⟨(by obtain ⟨oc, od, dt, sl⟩ := o; cases hd; exact ⟨oc, od, sl, ho⟩), fb, fs, rfl, fg, fl, fc, hcd, hcT, h1, h2, h3, h4⟩
  refine enter_fnC (xs := ["script"]) (es := [.list (sc.map .int)]) FL (bind1 hb (.list (sc.map .int)) []) (by kernel_rfl) (by decide +kernel) (nice1 (by decide +kernel)) rfl gin (.cons (.list List.not_mem_nil ⟨hL, hn⟩ (ints_reps hI)) .nil) fun env s₂ I e_fr x1 hnew => ?_
  refine wpAny_mono (law_true (M := 0) KX FK hlen _ env _ s₂ I) (fun fl s' o => ?_) fun _ _ e => e.elim
  have fin : ∀ s', Good G s' → (∀ b o, (ghostOf s₁.heap [(126, 122)]).get? b = some o → s'.heap.get? b = some o) ∧ s'.os = s₁.os ∧ s'.gens = #[] ∧ GrownAll [(126, 122)] s'.heap := fun s' g => by
    obtain ⟨h', tk, e⟩ := g.same
    refine ⟨fun b o e1 => g.keep b o (fun q => ?_) (of_hideAll _ e1), by rw [e], by rw [e]; exact hg, ?_, trivial⟩
    · rw [show b = 122 from q, show (ghostOf s₁.heap [(126, 122)]).get? 122 = none from hideAll_none _ (.head _)] at e1; cases e1
    · obtain ⟨ps, q, _⟩ := g.tab
      exact ⟨ps, q⟩
  cases fl with
  | ret v =>
    obtain ⟨ρ', σ', d, a1, a2, a3, a4, a5⟩ := o
    subst a4
    have hv : v = .bool true := by cases a3; rfl
    obtain ⟨f1, f2, f3, f4⟩ := fin s' a2.good
    exact ⟨by rw [hv], f1, f2, f3, f4⟩
  | next => obtain ⟨_, _, _, _, _, a4⟩ := o; exact a4.elim
  | brk => obtain ⟨_, _, _, _, _, a4⟩ := o; exact a4.elim
  | cont => obtain ⟨_, _, _, _, _, a4⟩ := o; exact a4.elim
end Mine
end
section
open PySem PySem.W PySem.Calls PyProof.Rows PySem.Builtin
namespace Mine

theorem Ended.good {c : ClaimW} {cl : Str → Option Addr} {mean : ExcName → Option Value} {args : List WData} {s₁ s' : Shared} {r : Result} (hr : ∀ a x, c.raises a x = false) (hp : c.post args (.bool true) args = true) (E : Ended s₁ r s') :
    GoodW c cl mean args { s₁ with heap := ghostOf s₁.heap [(126, 122)] } r s' ∧ GrownAll [(126, 122)] s'.heap :=
  ⟨⟨.inl ⟨.bool true, .bool true, [], E.ret, hr args, .bool true, hp, fun _ => ⟨List.nodup_nil, fun _ h => absurd h List.not_mem_nil⟩⟩, E.keep, E.os, E.gens⟩, E.grown⟩
end Mine
end
section
set_option maxHeartbeats 8000000
open PySem PySem.W PySem.Calls PyProof.Rows PySem.Builtin
namespace Mine
def all.tw200202858802481044 : Unit := ()
def all.tw8013882960148741844 : Unit := ()
def all.tw12376068768476500736 : Unit := ()
def all.tw1819688866515834688 : Unit := ()
def all.tw299119318687535068 : Unit := ()
def all.tw17314943208353570444 : Unit := ()
def all.tw7193976414177721783 : Unit := ()
def all.tw6883241306338605731 : Unit := ()
def all.tw6900727353157573822 : Unit := ()
def all.tw5770198428328391495 : Unit := ()
def all.tw15926794790568321017 : Unit := ()
def all.tw10331167273965929257 : Unit := ()
def all.tw11573567738276184859 : Unit := ()
def all.tw14648097213134440425 : Unit := ()
def all.tw15618092478124507917 : Unit := ()
def all.tw2409336829466977466 : Unit := ()
def all.tw6742655320980306541 : Unit := ()
def all.tw3505695551076227089 : Unit := ()
def all.tw4747192712837444573 : Unit := ()
def all.tw4696901962981150282 : Unit := ()
def all.tw5689438673786977140 : Unit := ()
def all.tw1323426155142419162 : Unit := ()
def all.tw13042374122123996364 : Unit := ()
def all.tw13423135486485445016 : Unit := ()
def all.tw15097909243742831393 : Unit := ()
def all.tw1717485560449817402 : Unit := ()
def all.tw9600454056292803967 : Unit := ()
def all.tw10793401674749092046 : Unit := ()
def all.tw1075291646940621582 : Unit := ()
def all.tw5377772837010204750 : Unit := ()
def all.tw4645612490112672357 : Unit := ()
def all.tw11446199593928302625 : Unit := ()
def all.tw12563031120210811263 : Unit := ()
def all.tw15145278206449419223 : Unit := ()
def all.tw1639981616727947583 : Unit := ()
def all.tw6575127235232548739 : Unit := ()
def all.tw16779862611959906862 : Unit := ()
def all.tw12304872625307995750 : Unit := ()
def all.tw9700507354520375304 : Unit := ()
def all.tw11051709101105081487 : Unit := ()
def all.tw10696458614491829572 : Unit := ()
def all.tw6946980451890315270 : Unit := ()
def all.tw4965207536615798822 : Unit := ()
def all.tw11639333894188339638 : Unit := ()
def all.tw7062720368445256129 : Unit := ()
def all.tw3835962111665225711 : Unit := ()
def all.tw6674347012523051200 : Unit := ()
def all.tw4302931102428780990 : Unit := ()
def all.tw4244794441018138637 : Unit := ()
def all.tw16739844878667351699 : Unit := ()
def all.tw3020832510069240704 : Unit := ()
def all.tw4907521953547317329 : Unit := ()
def all.tw29985565223642888 : Unit := ()
def all.tw9743695723290020096 : Unit := ()
def all.tw15242674970999812785 : Unit := ()
def all.tw4818641064637329869 : Unit := ()
def all.tw9022205114861038860 : Unit := ()
def all.tw16838893715234930207 : Unit := ()
def all.tw15541118713287057729 : Unit := ()
def all.tw10658958392246782621 : Unit := ()
def all.tw13320810954380615167 : Unit := ()
def all.tw8968355716326206664 : Unit := ()
def all.tw3949192924188805160 : Unit := ()
def all.tw9448091282758670523 : Unit := ()
def all.tw14310873030558110092 : Unit := ()
def all.tw16694476904998839863 : Unit := ()
def all.tw5362506446432344171 : Unit := ()
def all.tw13057232943065969744 : Unit := ()
def all.tw17360653242477243975 : Unit := ()
def all.tw17260577670642009320 : Unit := ()
def all.tw7205895575636617080 : Unit := ()
def all.tw4258606087713283508 : Unit := ()
def all.tw14648276583578725374 : Unit := ()
def all.tw1238725946784135233 : Unit := ()
def all.tw8711421783369662179 : Unit := ()
def all.tw14099800850047386279 : Unit := ()
def all.tw9305783451064888827 : Unit := ()
def all.tw7234240908195146063 : Unit := ()
def all.tw6405578165278201989 : Unit := ()
def all.tw18124843273605240230 : Unit := ()
def all.tw15284455985751111415 : Unit := ()
def all.tw14647661154017913664 : Unit := ()
def all.tw13338274903956020161 : Unit := ()
def all.tw5815207240830897808 : Unit := ()
def all.tw13370487131934946175 : Unit := ()
def all.tw8670540905479144303 : Unit := ()
def all.tw3804168243799541492 : Unit := ()
def all.tw14444207656584330654 : Unit := ()
def all.tw4814944892674192296 : Unit := ()
set_option Elab.async true in
theorem all : PySem.Challenge.rw_ta0064_01.Holds := by
  w_on
  o_law
  k_head
  (case hw => w_witness2)
  k_fill
  have hF : ∀ w : World, Facts (all.heap_1_39 w.params) 122 126 := by
    intro w
    constructor
    all_goals first
      | exact ⟨by kernel_rfl, by kernel_rfl, by kernel_rfl, by kernel_rfl, by kernel_rfl, by kernel_rfl, by kernel_rfl, by kernel_rfl⟩
      | exact ⟨by (intros; kernel_rfl), by (intros; kernel_rfl), by (intros; kernel_rfl), by (intros; kernel_rfl), by (intros; kernel_rfl)⟩
      | kernel_rfl
      | (intros; kernel_rfl)
  intro w s₀ s₁ mg mb G Y fa o pm cd doc dV kV ho hd hcd hD hmg hg args vals as hpre hlay hrd hwl hlo
  have KX := km_in_of Y
  km_tabs Y
  refine Ground.open G ?_
  intro T B D TE TW
  clear B D TE TW
  km_lay T hmg ho hd cd
  clear hmg
  wrow_args hpre hlay hrd hwl hlo
  rename_i sc hs hlay0 hL1 hr1 hl2 w4 w3 l vs w0 hL ra w1 r0 hI hr hc1 hc2
  refine enter_call ?_
  have hlen : sc.length ≤ 1000 := by omega
  have he := Dflts.none hD rfl
  subst he
  refine kn_post hT9 (fun _ _ => rfl) ?_
  refine codeAny_mono (finish (hF w) (by kernel_rfl) rfl rfl rfl rfl rfl (fun _ _ => rfl) KX T hg hT9 ho hd hcd hL hI (well_list w1) hlen) ?_
  intro r s' E
  exact E.good (fun _ _ => rfl) (by kernel_rfl)
end Mine
end
theorem PySem.Challenge.cw_ta0064_01_holds : PySem.Challenge.rw_ta0064_01.Holds :=
  Mine.all
