import PyProof.Rows.All
import Wide.All
import OpenK.AllK
import Wide.FinOn
import PyProof.EqAt
import KE.KSliceW
import KE.KRevSl
import PyProof.Draws
import PyProof.MinMaxWalk
import PyProof.Rows.Tup
import KE.KEqDat
import PyProof.EnumMake
import PyProof.CollectIter
import PyProof.TupleOfStr
import PyProof.Rows.RaiseClass
import PyProof.TypeOfCall
import PyProof.SliceStr2
import PyProof.FString5
import PyProof.Rows.RuleDivmod
import PyProof.WalkInts
import PyProof.StrWalks
import KE.KSortAsk
import PyProof.CallRoads
import PyProof.Rows.CountFlat
import PyProof.Rows.ListMul
import PyProof.Rows.Nodes
import Wide.Shadow
import PyProof.Rows.StrJoin2
import PyProof.Rows.Range3
import PyProof.DictStraight
import PyProof.StrLawsIn
import PyProof.SetKind
import PyProof.SetRoads
import PyProof.SetNew
import PyProof.Rows.SetObj
import PyProof.Rows.CallKwBuiltin
import PyProof.Rows.SetFrom
import PyProof.DictCalls
import PyProof.DictWalks
import PyProof.DictIter
import PyProof.Rows.SumAny
import KE.KSortKey
import PyProof.FactsAll.set_1
import PyProof.FactsAll.dict_keyiterator
import PyProof.FactsAll.set_4
import PyProof.FactsAll.list_3
import PyProof.AutoSeq1
import Lean
import PySem.Challenge.RW_kq0014_07

namespace Mine
open PySem PySem.W PyProof.Rows
set_option Elab.async false
set_option maxRecDepth 100000
set_option linter.unusedVariables false

/-- every object of g stands in h -/
abbrev Sub (g h : Heap) : Prop := ∀ b o, g.get? b = some o → h.get? b = some o
theorem Sub.rfl {g : Heap} : Sub g g := fun _ _ e => e
theorem Sub.trans {a b c : Heap} (x : Sub a b) (y : Sub b c) : Sub a c := fun p o e => y p o (x p o e)
theorem Sub.push {g h : Heap} (x : Sub g h) (o : Obj) : Sub g (h.push o) := fun b o' e => Heap.get?_push_of_some _ (x b o' e)

def PlainTup (h : Heap) (a : Addr) (items : Array Value) : Prop := ∃ n, h.get? a = some { cls := .type "tuple", data := .seq items n }
mutual
/-- the value stands for the datum in a heap -/
inductive Rep (h : Heap) : Value → Dat → Prop
  | none : Rep h .none .none
  | bool (b : Bool) : Rep h (.bool b) (.bool b)
  | int (i : Int) (t : Tok) : Rep h (.int i t) (.int i)
  | str (x : Str) (t : Tok) : Rep h (.str x t) (.str x)
  | bytes (b : Array UInt8) (t : Tok) : Rep h (.bytes b t) (.bytes b)
  | tuple {a : Addr} {vs : List Value} {ds : List Dat} : PlainTup h a vs.toArray → RepAll h vs ds → Rep h (.ref a) (.tuple ds)
  | list {a : Addr} {vs : List Value} {ds : List Dat} : h.PlainList a vs.toArray → RepAll h vs ds → Rep h (.ref a) (.list ds)
inductive RepAll (h : Heap) : List Value → List Dat → Prop
  | nil : RepAll h [] []
  | cons {v : Value} {vs : List Value} {d : Dat} {ds : List Dat} : Rep h v d → RepAll h vs ds → RepAll h (v :: vs) (d :: ds)
end

theorem isList_sub {g h : Heap} {a : Addr} {xs : Array Value} (k : Sub g h) (x : g.PlainList a xs) : h.IsList a xs := let ⟨n, ho⟩ := x; ⟨_, k a _ ho, rfl, n, rfl⟩
theorem isTup_sub {g h : Heap} {a : Addr} {xs : Array Value} (k : Sub g h) (x : PlainTup g a xs) : IsTup h a xs := let ⟨n, ho⟩ := x; ⟨_, k a _ ho, rfl, n, rfl⟩
theorem plain_sub {g h : Heap} {a : Addr} {xs : Array Value} (k : Sub g h) (x : g.PlainList a xs) : h.PlainList a xs := let ⟨n, ho⟩ := x; ⟨n, k a _ ho⟩
theorem plainT_sub {g h : Heap} {a : Addr} {xs : Array Value} (k : Sub g h) (x : PlainTup g a xs) : PlainTup h a xs := let ⟨n, ho⟩ := x; ⟨n, k a _ ho⟩

mutual
theorem Rep.sub {g h : Heap} (k : Sub g h) : ∀ {v d}, Rep g v d → Rep h v d
  | _, _, .none => .none
  | _, _, .bool b => .bool b
  | _, _, .int i t => .int i t
  | _, _, .str x t => .str x t
  | _, _, .bytes b t => .bytes b t
  | _, _, .tuple i r => .tuple (plainT_sub k i) (RepAll.sub k r)
  | _, _, .list i r => .list (plain_sub k i) (RepAll.sub k r)
theorem RepAll.sub {g h : Heap} (k : Sub g h) : ∀ {vs ds}, RepAll g vs ds → RepAll h vs ds
  | _, _, .nil => .nil
  | _, _, .cons a r => .cons (Rep.sub k a) (RepAll.sub k r)
end

theorem RepAll.length {h : Heap} : ∀ {vs ds}, RepAll h vs ds → vs.length = ds.length
  | _, _, .nil => _root_.rfl
  | _, _, .cons _ r => by rw [List.length_cons, List.length_cons, RepAll.length r]
theorem RepAll.append {h : Heap} {ws es} (k : RepAll h ws es) : ∀ {vs ds}, RepAll h vs ds → RepAll h (vs ++ ws) (ds ++ es)
  | _, _, .nil => k
  | _, _, .cons a r => .cons a (RepAll.append k r)
theorem RepAll.get {h : Heap} : ∀ {vs ds}, RepAll h vs ds → ∀ {k : Nat} {d}, ds[k]? = some d → ∃ v, vs[k]? = some v ∧ Rep h v d
  | _, _, .nil, k, d, e => by simp at e
  | _, _, .cons a r, 0, d, e => by
    simp at e; subst e; exact ⟨_, by simp, a⟩
  | _, _, .cons a r, k + 1, d, e => by
    obtain ⟨v, h1, h2⟩ := RepAll.get r (k := k) (d := d) (by simpa using e)
    exact ⟨v, by simpa using h1, h2⟩
theorem RepAll.get' {h : Heap} : ∀ {vs ds}, RepAll h vs ds → ∀ {k : Nat} {v}, vs[k]? = some v → ∃ d, ds[k]? = some d ∧ Rep h v d
  | _, _, .nil, k, d, e => by simp at e
  | _, _, .cons a r, 0, d, e => by
    simp at e; subst e; exact ⟨_, by simp, a⟩
  | _, _, .cons a r, k + 1, d, e => by
    obtain ⟨v, h1, h2⟩ := RepAll.get' r (k := k) (v := d) (by simpa using e)
    exact ⟨v, by simpa using h1, h2⟩
theorem RepAll.drop {h : Heap} : ∀ {vs ds}, RepAll h vs ds → ∀ n, RepAll h (vs.drop n) (ds.drop n)
  | _, _, .nil, n => by simp; exact .nil
  | _, _, .cons a r, 0 => .cons a r
  | _, _, .cons a r, n + 1 => by simpa using RepAll.drop r n
theorem RepAll.take {h : Heap} : ∀ {vs ds}, RepAll h vs ds → ∀ n, RepAll h (vs.take n) (ds.take n)
  | _, _, .nil, n => by simp; exact .nil
  | _, _, .cons a r, 0 => .nil
  | _, _, .cons a r, n + 1 => by simpa using .cons a (RepAll.take r n)
theorem RepAll.reverse {h : Heap} : ∀ {vs ds}, RepAll h vs ds → RepAll h vs.reverse ds.reverse
  | _, _, .nil => .nil
  | _, _, .cons a r => by
    rw [List.reverse_cons, List.reverse_cons]
    exact RepAll.append (.cons a .nil) (RepAll.reverse r)
theorem RepAll.one {h : Heap} {v d} (x : Rep h v d) : RepAll h [v] [d] := .cons x .nil
theorem RepAll.set {h : Heap} {v d} (x : Rep h v d) : ∀ {vs ds}, RepAll h vs ds → ∀ n, RepAll h (vs.set n v) (ds.set n d)
  | _, _, .nil, _ => .nil
  | _, _, .cons _ r, 0 => .cons x r
  | _, _, .cons a r, n + 1 => .cons a (RepAll.set x r n)

/-- one step of the world: g is the part that stands still, h the whole heap -/
structure Step (g h g' h' : Heap) : Prop where
  gg : Sub g g'
  hh : Sub h h'
  gh : Sub g' h'
  new : ∀ b o, g'.get? b = some o → g.get? b = some o ∨ h.get? b = none

theorem Step.rfl {g h : Heap} (k : Sub g h) : Step g h g h := ⟨.rfl, .rfl, k, fun _ _ e => .inl e⟩
theorem Step.trans {g h g' h' g'' h'' : Heap} (x : Step g h g' h') (y : Step g' h' g'' h'') : Step g h g'' h'' :=
  ⟨x.gg.trans y.gg, x.hh.trans y.hh, y.gh, fun b o e => by
    rcases y.new b o e with q | q
    · exact x.new b o q
    · right
      cases z : h.get? b with
      | none => exact _root_.rfl
      | some o' => rw [x.hh b o' z] at q; cases q⟩
/-- what lies outside of g and in h lies outside of g' -/
theorem Step.out {g h g' h' : Heap} (x : Step g h g' h') {b : Addr} (h1 : g.get? b = none) (h2 : (h.get? b).isSome) : g'.get? b = none := by
  cases z : g'.get? b with
  | none => exact _root_.rfl
  | some o =>
    rcases x.new b o z with q | q
    · rw [h1] at q; cases q
    · rw [q] at h2; cases h2

/-- the heap h' without what h holds, but with all of g -/
def freeze (g h h' : Heap) : Heap := ⟨(Array.ofFn (n := h'.objs.size) fun i => if (g.get? i.1).isSome || (h.get? i.1).isNone then h'.objs[i] else ⟨.none, none, .freed, #[]⟩), h'.life⟩
theorem freeze_get {g h h' : Heap} (b : Addr) : (freeze g h h').get? b = if (g.get? b).isSome || (h.get? b).isNone then h'.get? b else none := by
  have sz : (freeze g h h').objs.size = h'.objs.size := by simp [freeze]
  by_cases hb : b < h'.objs.size
  · have e : (freeze g h h').objs[b]? = some (if (g.get? b).isSome || (h.get? b).isNone then h'.objs[b] else ⟨.none, none, .freed, #[]⟩) := by
      simp [freeze, hb]
    have e2 : h'.objs[b]? = some h'.objs[b] := by simp [hb]
    by_cases c : ((g.get? b).isSome || (h.get? b).isNone) = true
    · rw [if_pos c] at e ⊢
      conv => lhs; unfold Heap.get?
      conv => rhs; unfold Heap.get?
      rw [e, e2]
    · rw [if_neg c] at e ⊢
      conv => lhs; unfold Heap.get?
      rw [e]
  · have hb2 : h'.objs.size ≤ b := Nat.le_of_not_lt hb
    have e : (freeze g h h').objs[b]? = none := Array.getElem?_eq_none (sz ▸ hb2)
    have e2 : h'.objs[b]? = none := Array.getElem?_eq_none hb2
    have e3 : h'.get? b = none := by unfold Heap.get?; rw [e2]
    rw [e3]
    conv => lhs; unfold Heap.get?
    rw [e]
    simp
theorem Step.of_sub {g h h' : Heap} (k : Sub g h) (x : Sub h h') : Step g h (freeze g h h') h' where
  gg := fun b o e => by rw [freeze_get, e]; simpa using x b o (k b o e)
  hh := x
  gh := fun b o e => by
    rw [freeze_get] at e
    split at e
    · exact e
    · cases e
  new := fun b o e => by
    rw [freeze_get] at e
    split at e
    · rename_i q
      rw [Bool.or_eq_true] at q
      rcases q with q | q
      · left
        obtain ⟨o', ho⟩ := Option.isSome_iff_exists.mp q
        rw [x b o' (k b o' ho)] at e
        rw [ho]; exact e
      · right; simpa using q
    · cases e
theorem freeze_new {g h h' : Heap} {b : Addr} {o : Obj} (e : h'.get? b = some o) (n : h.get? b = none) : (freeze g h h').get? b = some o := by
  rw [freeze_get, n]; simpa using e
theorem freeze_old {g h h' : Heap} (k : Sub g h) (x : Sub h h') : Sub g (freeze g h h') := (Step.of_sub k x).gg

/-- the outcome of a piece of work that makes new things only -/
def Post (g : Heap) (s : Shared) (P : Heap → Value → Prop) (v : Value) (s' : Shared) : Prop :=
  Keeps s s' ∧ ∃ g', Step g s.heap g' s'.heap ∧ P g' v

theorem kp_refl {s : Shared} : Keeps s s := ⟨s.heap, s.toks, rfl, fun _ _ e => e⟩
theorem kp_trans {a b c : Shared} (x : Keeps a b) (y : Keeps b c) : Keeps a c := by
  obtain ⟨h1, t1, rfl, k1⟩ := x
  obtain ⟨h2, t2, rfl, k2⟩ := y
  exact ⟨h2, t2, rfl, fun b o e => k2 b o (k1 b o e)⟩
theorem kp_sub {a b : Shared} (x : Keeps a b) : Sub a.heap b.heap := by
  obtain ⟨h1, t1, rfl, k1⟩ := x; exact k1
theorem kp_tok {s : Shared} {t : Tok} : Keeps s { s with toks := t } := ⟨s.heap, t, rfl, fun _ _ e => e⟩
theorem kp_mk {s : Shared} {h' : Heap} {t : Tok} (k : Sub s.heap h') : Keeps s { s with heap := h', toks := t } := ⟨h', t, rfl, k⟩

theorem Post.here {g : Heap} {s : Shared} {P : Heap → Value → Prop} {v : Value} (k : Sub g s.heap) (h : P g v) : Post g s P v s := ⟨kp_refl, g, .rfl k, h⟩
theorem Post.tok {g : Heap} {s : Shared} {P : Heap → Value → Prop} {v : Value} {t : Tok} (k : Sub g s.heap) (h : P g v) : Post g s P v { s with toks := t } := ⟨kp_tok, g, .rfl k, h⟩
theorem Post.trans {g g' : Heap} {s s' s'' : Shared} {P : Heap → Value → Prop} {v : Value} (k : Keeps s s') (x : Step g s.heap g' s'.heap) (h : Post g' s' P v s'') : Post g s P v s'' := by
  obtain ⟨k2, g'', x2, h2⟩ := h
  exact ⟨kp_trans k k2, g'', x.trans x2, h2⟩
theorem Post.mono {g : Heap} {s s' : Shared} {P P' : Heap → Value → Prop} {v : Value} (h : Post g s P v s') (hp : ∀ g', P g' v → P' g' v) : Post g s P' v s' := by
  obtain ⟨k2, g'', x2, h2⟩ := h
  exact ⟨k2, g'', x2, hp _ h2⟩
end Mine

namespace Mine
open PySem PySem.W PyProof.Rows PySem.Calls
set_option Elab.async false
set_option maxRecDepth 100000
set_option linter.unusedVariables false

/-- the world of a law: the program, its globals and built-ins, and the heap behind the top -/
structure Cx where
  prog : Program
  w : World
  mg : Str → Option Value
  mb : Str → Option Value
  h0 : Heap
  hg : h0.Ns mainGlobals mg
  hb : h0.Ns builtinsNs mb
  hl : h0.NoLimit
  hbi : ∀ x : Str, x ≠ "__name__" → mb x = bootBuiltins x
abbrev Cx.M (X : Cx) : Model := model X.prog X.w

structure Room (A : Around) (k : Nat) : Prop where
  hh : A.handled = none
  depth : A.depth + k < recursionLimit
  units : A.units + 4 * k + 200 < cLine
theorem Room.in1 {A : Around} {k : Nat} (r : Room A (k + 1)) : Room A.in1 k := ⟨r.hh, by have := r.depth; rw [depth_in1]; omega, by have := r.units; rw [units_in1]; omega⟩
theorem Room.deeper {A : Around} {k : Nat} (r : Room A (k + 1)) (env : Env) : Room (A.deeper env) k :=
  ⟨r.hh, by have := r.depth; rw [depth_deeper]; omega, by have := r.units; rw [units_deeper]; omega⟩
theorem Room.le {A : Around} {k j : Nat} (r : Room A k) (h : j ≤ k) : Room A j := ⟨r.hh, by have := r.depth; omega, by have := r.units; omega⟩
theorem Room.un {A : Around} {k : Nat} (r : Room A k) : A.units + 200 < cLine := by have := r.units; omega
theorem Room.room {A : Around} {k : Nat} (r : Room A k) : A.depth < recursionLimit := by have := r.depth; omega

structure EnvOk (env : Env) (sc : Scope) : Prop where
  scope : env.scope = sc
  kind : sc.kind = .function
  glob : env.globals = mainGlobals
  bi : env.builtins = builtinsNs
  cells : ∀ x, sc.names.lookup x = some .cell → (env.cells.lookup x).isSome = true
theorem EnvOk.toEnvOk {env : Env} {sc : Scope} (h : EnvOk env sc) : EnvOk env sc := h
theorem EnvOk.ek {env : Env} {sc : Scope} (h : EnvOk env sc) : env.scope.kind = .function := h.scope ▸ h.kind
theorem EnvOk.kindOf {env : Env} {sc : Scope} (h : EnvOk env sc) {x : Str} {r} (e : sc.names.lookup x = r) : env.kindOf x = r := by
  show env.scope.names.lookup x = r; rw [h.scope]; exact e
theorem EnvOk.plain {env : Env} {sc : Scope} (h : EnvOk env sc) : (env.scope.kind == .class || (env.scope.kind == .module && env.locals != env.globals)) = false := by rw [h.ek]; rfl
theorem EnvOk.quiet {env : Env} {sc : Scope} (h : EnvOk env sc) : interactive env = false := by unfold interactive; rw [h.ek]; rfl

/-- a name of the frame holds a value -/
def VarIs (env : Env) (h : Heap) (x : Str) (v : Value) : Prop :=
  (env.kindOf x = some .local ∧ ∃ m, h.Ns env.locals m ∧ m x = some v) ∨
  ((env.kindOf x = some .cell ∨ env.kindOf x = some .free) ∧ ∃ c, env.cells.lookup x = some c ∧ h.IsCell c (some v))
theorem VarIs.sub {env : Env} {g h : Heap} {x : Str} {v : Value} (k : Sub g h) : VarIs env g x v → VarIs env h x v
  | .inl ⟨a, m, b, c⟩ => .inl ⟨a, m, b.keeps k, c⟩
  | .inr ⟨a, c, b, d⟩ => .inr ⟨a, c, b, d.keeps k⟩

/-- what a name holds: a datum that stands still, or an object of the frame's own that may still be turned -/
inductive LV where
  | dat (d : Dat)
  | val (u : Value)
  | obj (P : Addr → Obj → Heap → Prop) (mono : ∀ a o g g', Sub g g' → P a o g → P a o g')
abbrev Sto := List (Str × LV)
structure StoIn (σ : Sto) (env : Env) (g : Heap) (s : Shared) : Prop where
  sub : Sub g s.heap
  var : ∀ x d, σ.lookup x = some (.dat d) → ∃ v, VarIs env s.heap x v ∧ Rep g v d
  val : ∀ x u, σ.lookup x = some (.val u) → VarIs env s.heap x u
  obj : ∀ x P mp, σ.lookup x = some (.obj P mp) → ∃ a o, VarIs env s.heap x (.ref a) ∧ s.heap.get? a = some o ∧ P a o g
theorem StoIn.step {σ : Sto} {env : Env} {g g' : Heap} {s s' : Shared} (x : StoIn σ env g s) (t : Step g s.heap g' s'.heap) : StoIn σ env g' s' :=
  ⟨t.gh, fun y d e => let ⟨v, a, b⟩ := x.var y d e; ⟨v, a.sub t.hh, b.sub t.gg⟩, fun y u e => (x.val y u e).sub t.hh, fun y P mp e => let ⟨a, o, h1, h2, h3⟩ := x.obj y P mp e; ⟨a, o, h1.sub t.hh, t.hh _ _ h2, mp _ _ _ _ t.gg h3⟩⟩

/-- what an expression yields, said of its value and the heap that stands still -/
def EvP (X : Cx) (k : Nat) (sc : Scope) (σ : Sto) (e : Expr) (P : Heap → Value → Prop) : Prop :=
  ∀ (A : Around) (env : Env) (g : Heap) (s : Shared) (E : Value → Shared → Prop), Room A k → EnvOk env sc → Sub X.h0 g → StoIn σ env g s →
    wpAny X.M A (eval e env) (Post g s P) E s
abbrev Ev (X : Cx) (k : Nat) (sc : Scope) (σ : Sto) (e : Expr) (d : Dat) : Prop := EvP X k sc σ e fun g v => Rep g v d
def PostL (g : Heap) (s : Shared) (ds : List Dat) (vs : List Value) (s' : Shared) : Prop := Keeps s s' ∧ ∃ g', Step g s.heap g' s'.heap ∧ RepAll g' vs ds
def plainE : Expr → Bool
  | .Starred .. => false
  | _ => true
def EvL (X : Cx) (k : Nat) (sc : Scope) (σ : Sto) (es : List Expr) (ds : List Dat) : Prop :=
  es.all plainE = true ∧ ∀ (A : Around) (env : Env) (g : Heap) (s : Shared) (E : Value → Shared → Prop) (pos : Pos), Room A k → EnvOk env sc → Sub X.h0 g → StoIn σ env g s →
    wpAny X.M A (spliced (backTo pos (starEach es env))) (PostL g s ds) E s
/-- the truth of an expression -/
def EvT (X : Cx) (k : Nat) (sc : Scope) (σ : Sto) (e : Expr) (b : Bool) : Prop :=
  ∀ (A : Around) (env : Env) (g : Heap) (s : Shared) (E : Value → Shared → Prop), Room A k → EnvOk env sc → Sub X.h0 g → StoIn σ env g s →
    wpAny X.M A (isTrue e env (eval e env)) (fun c s' => c = b ∧ Keeps s s' ∧ ∃ g', Step g s.heap g' s'.heap) E s

/-- a piece of work that is done from values to a value -/
def Does (X : Cx) (k : Nat) (t : Sem Value) (g : Heap) (s : Shared) (P : Heap → Value → Prop) : Prop :=
  ∀ (A : Around) (E : Value → Shared → Prop), Room A k → wpAny X.M A t (Post g s P) E s

section
variable {X : Cx} {k : Nat} {sc : Scope} {σ : Sto}

theorem EvP.mono {e : Expr} {P P' : Heap → Value → Prop} (h : EvP X k sc σ e P) (hp : ∀ g v, P g v → P' g v) : EvP X k sc σ e P' :=
  fun A env g s E r o b q => wpAny_mono (h A env g s E r o b q) (fun _ _ x => x.mono fun g' => hp g' _) fun _ _ x => x
theorem Ev.to {e : Expr} {d d' : Dat} (h : Ev X k sc σ e d) (q : d = d') : Ev X k sc σ e d' := q ▸ h

/-- sequencing -/
theorem wp_seq {α : Type} {A : Around} {E : Value → Shared → Prop} {s : Shared} {t : Sem α} {Q Q' : α → Shared → Prop} (h : wpAny X.M A t Q E s) (n : ∀ v s', Q v s' → Q' v s') : wpAny X.M A t Q' E s :=
  wpAny_mono h n fun _ _ y => y
theorem wp_ev {A : Around} {E : Value → Shared → Prop} {g : Heap} {s : Shared} {t : Sem Value} {P : Heap → Value → Prop} {Q : Value → Shared → Prop} (h : wpAny X.M A t (Post g s P) E s)
    (n : ∀ v g' s', Keeps s s' → Step g s.heap g' s'.heap → P g' v → Q v s') : wpAny X.M A t Q E s :=
  wpAny_mono h (fun v s' ⟨k1, g', x1, p1⟩ => n v g' s' k1 x1 p1) fun _ _ y => y
theorem wp_evs {A : Around} {E : Value → Shared → Prop} {g : Heap} {s : Shared} {t : Sem (List Value)} {ds : List Dat} {Q : List Value → Shared → Prop} (h : wpAny X.M A t (PostL g s ds) E s)
    (n : ∀ v g' s', Keeps s s' → Step g s.heap g' s'.heap → RepAll g' v ds → Q v s') : wpAny X.M A t Q E s :=
  wpAny_mono h (fun v s' ⟨k1, g', x1, p1⟩ => n v g' s' k1 x1 p1) fun _ _ y => y
/-- the last step of a chain -/
theorem wp_fin {A : Around} {E : Value → Shared → Prop} {g g' : Heap} {s s' : Shared} {t : Sem Value} {P : Heap → Value → Prop} (k1 : Keeps s s') (x1 : Step g s.heap g' s'.heap) (h : wpAny X.M A t (Post g' s' P) E s') :
    wpAny X.M A t (Post g s P) E s' := wpAny_mono h (fun _ _ y => .trans k1 x1 y) fun _ _ y => y

theorem Ev.local {x : Str} {pos : Pos} {d : Dat} (e : σ.lookup x = some (.dat d)) (hd : (x == ("__debug__" : Str)) = false := by decide) (hn : (x == ("__classdict__" : Str)) = false := by decide) : Ev X k sc σ (.Name x pos) d := by
  intro A env g s E r o b q
  obtain ⟨v, hv, hr⟩ := q.var x d e
  rcases hv with ⟨hl, m, ns, hm⟩ | ⟨hl, c, hc, hv⟩
  · exact wpAny_Name (wpAny_loadName_local o.ek hl ns hm (Post.here q.sub hr)) hd
  · rcases hl with hl | hl
    · exact wpAny_Name (wpAny_loadName_cell o.ek hl hc hv (Post.here q.sub hr)) hd
    · exact wpAny_Name (wpAny_loadName_free o.ek hl hc hv (Post.here q.sub hr) hn) hd

/-- a name that holds a value that is no datum -/
theorem EvP.global {x : Str} {pos : Pos} {v : Value} (hk : sc.names.lookup x = some .globalImplicit) (e : X.mg x = some v) (hd : (x == ("__debug__" : Str)) = false := by decide) :
    EvP X k sc σ (.Name x pos) fun _ u => u = v := by
  intro A env g s E r o b q
  refine Name_function_global o.ek (o.kindOf hk) (loadGlobal_global (o.glob ▸ X.hg.keeps (b.trans q.sub)) e (Post.here q.sub rfl)) hd
theorem EvP.builtin {x : Str} {pos : Pos} {v : Value} (hk : sc.names.lookup x = some .globalImplicit) (e : X.mg x = none) (hv : bootBuiltins x = some v) (hn : x ≠ "__name__") (hd : (x == ("__debug__" : Str)) = false := by decide) :
    EvP X k sc σ (.Name x pos) fun _ u => u = v := by
  intro A env g s E r o b q
  refine Name_function_global o.ek (o.kindOf hk) (loadGlobal_builtin (o.glob ▸ X.hg.keeps (b.trans q.sub)) e (o.bi ▸ X.hb.keeps (b.trans q.sub)) ((X.hbi x hn).trans hv) (Post.here q.sub rfl)) hd

theorem Ev.int {i : Int} {n : Nat} {pos : Pos} : Ev X k sc σ (.Constant (.int i) n pos) (.int i) := fun _ _ _ _ _ _ _ _ q => wpAny_Constant_int (Post.tok q.sub (.int _ _))
theorem Ev.str {x : Str} {n : Nat} {pos : Pos} : Ev X k sc σ (.Constant (.str x) n pos) (.str x) := fun _ _ _ _ _ _ _ _ q => wpAny_Constant_str (Post.tok q.sub (.str _ _))
theorem Ev.bool {b : Bool} {n : Nat} {pos : Pos} : Ev X k sc σ (.Constant (.bool b) n pos) (.bool b) := fun _ _ _ _ _ _ _ _ q => wpAny_Constant_bool (Post.here q.sub (.bool _))
theorem Ev.none_ {n : Nat} {pos : Pos} : Ev X k sc σ (.Constant .none n pos) .none := fun _ _ _ _ _ _ _ _ q => wpAny_Constant_none (Post.here q.sub .none)

/-- the tail of an operation on two data -/
def Op2 (X : Cx) (k : Nat) (f : Value → Value → Sem Value) (a b c : Dat) : Prop :=
  ∀ (g : Heap) (s : Shared) (u v : Value), Sub X.h0 g → Sub g s.heap → Rep g u a → Rep g v b → Does X k (f u v) g s fun g' r => Rep g' r c

theorem Ev.bin {l r : Expr} {op : Operator} {pos : Pos} {a b c : Dat} (hl : Ev X k sc σ l a) (hr : Ev X k sc σ r b) (ho : Op2 X k (binaryOp op) a b c) : Ev X k sc σ (.BinOp l op r pos) c := by
  intro A env g s E rm o bs q
  refine wpAny_BinOp (wp_ev (hl A env g s E rm o bs q) fun u g1 s1 k1 x1 p1 => wp_ev (hr A env g1 s1 E rm o (bs.trans x1.gg) (q.step x1)) fun v g2 s2 k2 x2 p2 => ?_)
  exact wp_fin (kp_trans k1 k2) (x1.trans x2) (ho g2 s2 u v ((bs.trans x1.gg).trans x2.gg) x2.gh (p1.sub x2.gg) p2 A E rm)

theorem Ev.cmp {l r : Expr} {op : CmpOp} {pos : Pos} {a b c : Dat} (hl : Ev X k sc σ l a) (hr : Ev X k sc σ r b) (ho : Op2 X k (compareOp op) a b c) (hm : behindInMarks op r = false := by with_unfolding_all rfl) : Ev X k sc σ (.Compare l [op] [r] pos) c := by
  intro A env g s E rm o bs q
  refine wpAny_Compare1 (wp_ev (hl A env g s E rm o bs q) fun u g1 s1 k1 x1 p1 => wp_ev (hr A env g1 s1 E rm o (bs.trans x1.gg) (q.step x1)) fun v g2 s2 k2 x2 p2 => ?_) hm
  exact wp_fin (kp_trans k1 k2) (x1.trans x2) (ho g2 s2 u v ((bs.trans x1.gg).trans x2.gg) x2.gh (p1.sub x2.gg) p2 A E rm)

theorem EvT.cmp {l r : Expr} {op : CmpOp} {pos : Pos} {a b : Dat} {c : Bool} (hl : Ev X k sc σ l a) (hr : Ev X k sc σ r b) (ho : Op2 X k (compareOp op) a b (.bool c)) (hm : behindInMarks op r = false := by with_unfolding_all rfl) : EvT X k sc σ (.Compare l [op] [r] pos) c := by
  intro A env g s E rm o bs q
  refine wpAny_isTrue_Compare1 (wp_ev (hl A env g s E rm o bs q) fun u g1 s1 k1 x1 p1 => wp_ev (hr A env g1 s1 E rm o (bs.trans x1.gg) (q.step x1)) fun v g2 s2 k2 x2 p2 => ?_) hm
  refine wp_ev (ho g2 s2 u v ((bs.trans x1.gg).trans x2.gg) x2.gh (p1.sub x2.gg) p2 A E rm) fun c g3 s3 k3 x3 p3 => ?_
  cases p3
  exact wpAny_truthy_bool ⟨rfl, kp_trans k1 (kp_trans k2 k3), g3, x1.trans (x2.trans x3)⟩

/-- the truth of a datum -/
def Dat.isTrue : Dat → Bool
  | .none => false
  | .bool b => b
  | .int i => i != 0
  | .str x => x.length != 0
  | .bytes b => b.size != 0
  | .tuple ds => !ds.isEmpty
  | .list ds => !ds.isEmpty
end
end Mine

namespace Mine
open PySem PySem.W PyProof.Rows PySem.Calls
set_option Elab.async false
set_option maxRecDepth 100000
set_option linter.unusedVariables false
section
variable {X : Cx} {k : Nat} {sc : Scope} {σ : Sto}

theorem Does.tok {t : Sem Value} {g : Heap} {s : Shared} {P : Heap → Value → Prop} (kk : Sub g s.heap)
    (h : ∀ (A : Around) (E : Value → Shared → Prop) (Q : Value → Shared → Prop), Room A k → (∀ v tk, P g v → Q v { s with toks := tk }) → wpAny X.M A t Q E s) : Does X k t g s P :=
  fun A E r => h A E _ r fun _ _ p => Post.tok kk p

/-- int by int -/
theorem op_add {i j : Int} : Op2 X k (binaryOp .Add) (.int i) (.int j) (.int (i + j)) := by
  intro g s u v b0 kk hu hv; cases hu; cases hv
  exact Does.tok kk fun A E Q r h => add_int (h _ _ (.int _ _))
theorem op_sub {i j : Int} : Op2 X k (binaryOp .Sub) (.int i) (.int j) (.int (i - j)) := by
  intro g s u v b0 kk hu hv; cases hu; cases hv
  exact Does.tok kk fun A E Q r h => sub_int (h _ _ (.int _ _))
theorem op_mul {i j : Int} (hm : IntMulOk i j) : Op2 X k (binaryOp .Mult) (.int i) (.int j) (.int (i * j)) := by
  intro g s u v b0 kk hu hv; cases hu; cases hv
  exact Does.tok kk fun A E Q r h => PyProof.Rows.mul_int (h _ _ (.int _ _)) hm
theorem op_mod {i j : Int} (hj : j ≠ 0) : Op2 X k (binaryOp .Mod) (.int i) (.int j) (.int (i.fmod j)) := by
  intro g s u v b0 kk hu hv; cases hu; cases hv
  exact Does.tok kk fun A E Q r h => mod_int hj (h _ _ (.int _ _))
theorem op_div {i j : Int} (hj : j ≠ 0) (hp : Builtin.divisionGoesByPylong i j = false) : Op2 X k (binaryOp .FloorDiv) (.int i) (.int j) (.int (i.fdiv j)) := by
  intro g s u v b0 kk hu hv; cases hu; cases hv
  exact Does.tok kk fun A E Q r h => floordiv_int hj (h _ _ (.int _ _)) (Or.inl hp)
theorem op_ne {i j : Int} : Op2 X k (compareOp .NotEq) (.int i) (.int j) (.bool (i != j)) := by
  intro g s u v b0 kk hu hv; cases hu; cases hv
  exact Does.tok kk fun A E Q r h => PyProof.Rows.ne_int (h _ _ (.bool _))
theorem op_lt {i j : Int} : Op2 X k (compareOp .Lt) (.int i) (.int j) (.bool (decide (i < j))) := by
  intro g s u v b0 kk hu hv; cases hu; cases hv
  exact Does.tok kk fun A E Q r h => PyProof.Rows.lt_int (h _ _ (.bool _))
theorem op_gt {i j : Int} : Op2 X k (compareOp .Gt) (.int i) (.int j) (.bool (decide (j < i))) := by
  intro g s u v b0 kk hu hv; cases hu; cases hv
  exact Does.tok kk fun A E Q r h => PyProof.Rows.gt_int (h _ _ (.bool _))
/-- truth -/
def Big (d : Dat) : Prop := match d with
  | .str x => (x.length : Int) < 2 ^ 63
  | .bytes _ => False
  | .tuple ds => (ds.length : Int) < 2 ^ 63
  | .list ds => (ds.length : Int) < 2 ^ 63
  | .none => False
  | _ => True
theorem truthy_dat {A : Around} {E : Value → Shared → Prop} {Q : Bool → Shared → Prop} {s : Shared} {g : Heap} {v : Value} {d : Dat} (kk : Sub g s.heap) (r : Rep g v d) (hb : Big d)
    (h : ∀ tk, Q (Dat.isTrue d) { s with toks := tk }) : wpAny X.M A (truthy v) Q E s := by
  cases r with
  | none => exact hb.elim
  | bool b => exact wpAny_truthy_bool (h s.toks)
  | int i t => exact P.truthy_int (h s.toks)
  | str x t =>
    refine P.truthy_str (by have : (x.length : Int) < 2 ^ 63 := hb; omega) ?_
    have e : ((x.length : Int) != 0) = (x.length != 0) := by
      rcases Nat.eq_zero_or_pos x.length with h0 | h0
      · rw [h0]; rfl
      · have h1 : (x.length : Int) ≠ 0 := by omega
        have h2 : x.length ≠ 0 := by omega
        rw [bne_iff_ne.mpr h1, bne_iff_ne.mpr h2]
    rw [e]; exact h (s.toks + 1 + 1)
  | bytes b t => exact hb.elim
  | tuple i r =>
    rename_i a vs ds
    have hb' : (ds.length : Int) < 2 ^ 63 := hb
    have hl := r.length
    refine truthy_tuple (isTup_sub kk i) (by simpa [hl] using hb') ?_
    have := h (s.toks + 1 + 1)
    have e : (!vs.toArray.isEmpty) = Dat.isTrue (.tuple ds) := by
      cases vs <;> cases ds <;> simp_all [Dat.isTrue]
    rw [e]; exact this
  | list i r =>
    rename_i a vs ds
    have hb' : (ds.length : Int) < 2 ^ 63 := hb
    have hl := r.length
    refine wpAny_truthy_list (isList_sub kk i) (by simpa [hl] using hb') ?_
    have := h (s.toks + 1 + 1)
    have e : (!vs.toArray.isEmpty) = Dat.isTrue (.list ds) := by
      cases vs <;> cases ds <;> simp_all [Dat.isTrue]
    rw [e]; exact this

theorem EvT.val {e : Expr} {d : Dat} (h : Ev X k sc σ e d) (hb : Big d) (he : ∀ env whole, isTrue e env whole = (do let v ← whole; standAt e.pos; holding [v] (truthy v)) := by intro _ _; rfl) : EvT X k sc σ e (Dat.isTrue d) := by
  intro A env g s E rm o bs q
  exact wpAny_isTrue_value (wp_ev (h A env g s E rm o bs q) fun u g1 s1 k1 x1 p1 => truthy_dat x1.gh p1 hb fun tk => ⟨rfl, kp_trans k1 kp_tok, g1, x1⟩) (he _ _)
theorem EvT.not {e : Expr} {pos : Pos} {b : Bool} (h : EvT X k sc σ e b) : EvT X k sc σ (.UnaryOp .Not e pos) (!b) := by
  intro A env g s E rm o bs q
  exact wpAny_isTrue_Not (wp_seq (h A env g s E rm o bs q) fun c s' ⟨e, r⟩ => ⟨by rw [e], r⟩)
/-- and, or in a test, of two parts -/
theorem EvT.and {e f : Expr} {pos : Pos} {a b : Bool} (h : EvT X k sc σ e a) (h2 : a = true → EvT X k sc σ f b) : EvT X k sc σ (.BoolOp .And [e, f] pos) (a && b) := by
  intro A env g s E rm o bs q
  refine wpAny_isTrue_BoolOp (wpAny_allTrue_And_cons (wp_seq (h A env g s E rm o bs q) fun c s1 ⟨ec, k1, g1, x1⟩ => ?_))
  subst ec
  cases c with
  | false => simp only [Bool.false_eq_true, if_false]; exact ⟨rfl, k1, g1, x1⟩
  | true =>
    simp only [if_true]
    refine wpAny_allTrue_And_cons (wp_seq (h2 rfl A env g1 s1 E rm o (bs.trans x1.gg) (q.step x1)) fun c s2 ⟨ec, k2, g2, x2⟩ => ?_)
    subst ec
    cases c with
    | false => simp only [Bool.false_eq_true, if_false]; exact ⟨rfl, kp_trans k1 k2, g2, x1.trans x2⟩
    | true => simp only [if_true]; exact wpAny_allTrue_And_nil ⟨rfl, kp_trans k1 k2, g2, x1.trans x2⟩
theorem EvT.or {e f : Expr} {pos : Pos} {a b : Bool} (h : EvT X k sc σ e a) (h2 : a = false → EvT X k sc σ f b) : EvT X k sc σ (.BoolOp .Or [e, f] pos) (a || b) := by
  intro A env g s E rm o bs q
  refine wpAny_isTrue_BoolOp (wpAny_allTrue_Or_cons (wp_seq (h A env g s E rm o bs q) fun c s1 ⟨ec, k1, g1, x1⟩ => ?_))
  subst ec
  cases c with
  | true => simp only [if_true]; exact ⟨rfl, k1, g1, x1⟩
  | false =>
    simp only [Bool.false_eq_true, if_false]
    refine wpAny_allTrue_Or_cons (wp_seq (h2 rfl A env g1 s1 E rm o (bs.trans x1.gg) (q.step x1)) fun c s2 ⟨ec, k2, g2, x2⟩ => ?_)
    subst ec
    cases c with
    | true => simp only [if_true]; exact ⟨rfl, kp_trans k1 k2, g2, x1.trans x2⟩
    | false => simp only [Bool.false_eq_true, if_false]; exact wpAny_allTrue_Or_nil ⟨rfl, kp_trans k1 k2, g2, x1.trans x2⟩
theorem EvT.to {e : Expr} {b c : Bool} (h : EvT X k sc σ e b) (q : b = c) : EvT X k sc σ e c := q ▸ h

/-- lists of expressions -/
theorem starEach_plain {e : Expr} (h : plainE e = true) (rest : List Expr) (env : Env) : starEach (e :: rest) env = (false, eval e env) :: starEach rest env := by
  cases e <;> first | rfl | cases h
theorem plain_any (pos : Pos) (env : Env) : ∀ {es : List Expr}, es.all plainE = true → (backTo pos (starEach es env)).any (·.1) = false
  | [], _ => rfl
  | e :: es, h => by
    rw [List.all_cons, Bool.and_eq_true] at h
    rw [starEach_plain h.1]
    show (false || (backTo pos (starEach es env)).any (·.1)) = false
    rw [plain_any pos env h.2]; rfl
theorem EvL.nil : EvL X k sc σ [] [] := ⟨rfl, fun _ _ g s _ _ _ _ _ q => wpAny_items_nil ⟨kp_refl, g, .rfl q.sub, .nil⟩⟩
theorem EvL.cons {e : Expr} {es : List Expr} {d : Dat} {ds : List Dat} (h : Ev X k sc σ e d) (r : EvL X k sc σ es ds) (hp : plainE e = true := by rfl) : EvL X k sc σ (e :: es) (d :: ds) := by
  refine ⟨by rw [List.all_cons, hp, r.1]; rfl, ?_⟩
  intro A env g s E pos rm o bs q
  rw [starEach_plain hp]
  show wpAny _ _ (spliced ((false, eval e env) :: backTo pos (starEach es env))) _ _ _
  refine spliced_cons (wp_ev (h A env g s E rm o bs q) fun u g1 s1 k1 x1 p1 => wp_evs (r.2 A env g1 s1 E pos rm o (bs.trans x1.gg) (q.step x1)) fun us g2 s2 k2 x2 p2 => ?_)
  exact ⟨kp_trans k1 k2, g2, x1.trans x2, .cons (p1.sub x2.gg) p2⟩

theorem step_push {g : Heap} {s s' : Shared} {o : Obj} {g' : Heap} (x : Step g s.heap g' s'.heap) : Step g s.heap (freeze g' s'.heap (s'.heap.push o)) (s'.heap.push o) :=
  x.trans (.of_sub x.gh (Sub.push .rfl o))
theorem freeze_push {g h : Heap} {o : Obj} (hf : o.isFreed = false) : (freeze g h (h.push o)).get? h.objs.size = some o :=
  freeze_new (Heap.get?_push_size _ hf) (by
    cases z : h.get? h.objs.size with
    | none => rfl
    | some o' => exact absurd (Heap.lt_size z) (Nat.lt_irrefl _))

theorem post_newList {g g' : Heap} {s s' : Shared} {vs : List Value} {ds : List Dat} (k1 : Keeps s s') (x1 : Step g s.heap g' s'.heap) (r : RepAll g' vs ds) :
    Post g s (fun g v => Rep g v (.list ds)) (.ref s'.heap.objs.size) { s' with heap := s'.heap.push { cls := .type "list", data := .seq vs.toArray } } :=
  ⟨kp_trans k1 (kp_mk (Sub.push .rfl _)), _, step_push x1, .list ⟨_, freeze_push rfl⟩ (r.sub (freeze_old x1.gh (Sub.push .rfl _)))⟩
theorem post_newTuple {g g' : Heap} {s s' : Shared} {vs : List Value} {ds : List Dat} (k1 : Keeps s s') (x1 : Step g s.heap g' s'.heap) (r : RepAll g' vs ds) :
    Post g s (fun g v => Rep g v (.tuple ds)) (.ref s'.heap.objs.size) { s' with heap := s'.heap.push { cls := .type "tuple", data := .seq vs.toArray } } :=
  ⟨kp_trans k1 (kp_mk (Sub.push .rfl _)), _, step_push x1, .tuple ⟨_, freeze_push rfl⟩ (r.sub (freeze_old x1.gh (Sub.push .rfl _)))⟩
theorem newList_post {A : Around} {E : Value → Shared → Prop} {g : Heap} {s : Shared} {vs : List Value} {ds : List Dat} (kk : Sub g s.heap) (r : RepAll g vs ds) (hz : ds.length ≤ sizeLine) :
    wpAny X.M A (newList vs) (Post g s fun g v => Rep g v (.list ds)) E s :=
  wpAny_newObj_type (post_newList kp_refl (.rfl kk) r) (by show vs.toArray.size ≤ sizeLine; rw [List.size_toArray, r.length]; exact hz)
theorem newTuple_post {A : Around} {E : Value → Shared → Prop} {g : Heap} {s : Shared} {vs : List Value} {ds : List Dat} (kk : Sub g s.heap) (r : RepAll g vs ds) (hz : ds.length ≤ sizeLine) :
    wpAny X.M A (newTuple vs) (Post g s fun g v => Rep g v (.tuple ds)) E s :=
  wpAny_newObj_type (post_newTuple kp_refl (.rfl kk) r) (by show vs.toArray.size ≤ sizeLine; rw [List.size_toArray, r.length]; exact hz)

theorem Ev.list {es : List Expr} {ds : List Dat} {pos : Pos} (h : EvL X k sc σ es ds) (hz : ds.length ≤ sizeLine := by exact of_decide_eq_true (by rfl)) : Ev X k sc σ (.List es pos) (.list ds) := by
  intro A env g s E rm o bs q
  exact List_ (wp_evs (h.2 A env g s E pos rm o bs q) fun us g1 s1 k1 x1 p1 => wp_fin k1 x1 (newList_post x1.gh p1 hz))
theorem Ev.tuple {es : List Expr} {ds : List Dat} {n : Nat} {pos : Pos} (h : EvL X k sc σ es ds) (hz : ds.length ≤ sizeLine := by exact of_decide_eq_true (by rfl)) : Ev X k sc σ (.Tuple es n pos) (.tuple ds) := by
  intro A env g s E rm o bs q
  exact Tuple_ (wp_evs (h.2 A env g s E pos rm o bs q) fun us g1 s1 k1 x1 p1 => wp_fin k1 x1 (newTuple_post x1.gh p1 hz))

/-- an item at a place -/
theorem Ev.item {value slice : Expr} {pos : Pos} {ds : List Dat} {d : Dat} {i : Int} (hv : Ev X k sc σ value (.list ds)) (hi : Ev X k sc σ slice (.int i)) (h0 : 0 ≤ i) (h1 : i < 2 ^ 63) (hd : ds[i.toNat]? = some d)
    (hs : ∀ a i u, subscripted slice false (.ref a) (.int i u) = operate [.ref a, .int i u] (getItem (.ref a) (.int i u)) := by intro _ _ _; with_unfolding_all rfl) :
    Ev X k sc σ (.Subscript value slice pos) d := by
  intro A env g s E rm o bs q
  refine Subscript_ (wp_ev (hv A env g s E rm o bs q) fun u g1 s1 k1 x1 p1 => wp_ev (hi A env g1 s1 E rm o (bs.trans x1.gg) (q.step x1)) fun v g2 s2 k2 x2 p2 => ?_)
  cases p2
  cases p1 with
  | list il r =>
    obtain ⟨x, hx, hr⟩ := r.get hd
    have il2 := isList_sub (x1.gh.trans x2.hh) il
    refine tail_any il2.typeIs slot_list_getitem.lookup (wpAny_getItem_list il2 h0 h1 (by simpa using hx) ?_) (hs _ _ _)
    exact .trans (kp_trans k1 k2) (x1.trans x2) (Post.here x2.gh (hr.sub x2.gg))
end
end Mine

namespace Mine
open PySem PySem.W PyProof.Rows PySem.Calls
set_option Elab.async false
set_option maxRecDepth 100000
set_option linter.unusedVariables false
section
variable {X : Cx} {k : Nat} {sc : Scope} {σ : Sto}

/-- a tree over values, done on data -/
def OpN (X : Cx) (k : Nat) (t : List Value → Sem Value) (ds : List Dat) (P : Heap → Value → Prop) : Prop :=
  ∀ (g : Heap) (s : Shared) (vs : List Value), Sub X.h0 g → Sub g s.heap → RepAll g vs ds → Does X k (t vs) g s P

theorem evalArgs_evs {A : Around} {env : Env} {g : Heap} {s : Shared} {E : Value → Shared → Prop} {f : Value} {pos : Pos} {e : Expr} {es : List Expr} {ds : List Dat} {Q : Args → Shared → Prop}
    (hes : EvL X k sc σ (e :: es) ds) (rm : Room A k) (o : EnvOk env sc) (bs : Sub X.h0 g) (q : StoIn σ env g s)
    (h : ∀ vs g' s', Keeps s s' → Step g s.heap g' s'.heap → RepAll g' vs ds → Q ⟨vs, []⟩ s') :
    wpAny X.M A (evalArgs f true (backTo pos (starEach (e :: es) env)) []) Q E s := by
  have hp : plainE e = true := by have := hes.1; rw [List.all_cons, Bool.and_eq_true] at this; exact this.1
  have w := hes.2 A env g s E pos rm o bs q
  rw [starEach_plain hp] at w ⊢
  exact evalArgs_plain (wp_evs w h)

theorem callWith_seq {A : Around} {env : Env} {g : Heap} {s : Shared} {E : Value → Shared → Prop} {f : Value} {pos : Pos} {e : Expr} {es : List Expr} {ds : List Dat} {P : Heap → Value → Prop}
    (hes : EvL X k sc σ (e :: es) ds) (rm : Room A k) (o : EnvOk env sc) (bs : Sub X.h0 g) (q : StoIn σ env g s)
    (hk : ∀ h, Sub X.h0 h → ∃ kp, (kp = Keeper.frame ∨ kp = Keeper.machine ∨ kp = Keeper.boundFrame) ∧ Looks X.M h (keeperOf f) kp) (hop : OpN X k (fun vs => call f vs) ds P) :
    wpAny X.M A (callWith pos f [] (backTo pos (starEach (e :: es) env)) []) (Post g s P) E s := by
  refine callWith_of (P := fun h => Sub X.h0 h) (by rw [plain_any pos env hes.1]; rfl) hk (evalArgs_evs hes rm o bs q fun vs g1 s1 k1 x1 p1 => ?_)
  exact ⟨(bs.trans x1.gg).trans x1.gh, wp_fin k1 x1 (hop g1 s1 vs (bs.trans x1.gg) x1.gh p1 A E rm)⟩

theorem EvP.callB {f : Str} {p pos : Pos} {id : String} {e : Expr} {es : List Expr} {ds : List Dat} {P : Heap → Value → Prop} (hf : EvP X k sc σ (.Name f p) fun _ u => u = .builtin id) (hes : EvL X k sc σ (e :: es) ds)
    (hop : OpN X k (fun vs => call (.builtin id) vs) ds P) : EvP X k sc σ (.Call (.Name f p) (e :: es) [] pos) P := by
  intro A env g s E rm o bs q
  refine wpAny_Call_NameR (wp_ev (hf A env g s E rm o bs q) fun u g1 s1 k1 x1 p1 => ?_)
  subst p1
  exact wp_fin k1 x1 (callWith_seq hes rm o (bs.trans x1.gg) (q.step x1) (fun h _ => ⟨.machine, .inr (.inl rfl), Looks.of_pure rfl⟩) hop)
theorem EvP.callT {f : Str} {p pos : Pos} {T : String} {e : Expr} {es : List Expr} {ds : List Dat} {P : Heap → Value → Prop} (hf : EvP X k sc σ (.Name f p) fun _ u => u = .type T) (hes : EvL X k sc σ (e :: es) ds)
    (hop : OpN X k (fun vs => call (.type T) vs) ds P) : EvP X k sc σ (.Call (.Name f p) (e :: es) [] pos) P := by
  intro A env g s E rm o bs q
  refine wpAny_Call_NameR (wp_ev (hf A env g s E rm o bs q) fun u g1 s1 k1 x1 p1 => ?_)
  subst p1
  exact wp_fin k1 x1 (callWith_seq hes rm o (bs.trans x1.gg) (q.step x1) (fun h _ => ⟨.machine, .inr (.inl rfl), Looks.of_pure rfl⟩) hop)

/-- a def of the text's: what its call yields -/
def Fn (X : Cx) (k : Nat) (f : Str) (ds : List Dat) (P : Heap → Value → Prop) : Prop :=
  ∃ a o fd, X.mg f = some (.ref a) ∧ X.h0.get? a = some o ∧ o.data = .func fd ∧ OpN X k (fun vs => call (.ref a) vs) ds P
theorem EvP.callF {f : Str} {p pos : Pos} {e : Expr} {es : List Expr} {ds : List Dat} {P : Heap → Value → Prop} (hk : sc.names.lookup f = some .globalImplicit) (hes : EvL X k sc σ (e :: es) ds) (hf : Fn X k f ds P)
    (hd : (f == ("__debug__" : Str)) = false := by decide) : EvP X k sc σ (.Call (.Name f p) (e :: es) [] pos) P := by
  obtain ⟨a, o, fd, h1, h2, h3, hop⟩ := hf
  intro A env g s E rm oe bs q
  refine wpAny_Call_NameR (wp_ev (EvP.global hk h1 hd A env g s E rm oe bs q) fun u g1 s1 k1 x1 p1 => ?_)
  subst p1
  refine wp_fin k1 x1 (callWith_seq hes rm oe (bs.trans x1.gg) (q.step x1) (fun h hs => ⟨.frame, .inl rfl, ?_⟩) hop)
  exact (Looks.ld (part := none) (hs a o h2)).andThen (by rw [h3]; exact Looks.of_pure rfl)

end
end Mine

namespace Mine
open PySem PySem.W PyProof.Rows PySem.Calls
set_option Elab.async false
set_option maxRecDepth 100000
set_option linter.unusedVariables false
open PySem.SeqAt PySem.MeetsSeq PySem.MeetsSeq2 PySem.MeetsSeq3 PySem.SeqRoads2
open PySem.AutoSeq1 (wpAny_loadPart')

/-- the order of ints in rows -/
theorem lex_drop {ns ms : List Int} {i : Nat} (h1 : i < ns.length) (h2 : i < ms.length) :
    (ns.drop i < ms.drop i) ↔ (if ns[i] = ms[i] then ns.drop (i + 1) < ms.drop (i + 1) else ns[i] < ms[i]) := by
  rw [List.drop_eq_getElem_cons h1, List.drop_eq_getElem_cons h2, List.cons_lt_cons_iff]
  constructor
  · rintro (h | ⟨h, h'⟩)
    · have : ns[i] ≠ ms[i] := by omega
      rw [if_neg this]; exact h
    · rw [if_pos h]; exact h'
  · intro h
    split at h
    · rename_i e; exact .inr ⟨e, h⟩
    · exact .inl h
theorem lex_end1 {ns ms : List Int} {i : Nat} (h1 : ns.length ≤ i) (h2 : i ≤ ms.length) (h3 : i ≤ ns.length) : (ns.drop i < ms.drop i) ↔ ns.length < ms.length := by
  rw [List.drop_of_length_le h1]
  rcases Nat.lt_or_ge i ms.length with h | h
  · rw [List.drop_eq_getElem_cons h]
    exact ⟨fun _ => by omega, fun _ => List.nil_lt_cons _ _⟩
  · rw [List.drop_of_length_le h]
    simp only [List.lt_irrefl, false_iff]; omega
theorem lex_end2 {ns ms : List Int} {i : Nat} (h1 : ms.length ≤ i) (h2 : i ≤ ns.length) : ¬ (ns.drop i < ms.drop i) := by
  rw [List.drop_of_length_le h1]
  exact List.not_lt_nil _

theorem ints_at {vs : List Value} {ns : List Int} (h : IntsAre vs ns) {i : Nat} (hi : i < ns.length) : ∃ t, vs[i]? = some (.int ns[i] t) := h.get i ns[i] (by simp [hi])

theorem list_lt_loop (l b : Addr) (vs us : List Value) (ns ms : List Int) (hv : IntsAre vs ns) (hu : IntsAre us ms) (n n2 : Nat) (dd dd2 : Option Addr) (sl sl2 : Array (Option Value)) (k : Nat) :
    ∀ i : Nat, ns.length - i = k → i ≤ ns.length → i ≤ ms.length → Meets (Builtin.«list.__eq__.loop» ⟨[.ref l, .ref b, rawInt i, rawInt 0], []⟩)
      (fun A R s => s.heap.get? l = some { cls := .type "list", dict := dd, data := .seq vs.toArray n, slots := sl } ∧ s.heap.get? b = some { cls := .type "list", dict := dd2, data := .seq us.toArray n2, slots := sl2 } ∧
        R (.ok (.ret (.bool (decide (ns.drop i < ms.drop i))))) s) := by
  have l1 := hv.length
  have l2 := hu.length
  induction k with
  | zero =>
    intro i hk hi1 hi2 prog w A R s h
    obtain ⟨hp, g, d, tk, os⟩ := s; obtain ⟨hl, hb, h⟩ := h
    wp_walk using wpAny_loadPart' hl, wpAny_loadPart' hb
    have e1 : vs.toArray[((i : Nat) : Int).toNat]? = none := by simp; omega
    rw [e1]
    wp_walk using wpAny_loadPart' hl, wpAny_loadPart' hb
    show R (.ok (.ret (.bool (decide (vs.toArray.size < us.toArray.size))))) _
    have e : decide (vs.toArray.size < us.toArray.size) = decide (ns.drop i < ms.drop i) := by
      rw [List.size_toArray, List.size_toArray, l1, l2]
      exact decide_eq_decide.mpr (by rw [lex_end1 (by omega) hi2 hi1])
    rw [e]; exact h
  | succ k ih =>
    intro i hk hi1 hi2 prog w A R s h
    obtain ⟨hp, g, d, tk, os⟩ := s; obtain ⟨hl, hb, h⟩ := h
    wp_walk using wpAny_loadPart' hl, wpAny_loadPart' hb
    have hlt : i < ns.length := by omega
    obtain ⟨t, ht⟩ := ints_at hv hlt
    have e1 : vs.toArray[((i : Nat) : Int).toNat]? = some (.int ns[i] t) := by simpa using ht
    rcases Nat.lt_or_ge i ms.length with hlt2 | hge
    · obtain ⟨u, hu'⟩ := ints_at hu hlt2
      have e2 : us.toArray[((i : Nat) : Int).toNat]? = some (.int ms[i] u) := by simpa using hu'
      have hc : ((i : Int) + 1) = ((i + 1 : Nat) : Int) := by push_cast; rfl
      rw [e1, e2]
      refine wpAny_bind ((EqAt.int_int ns[i] t ms[i] u) prog w _ _ ?_)
      by_cases hq : ns[i] = ms[i]
      · have hq' : (ns[i] == ms[i]) = true := by simpa using hq
        rw [hq']
        wp_walk
        rw [hc]
        exact ⟨plainId_quiet plain_eq_loop _, codeAny_builtin entry_eq_loop (by
          rw [Around.under_plainId plain_eq_loop _]
          refine ih (i + 1) (by omega) (by omega) (by omega) prog w A R _ ⟨hl, hb, ?_⟩
          have e : decide (ns.drop i < ms.drop i) = decide (ns.drop (i + 1) < ms.drop (i + 1)) := decide_eq_decide.mpr (by rw [lex_drop hlt hlt2, if_pos hq])
          rw [← e]; exact h)⟩
      · have hq' : (ns[i] == ms[i]) = false := by simpa using hq
        rw [hq']
        wp_walk using wpAny_loadPart' hl, wpAny_loadPart' hb
        rw [e1, e2]
        refine wpAny_bind (P.lt_int ?_)
        refine wpAny_pure ?_
        have e : decide (ns.drop i < ms.drop i) = decide (ns[i] < ms[i]) := decide_eq_decide.mpr (by rw [lex_drop hlt hlt2, if_neg hq])
        rw [← e]
        exact h
    · have e2 : us.toArray[((i : Nat) : Int).toNat]? = none := by simp; omega
      rw [e1, e2]
      wp_walk using wpAny_loadPart' hl, wpAny_loadPart' hb
      show R (.ok (.ret (.bool (decide (vs.toArray.size < us.toArray.size))))) _
      have e : decide (vs.toArray.size < us.toArray.size) = decide (ns.drop i < ms.drop i) := by
        rw [List.size_toArray, List.size_toArray, l1, l2]
        exact decide_eq_decide.mpr (by exact ⟨fun x => absurd x (by omega), fun x => absurd x (lex_end2 hge hi1)⟩)
      rw [e]; exact h

theorem list_lt_meets (l b : Addr) (vs us : List Value) (ns ms : List Int) (hv : IntsAre vs ns) (hu : IntsAre us ms) (n n2 : Nat) (dd dd2 : Option Addr) (sl sl2 : Array (Option Value)) :
    Meets (Builtin.«list.__lt__» ⟨[.ref l, .ref b], []⟩)
      (fun A R s => s.heap.get? l = some { cls := .type "list", dict := dd, data := .seq vs.toArray n, slots := sl } ∧ s.heap.get? b = some { cls := .type "list", dict := dd2, data := .seq us.toArray n2, slots := sl2 } ∧
        R (.ok (.ret (.bool (decide (ns < ms))))) s) := by
  intro prog w A R s h
  obtain ⟨hp, g, d, tk, os⟩ := s; obtain ⟨hl, hb, h⟩ := h
  have f3 := AutoSeq1.sub_list_list
  wp_walk using wpAny_loadPart' hl, wpAny_loadPart' hb
  exact ⟨plainId_quiet plain_eq_loop _, codeAny_builtin entry_eq_loop (by
    rw [Around.under_plainId plain_eq_loop _]
    exact list_lt_loop l b vs us ns ms hv hu n n2 dd dd2 sl sl2 _ 0 rfl (Nat.zero_le _) (Nat.zero_le _) prog w A R _ ⟨hl, hb, by simpa using h⟩)⟩

theorem rc_list_lt {prog : Program} {w : World} {A : Around} {E : Value → Shared → Prop} {s : Shared} {Q : Value → Shared → Prop} {l b : Addr} {vs us : List Value} {ns ms : List Int} (hl : s.heap.IsList l vs.toArray) (hb : s.heap.IsList b us.toArray) (hv : IntsAre vs ns) (hw : IntsAre us ms)
    (hu : A.units < cLine) (h : Q (.bool (decide (ns < ms))) s) : wpAny (model prog w) A (richCompare .Lt (.ref l) (.ref b)) Q E s := by
  obtain ⟨⟨cls, dd, data, sl⟩, ho, hc, n, hd⟩ := id hl
  obtain ⟨⟨cls2, dd2, data2, sl2⟩, ho2, hc2, n2, hd2⟩ := id hb
  simp only at hc hd hc2 hd2
  subst hc hd hc2 hd2
  exact richCompare_meets_room (op := .Lt) ⟨_, ho, rfl⟩ ⟨_, ho2, rfl⟩ F.slot_list_lt F.entry_list_lt (F.args_list_lt_2 _ _) (list_lt_meets l b vs us ns ms hv hw n n2 dd dd2 sl sl2)
    ⟨ho, ho2, show Value.bool (decide (ns < ms)) ≠ Value.notImplemented ∧ Q (.bool (decide (ns < ms))) s from ⟨(fun x => nomatch x), h⟩⟩ hu

theorem list_gt_loop (l b : Addr) (vs us : List Value) (ns ms : List Int) (hv : IntsAre vs ns) (hu : IntsAre us ms) (n n2 : Nat) (dd dd2 : Option Addr) (sl sl2 : Array (Option Value)) (k : Nat) :
    ∀ i : Nat, ns.length - i = k → i ≤ ns.length → i ≤ ms.length → Meets (Builtin.«list.__eq__.loop» ⟨[.ref l, .ref b, rawInt i, rawInt 4], []⟩)
      (fun A R s => s.heap.get? l = some { cls := .type "list", dict := dd, data := .seq vs.toArray n, slots := sl } ∧ s.heap.get? b = some { cls := .type "list", dict := dd2, data := .seq us.toArray n2, slots := sl2 } ∧
        R (.ok (.ret (.bool (decide (ms.drop i < ns.drop i))))) s) := by
  have l1 := hv.length
  have l2 := hu.length
  induction k with
  | zero =>
    intro i hk hi1 hi2 prog w A R s h
    obtain ⟨hp, g, d, tk, os⟩ := s; obtain ⟨hl, hb, h⟩ := h
    wp_walk using wpAny_loadPart' hl, wpAny_loadPart' hb
    have e1 : vs.toArray[((i : Nat) : Int).toNat]? = none := by simp; omega
    rw [e1]
    wp_walk using wpAny_loadPart' hl, wpAny_loadPart' hb
    show R (.ok (.ret (.bool (decide (vs.toArray.size > us.toArray.size))))) _
    have e : decide (vs.toArray.size > us.toArray.size) = decide (ms.drop i < ns.drop i) := by
      rw [List.size_toArray, List.size_toArray, l1, l2]
      exact decide_eq_decide.mpr (by exact ⟨fun x => absurd x (by omega), fun x => absurd x (lex_end2 (by omega) hi2)⟩)
    rw [e]; exact h
  | succ k ih =>
    intro i hk hi1 hi2 prog w A R s h
    obtain ⟨hp, g, d, tk, os⟩ := s; obtain ⟨hl, hb, h⟩ := h
    wp_walk using wpAny_loadPart' hl, wpAny_loadPart' hb
    have hlt : i < ns.length := by omega
    obtain ⟨t, ht⟩ := ints_at hv hlt
    have e1 : vs.toArray[((i : Nat) : Int).toNat]? = some (.int ns[i] t) := by simpa using ht
    rcases Nat.lt_or_ge i ms.length with hlt2 | hge
    · obtain ⟨u, hu'⟩ := ints_at hu hlt2
      have e2 : us.toArray[((i : Nat) : Int).toNat]? = some (.int ms[i] u) := by simpa using hu'
      have hc : ((i : Int) + 1) = ((i + 1 : Nat) : Int) := by push_cast; rfl
      rw [e1, e2]
      refine wpAny_bind ((EqAt.int_int ns[i] t ms[i] u) prog w _ _ ?_)
      by_cases hq : ns[i] = ms[i]
      · have hq' : (ns[i] == ms[i]) = true := by simpa using hq
        rw [hq']
        wp_walk
        rw [hc]
        exact ⟨plainId_quiet plain_eq_loop _, codeAny_builtin entry_eq_loop (by
          rw [Around.under_plainId plain_eq_loop _]
          refine ih (i + 1) (by omega) (by omega) (by omega) prog w A R _ ⟨hl, hb, ?_⟩
          have e : decide (ms.drop i < ns.drop i) = decide (ms.drop (i + 1) < ns.drop (i + 1)) := decide_eq_decide.mpr (by rw [lex_drop hlt2 hlt, if_pos hq.symm])
          rw [← e]; exact h)⟩
      · have hq' : (ns[i] == ms[i]) = false := by simpa using hq
        rw [hq']
        wp_walk using wpAny_loadPart' hl, wpAny_loadPart' hb
        rw [e1, e2]
        refine wpAny_bind (P.gt_int ?_)
        refine wpAny_pure ?_
        have e : decide (ms.drop i < ns.drop i) = decide (ns[i] > ms[i]) := decide_eq_decide.mpr (by rw [lex_drop hlt2 hlt, if_neg (fun q => hq q.symm)])
        rw [← e]
        exact h
    · have e2 : us.toArray[((i : Nat) : Int).toNat]? = none := by simp; omega
      rw [e1, e2]
      wp_walk using wpAny_loadPart' hl, wpAny_loadPart' hb
      show R (.ok (.ret (.bool (decide (vs.toArray.size > us.toArray.size))))) _
      have e : decide (vs.toArray.size > us.toArray.size) = decide (ms.drop i < ns.drop i) := by
        rw [List.size_toArray, List.size_toArray, l1, l2]
        exact decide_eq_decide.mpr (by rw [lex_end1 hge hi1 hi2])
      rw [e]; exact h

theorem list_gt_meets (l b : Addr) (vs us : List Value) (ns ms : List Int) (hv : IntsAre vs ns) (hu : IntsAre us ms) (n n2 : Nat) (dd dd2 : Option Addr) (sl sl2 : Array (Option Value)) :
    Meets (Builtin.«list.__gt__» ⟨[.ref l, .ref b], []⟩)
      (fun A R s => s.heap.get? l = some { cls := .type "list", dict := dd, data := .seq vs.toArray n, slots := sl } ∧ s.heap.get? b = some { cls := .type "list", dict := dd2, data := .seq us.toArray n2, slots := sl2 } ∧
        R (.ok (.ret (.bool (decide (ms < ns))))) s) := by
  intro prog w A R s h
  obtain ⟨hp, g, d, tk, os⟩ := s; obtain ⟨hl, hb, h⟩ := h
  have f3 := AutoSeq1.sub_list_list
  wp_walk using wpAny_loadPart' hl, wpAny_loadPart' hb
  exact ⟨plainId_quiet plain_eq_loop _, codeAny_builtin entry_eq_loop (by
    rw [Around.under_plainId plain_eq_loop _]
    exact list_gt_loop l b vs us ns ms hv hu n n2 dd dd2 sl sl2 _ 0 rfl (Nat.zero_le _) (Nat.zero_le _) prog w A R _ ⟨hl, hb, by simpa using h⟩)⟩

theorem rc_list_gt {prog : Program} {w : World} {A : Around} {E : Value → Shared → Prop} {s : Shared} {Q : Value → Shared → Prop} {l b : Addr} {vs us : List Value} {ns ms : List Int} (hl : s.heap.IsList l vs.toArray) (hb : s.heap.IsList b us.toArray) (hv : IntsAre vs ns) (hw : IntsAre us ms)
    (hu : A.units < cLine) (h : Q (.bool (decide (ms < ns))) s) : wpAny (model prog w) A (richCompare .Gt (.ref l) (.ref b)) Q E s := by
  obtain ⟨⟨cls, dd, data, sl⟩, ho, hc, n, hd⟩ := id hl
  obtain ⟨⟨cls2, dd2, data2, sl2⟩, ho2, hc2, n2, hd2⟩ := id hb
  simp only at hc hd hc2 hd2
  subst hc hd hc2 hd2
  exact richCompare_meets_room (op := .Gt) ⟨_, ho, rfl⟩ ⟨_, ho2, rfl⟩ F.slot_list_gt F.entry_list_gt (F.args_list_gt_2 _ _) (list_gt_meets l b vs us ns ms hv hw n n2 dd dd2 sl sl2)
    ⟨ho, ho2, show Value.bool (decide (ms < ns)) ≠ Value.notImplemented ∧ Q (.bool (decide (ms < ns))) s from ⟨(fun x => nomatch x), h⟩⟩ hu
end Mine

namespace Mine
open PySem PySem.W PyProof.Rows PySem.Calls
set_option Elab.async false
set_option maxRecDepth 100000
set_option linter.unusedVariables false

/-- Python's cut of a row by ones -/
def cut {α : Type} (l : List α) (lo hi : Option Int) : List α := (l.drop (kms_lo lo l.length)).take (kms_hi hi l.length - kms_lo lo l.length)
theorem kms_cut (l : List Value) (lo hi : Option Int) : kms_pick l lo hi = cut l lo hi := rfl
theorem RepAll.cut {h : Heap} {vs : List Value} {ds : List Dat} (r : RepAll h vs ds) (lo hi : Option Int) : RepAll h (cut vs lo hi) (cut ds lo hi) := by
  unfold Mine.cut
  rw [r.length]
  exact (r.drop _).take _
theorem cut_upto {α : Type} (l : List α) (j : Nat) : cut l none (some (j : Int)) = l.take j := by
  unfold cut kms_lo kms_hi
  have h : ¬ ((j : Int) < 0) := by omega
  simp only [if_neg h, Int.toNat_natCast, List.drop_zero, Nat.sub_zero]
  rcases Nat.le_total j l.length with h1 | h1
  · rw [Nat.min_eq_left h1]
  · rw [Nat.min_eq_right h1, List.take_of_length_le (Nat.le_refl _), List.take_of_length_le h1]
section
variable {X : Cx} {k : Nat} {sc : Scope} {σ : Sto}

/-- an end of a cut -/
def EvO (X : Cx) (k : Nat) (sc : Scope) (σ : Sto) (e : Option Expr) (i : Option Int) : Prop :=
  ∀ (A : Around) (env : Env) (g : Heap) (s : Shared) (E : Value → Shared → Prop), Room A k → EnvOk env sc → Sub X.h0 g → StoIn σ env g s →
    wpAny X.M A (evalPart e env) (Post g s fun _ v => IsPart v i) E s
theorem EvO.none : EvO X k sc σ Option.none Option.none := fun _ _ _ _ _ _ _ _ q => wpAny_pure (Post.here q.sub .none)
theorem EvO.some {e : Expr} {i : Int} (h : Ev X k sc σ e (.int i)) : EvO X k sc σ (Option.some e) (Option.some i) := by
  intro A env g s E rm o bs q
  rw [evalPart_some]
  exact wpAny_mono (h A env g s E rm o bs q) (fun v s' y => y.mono fun g' r => by cases r; exact .int _ _) fun _ _ y => y

theorem Ev.slice {value : Expr} {lower upper : Option Expr} {p pos : Pos} {ds : List Dat} {lo hi : Option Int} (hv : Ev X k sc σ value (.list ds)) (hl : EvO X k sc σ lower lo) (hu : EvO X k sc σ upper hi) (hz : ds.length ≤ sizeLine) :
    Ev X k sc σ (.Subscript value (.Slice lower upper Option.none p) pos) (.list (cut ds lo hi)) := by
  intro A env g s E rm o bs q
  refine Subscript_ (wp_ev (hv A env g s E rm o bs q) fun u g1 s1 k1 x1 p1 => wpAny_Slice (wp_ev (hl A env g1 s1 E rm o (bs.trans x1.gg) (q.step x1)) fun vl g2 s2 k2 x2 p2 =>
    wp_ev (hu A env g2 s2 E rm o ((bs.trans x1.gg).trans x2.gg) ((q.step x1).step x2)) fun vu g3 s3 k3 x3 p3 => ?_))
  rw [evalPart_none]
  refine wpAny_pure ?_
  cases p1 with
  | list il r =>
    rename_i a vs
    have il3 : s3.heap.IsList a vs.toArray := isList_sub (x1.gh.trans (x2.hh.trans x3.hh)) il
    have x4 := step_push (o := { cls := .type "slice", data := .fields #[vl, vu, .none] }) (x1.trans (x2.trans x3))
    refine tail_any (Heap.IsList.typeIs (il3.push _)) slot_list_getitem.lookup (wpAny_getItem_list_slice (il3.push _) (Heap.IsSliceOf.new ..) p2 p3 .none (by simp) ?_ (by simp; rw [r.length]; exact hz)) (by with_unfolding_all rfl)
    rw [kms_pick_eq, kms_cut]
    have r4 : RepAll (freeze g3 s3.heap (s3.heap.push { cls := .type "slice", data := .fields #[vl, vu, .none] })) (cut vs lo hi) (cut ds lo hi) := (r.cut lo hi).sub ((x2.gg.trans x3.gg).trans (freeze_old x3.gh (Sub.push .rfl _)))
    exact post_newList (s' := { s3 with heap := s3.heap.push { cls := .type "slice", data := .fields #[vl, vu, .none] } }) (kp_trans k1 (kp_trans k2 (kp_trans k3 (kp_mk (Sub.push .rfl _))))) x4 r4

end
end Mine

namespace Mine
open PySem PySem.W PyProof.Rows PySem.Calls
set_option Elab.async false
set_option maxRecDepth 100000
set_option linter.unusedVariables false

def ownedNames : List String := ["enumerate", "zip", "dict_itemiterator", "dict_reverseitemiterator", "odict_iterator", "itertools.zip_longest", "itertools.pairwise"]
theorem letOwned_ok {prog : Program} {w : World} {A : Around} {E : Value → Shared → Prop} {s : Shared} {target : Expr} {I : Addr} {v : Value} {o : Obj} {n : String} {Q : Unit → Shared → Prop} (ho : s.heap.get? I = some o) (hc : o.cls = .type n) (hn : ownedNames.contains n = false) (h : Q () s) :
    wpAny (model prog w) A (letOwnedTupleGo target (.ref I) v) Q E s := by
  have key : ∀ a, v = .ref a → wpAny (model prog w) A (do
      let o ← load I
      match o.cls, o.data with
      | .type n, .fields vs =>
        if ["enumerate", "zip", "dict_itemiterator", "dict_reverseitemiterator", "odict_iterator", "itertools.zip_longest", "itertools.pairwise"].contains n && vs[0]? == some (rawInt a) then
          rule "for.unpacks-the-owned-tuple"
          updateField I 0 .none
      | _, _ => pure () : Sem Unit) Q E s := by
    intro a _
    refine wpAny_bind (wpAny_load ho ?_)
    rw [hc]
    cases hd : o.data with
    | fields vs =>
      show wpAny _ A (if (["enumerate", "zip", "dict_itemiterator", "dict_reverseitemiterator", "odict_iterator", "itertools.zip_longest", "itertools.pairwise"].contains n && vs[0]? == some (rawInt a)) = true then _ else _) Q E s
      have hn' : (["enumerate", "zip", "dict_itemiterator", "dict_reverseitemiterator", "odict_iterator", "itertools.zip_longest", "itertools.pairwise"] : List String).contains n = false := hn
      rw [hn', Bool.false_and, if_neg Bool.false_ne_true]
      exact wpAny_pure h
    | _ => exact wpAny_pure h
  unfold letOwnedTupleGo
  cases target <;> first
    | exact wpAny_pure h
    | (cases v <;> first
        | exact wpAny_pure h
        | exact key _ rfl)

/-- a value that a loop goes over, and what it hands out -/
structure Iter (X : Cx) (g : Heap) (s₂ : Shared) (old : Heap) (I : Addr) (ds : List Dat) (fp wr : List Addr) (P : Nat → Value → Prop) (St : Nat → Heap → Prop) : Prop where
  walks : ∀ A', A'.handled = none → Walks X.prog X.w A' I fp wr ds.length P St
  start : St 0 s₂.heap
  low : ∀ b ∈ fp, b < s₂.heap.objs.size
  fresh : ∀ b ∈ wr, old.get? b = none
  live : ∀ i h, St i h → ∀ b ∈ wr, (h.get? b).isSome
  foot : ∀ b ∈ fp, b ∈ wr ∨ (g.get? b).isSome
  item : ∀ i v, P i v → ∃ d, ds[i]? = some d ∧ Rep g v d
  own : ∀ i A E target v (s : Shared) (Q : Unit → Shared → Prop), St i s.heap → Q () s → wpAny X.M A (letOwnedTupleGo target (.ref I) v) Q E s
def IterOf (X : Cx) (k : Nat) (g : Heap) (s : Shared) (xv : Value) (ds : List Dat) : Prop :=
  ∀ (A : Around) (E : Value → Shared → Prop), Room A k → wpAny X.M A (pyIter xv) (fun it s₂ => Keeps s s₂ ∧ ∃ I fp wr P St, it = .ref I ∧ Iter X g s₂ s.heap I ds fp wr P St) E s
/-- an expression that is gone over -/
def Its (X : Cx) (k : Nat) (sc : Scope) (σ : Sto) (e : Expr) (ds : List Dat) : Prop :=
  EvP X k sc σ e (fun g v => ∀ s, Sub g s.heap → IterOf X k g s v ds) ∧ ∀ env x, foldedSetIterable e env x = pure x

theorem fresh_size {h : Heap} : h.get? h.objs.size = none := by
  cases z : h.get? h.objs.size with
  | none => rfl
  | some o' => exact absurd (Heap.lt_size z) (Nat.lt_irrefl _)

section
variable {X : Cx} {k : Nat} {sc : Scope} {σ : Sto}

theorem iterOf_list {g : Heap} {s : Shared} {a : Addr} {vs : List Value} {ds : List Dat} (kk : Sub g s.heap) (il : g.PlainList a vs.toArray) (r : RepAll g vs ds) : IterOf X k g s (.ref a) ds := by
  intro A E rm
  have il' := isList_sub kk il
  have hlt : a < s.heap.objs.size := let ⟨_, e, _⟩ := il'; Heap.lt_size e
  have hn : vs.toArray.size = ds.length := by rw [List.size_toArray, r.length]
  refine wpAny_pyIter_list il' ⟨kp_mk (Sub.push .rfl _), s.heap.objs.size, [s.heap.objs.size, a], [s.heap.objs.size], (fun i v => vs.toArray[i]? = some v), (fun i h => h.IsListIter s.heap.objs.size a i ∧ h.IsList a vs.toArray), rfl, ?_⟩
  exact {
    walks := fun A' hA => hn ▸ Walks.list hA s.heap.objs.size a (Nat.ne_of_lt hlt) vs.toArray
    start := ⟨⟨_, Heap.get?_push_size _ rfl, rfl, rfl⟩, il'.push _⟩
    low := fun b hb => by
      show b < (s.heap.push _).objs.size
      rw [Heap.size_push]
      rcases List.mem_cons.mp hb with rfl | hb
      · exact Nat.lt_succ_self _
      · rcases List.mem_cons.mp hb with rfl | hb
        · exact Nat.lt_succ_of_lt hlt
        · cases hb
    fresh := fun b hb => by rw [List.mem_singleton.mp hb]; exact fresh_size
    live := fun i h st b hb => by
      obtain ⟨⟨o, ho, _⟩, _⟩ := st
      rw [List.mem_singleton.mp hb, ho]; rfl
    foot := fun b hb => by
      rcases List.mem_cons.mp hb with rfl | hb
      · exact .inl (List.mem_singleton.mpr rfl)
      · rw [List.mem_singleton.mp hb]
        obtain ⟨n, ho⟩ := il
        exact .inr (by rw [ho]; rfl)
    item := fun i v hv => r.get' (by simpa using hv)
    own := fun i A' E' target v s' Q st q => by
      obtain ⟨⟨o, ho, hc, _⟩, _⟩ := st
      exact letOwned_ok ho hc (by decide) q }
theorem iterOf_tuple {g : Heap} {s : Shared} {a : Addr} {vs : List Value} {ds : List Dat} (kk : Sub g s.heap) (il : PlainTup g a vs.toArray) (r : RepAll g vs ds) : IterOf X k g s (.ref a) ds := by
  intro A E rm
  have il' := isTup_sub kk il
  have hlt : a < s.heap.objs.size := let ⟨_, e, _⟩ := il'; Heap.lt_size e
  have hn : vs.toArray.size = ds.length := by rw [List.size_toArray, r.length]
  refine wpAny_pyIter_tuple il' ⟨kp_mk (Sub.push .rfl _), s.heap.objs.size, [s.heap.objs.size, a], [s.heap.objs.size], (fun i v => vs.toArray[i]? = some v), (fun i h => h.IsTupleIter s.heap.objs.size a i ∧ h.IsTuple a vs.toArray), rfl, ?_⟩
  exact {
    walks := fun A' hA => hn ▸ Walks.tuple hA s.heap.objs.size a (Nat.ne_of_lt hlt) vs.toArray
    start := ⟨⟨_, Heap.get?_push_size _ rfl, rfl, rfl⟩, let ⟨o, ho, rr⟩ := il'; ⟨o, Heap.get?_push_of_some _ ho, rr⟩⟩
    low := fun b hb => by
      show b < (s.heap.push _).objs.size
      rw [Heap.size_push]
      rcases List.mem_cons.mp hb with rfl | hb
      · exact Nat.lt_succ_self _
      · rcases List.mem_cons.mp hb with rfl | hb
        · exact Nat.lt_succ_of_lt hlt
        · cases hb
    fresh := fun b hb => by rw [List.mem_singleton.mp hb]; exact fresh_size
    live := fun i h st b hb => by
      obtain ⟨⟨o, ho, _⟩, _⟩ := st
      rw [List.mem_singleton.mp hb, ho]; rfl
    foot := fun b hb => by
      rcases List.mem_cons.mp hb with rfl | hb
      · exact .inl (List.mem_singleton.mpr rfl)
      · rw [List.mem_singleton.mp hb]
        obtain ⟨n, ho⟩ := il
        exact .inr (by rw [ho]; rfl)
    item := fun i v hv => r.get' (by simpa using hv)
    own := fun i A' E' target v s' Q st q => by
      obtain ⟨⟨o, ho, hc, _⟩, _⟩ := st
      exact letOwned_ok ho hc (by decide) q }
theorem iterOf_dat {g : Heap} {s : Shared} {v : Value} {d : Dat} {ds : List Dat} (kk : Sub g s.heap) (r : Rep g v d) (hd : d = .list ds ∨ d = .tuple ds) : IterOf X k g s v ds := by
  rcases hd with rfl | rfl
  · cases r with | list il r => exact iterOf_list kk il r
  · cases r with | tuple il r => exact iterOf_tuple kk il r
theorem Its.list {e : Expr} {ds : List Dat} (h : Ev X k sc σ e (.list ds)) (hs : ∀ env x, foldedSetIterable e env x = pure x := by intro _ _; rfl) : Its X k sc σ e ds :=
  ⟨h.mono fun g v r s kk => iterOf_dat kk r (.inl rfl), hs⟩
theorem Its.tuple {e : Expr} {ds : List Dat} (h : Ev X k sc σ e (.tuple ds)) (hs : ∀ env x, foldedSetIterable e env x = pure x := by intro _ _; rfl) : Its X k sc σ e ds :=
  ⟨h.mono fun g v r s kk => iterOf_dat kk r (.inr rfl), hs⟩

/-- the ints of a range by ones, up or down -/
def rangeD (a : Int) (c : Int) (n : Nat) : List Dat := (List.range n).map fun (i : Nat) => Dat.int (a + (i : Int) * c)
theorem rangeD_length {a c : Int} {n : Nat} : (rangeD a c n).length = n := by simp [rangeD]
theorem rangeD_get {a c : Int} {n i : Nat} (h : i < n) : (rangeD a c n)[i]? = some (.int (a + (i : Int) * c)) := by simp [rangeD, h]
/-- a range object -/
def IsRg (g : Heap) (v : Value) (a b c : Int) : Prop := ∃ r t u w, v = .ref r ∧ IsRange g r a b c t u w
theorem iterOf_range {g : Heap} {s : Shared} {v : Value} {a b c : Int} {n : Nat} (kk : Sub g s.heap) (h : IsRg g v a b c) (hs : Builtin.Range.small a b c = true) (hn : Builtin.Range.rangeSize a b c = n) : IterOf X k g s v (rangeD a c n) := by
  intro A E rm
  obtain ⟨r, t, u, w, rfl, hr⟩ := h
  have hr' : IsRange s.heap r a b c t u w := kk _ _ hr
  refine wpAny_pyIter_range hr' hs ⟨kp_mk (Sub.push .rfl _), s.heap.objs.size, [s.heap.objs.size], [s.heap.objs.size], (fun i v => i < n ∧ ∃ t, v = .int (a + i * c) t), (fun i h => IsRangeIter h s.heap.objs.size (a + (i : Nat) * c) ((n : Int) - (i : Nat)) c), rfl, ?_⟩
  exact {
    walks := fun A' hA => by rw [rangeD_length]; exact (Walks.range hA s.heap.objs.size a c n).bound
    start := by
      show IsRangeIter _ _ _ _ _
      rw [hn]
      simpa using Heap.get?_push_size _ rfl
    low := fun b hb => by
      show b < (s.heap.push _).objs.size
      rw [Heap.size_push, List.mem_singleton.mp hb]
      exact Nat.lt_succ_self _
    fresh := fun b hb => by rw [List.mem_singleton.mp hb]; exact fresh_size
    live := fun i h st b hb => by
      have st' : h.get? s.heap.objs.size = _ := st
      rw [List.mem_singleton.mp hb, st']; rfl
    foot := fun b hb => .inl hb
    item := fun i v hv => by
      obtain ⟨hi, t, rfl⟩ := hv
      exact ⟨_, rangeD_get hi, .int _ _⟩
    own := fun i A' E' target v s' Q st q => letOwned_ok (n := "range_iterator") st rfl (by decide) q }

theorem op_range1 {n : Int} : OpN X k (fun vs => call (.type "range") vs) [.int n] fun g v => IsRg g v 0 n 1 := by
  intro g s vs b0 kk r A E rm
  cases r with
  | cons a r =>
    cases r; cases a
    refine call_range_1 ⟨kp_mk (Sub.push .rfl _), _, Step.of_sub kk (Sub.push .rfl _), ?_⟩
    exact ⟨_, _, _, _, rfl, freeze_new (IsRange.new ..) fresh_size⟩
theorem Its.range1 {f : Str} {p pos : Pos} {e : Expr} {n : Int} (hf : EvP X k sc σ (.Name f p) fun _ u => u = .type "range") (h : Ev X k sc σ e (.int n)) (h0 : -(2 ^ 62) ≤ n) (hb : n < 2 ^ 62) (hp : plainE e = true := by rfl)
    (hs : ∀ env x, foldedSetIterable (.Call (.Name f p) [e] [] pos) env x = pure x := by intro _ _; rfl) : Its X k sc σ (.Call (.Name f p) [e] [] pos) (rangeD 0 1 n.toNat) := by
  refine ⟨(EvP.callT hf (.cons h .nil hp) op_range1).mono fun g v r s kk => iterOf_range kk r (PySem.small_one (by omega) (by omega) h0 hb) ?_, hs⟩
  rw [rangeSize_one]; split <;> omega
end
end Mine

namespace Mine
open PySem PySem.W PyProof.Rows PySem.Calls
set_option Elab.async false
set_option maxRecDepth 100000
set_option linter.unusedVariables false

def upd (x : Str) (lv : LV) : Sto → Sto
  | [] => [(x, lv)]
  | (y, l) :: r => if x == y then (y, lv) :: r else (y, l) :: upd x lv r
theorem lookup_upd (x : Str) (lv : LV) (z : Str) : ∀ τ : Sto, (upd x lv τ).lookup z = if z = x then some lv else τ.lookup z
  | [] => by
    unfold upd
    rw [List.lookup_cons]
    by_cases h : z = x
    · subst h; simp
    · have : (z == x) = false := by simpa using h
      rw [this, if_neg h]
  | (y, l) :: r => by
    unfold upd
    by_cases hxy : x = y
    · subst hxy
      simp only [beq_self_eq_true, if_true, List.lookup_cons]
      by_cases h : z = x
      · subst h; simp
      · have : (z == x) = false := by simpa using h
        rw [this, if_neg h]
    · have e : (x == y) = false := by simpa using hxy
      rw [e]
      simp only [Bool.false_eq_true, if_false, List.lookup_cons]
      by_cases h : z = y
      · subst h
        have : ¬ z = x := fun q => hxy q.symm
        simp [this]
      · have : (z == y) = false := by simpa using h
        rw [this, lookup_upd x lv z r]

/-- a part of a heap -/
def keepOnly (p : Addr → Bool) (h : Heap) : Heap := ⟨(Array.ofFn (n := h.objs.size) fun i => if p i.1 then h.objs[i] else ⟨.none, none, .freed, #[]⟩), h.life⟩
theorem keepOnly_get (p : Addr → Bool) (h : Heap) (b : Addr) : (keepOnly p h).get? b = if p b then h.get? b else none := by
  have sz : (keepOnly p h).objs.size = h.objs.size := by simp [keepOnly]
  by_cases hb : b < h.objs.size
  · have e : (keepOnly p h).objs[b]? = some (if p b then h.objs[b] else ⟨.none, none, .freed, #[]⟩) := by
      simp [keepOnly, hb]
    have e2 : h.objs[b]? = some h.objs[b] := by simp [hb]
    by_cases c : p b = true
    · rw [if_pos c] at e ⊢
      conv => lhs; unfold Heap.get?
      conv => rhs; unfold Heap.get?
      rw [e, e2]
    · rw [if_neg c] at e ⊢
      conv => lhs; unfold Heap.get?
      rw [e]
  · have hb2 : h.objs.size ≤ b := Nat.le_of_not_lt hb
    have e : (keepOnly p h).objs[b]? = none := Array.getElem?_eq_none (sz ▸ hb2)
    have e2 : h.objs[b]? = none := Array.getElem?_eq_none hb2
    have e3 : h.get? b = none := by unfold Heap.get?; rw [e2]
    rw [e3]
    conv => lhs; unfold Heap.get?
    rw [e]
    simp
/-- g and one more object of h -/
def withObj (g h : Heap) (a : Addr) : Heap := keepOnly (fun b => (g.get? b).isSome || b == a) h
theorem withObj_sub {g h : Heap} {a : Addr} (k : Sub g h) : Sub g (withObj g h a) := fun b o e => by
  unfold withObj; rw [keepOnly_get]; simp only [e, Option.isSome_some, Bool.true_or, if_true]; exact k b o e
theorem withObj_in {g h : Heap} {a : Addr} : Sub (withObj g h a) h := fun b o e => by
  unfold withObj at e; rw [keepOnly_get] at e
  split at e
  · exact e
  · cases e
theorem withObj_self {g h : Heap} {a : Addr} {o : Obj} (e : h.get? a = some o) : (withObj g h a).get? a = some o := by
  unfold withObj; rw [keepOnly_get]; simpa using e
theorem withObj_other {g h : Heap} {a b : Addr} (hg : g.get? b = none) (hb : b ≠ a) : (withObj g h a).get? b = none := by
  unfold withObj; rw [keepOnly_get, hg]
  have : (b == a) = false := by simpa using hb
  simp [this]

def Holds (env : Env) (m cm : Str → Option Value) (x : Str) (v : Value) : Prop :=
  (env.kindOf x = some .local ∧ m x = some v) ∨ (env.kindOf x = some .cell ∧ (env.cells.lookup x).isSome = true ∧ cm x = some v)
def LvIn (s₀ : Shared) (env : Env) (H : List (Addr × Obj)) (g : Heap) (s : Shared) (v : Value) : LV → Prop
  | .dat d => Rep g v d
  | .val u => v = u
  | .obj P _ => ∃ a o, v = .ref a ∧ s.heap.get? a = some o ∧ P a o g ∧ g.get? a = none ∧ s₀.heap.get? a = none ∧ a ≠ env.locals ∧ (∀ n c, env.cells.lookup n = some c → c ≠ a) ∧ ∀ p ∈ H, p.1 ≠ a

/-- the state of a call of a def: what its names hold; g stands still, H is what a loop around holds -/
structure FS (s₀ : Shared) (g₀ : Heap) (env : Env) (H : List (Addr × Obj)) (τ : Sto) (g : Heap) (m cm : Str → Option Value) (s : Shared) : Prop where
  call : InCallC s₀ env.locals m env.cells cm s
  st : Step g₀ s₀.heap g s.heap
  gL : g.get? env.locals = none
  gC : ∀ n c, env.cells.lookup n = some c → g.get? c = none
  hold : ∀ p ∈ H, s.heap.get? p.1 = some p.2 ∧ p.1 ≠ env.locals ∧ (∀ n c, env.cells.lookup n = some c → c ≠ p.1) ∧ g.get? p.1 = none ∧ s₀.heap.get? p.1 = none
  var : ∀ x lv, τ.lookup x = some lv → ∃ v, Holds env m cm x v ∧ LvIn s₀ env H g s v lv
  sep : ∀ x y a P mp Q mq, x ≠ y → τ.lookup x = some (.obj P mp) → τ.lookup y = some (.obj Q mq) → Holds env m cm x (.ref a) → ¬ Holds env m cm y (.ref a)

section
variable {s₀ s s' : Shared} {g₀ g g' : Heap} {env : Env} {H : List (Addr × Obj)} {τ : Sto} {m cm : Str → Option Value}

theorem Holds.fun {x : Str} {v u : Value} (h1 : Holds env m cm x v) (h2 : Holds env m cm x u) : v = u := by
  rcases h1 with ⟨a, b⟩ | ⟨a, _, b⟩ <;> rcases h2 with ⟨c, d⟩ | ⟨c, _, d⟩
  · rw [b] at d; exact Option.some.inj d
  · rw [a] at c; cases c
  · rw [a] at c; cases c
  · rw [b] at d; exact Option.some.inj d
theorem FS.sto (F : FS s₀ g₀ env H τ g m cm s) : StoIn τ env g s where
  sub := F.st.gh
  var := fun x d e => by
    obtain ⟨v, hv, lv⟩ := F.var x _ e
    refine ⟨v, ?_, lv⟩
    rcases hv with ⟨a, b⟩ | ⟨a, b, c⟩
    · exact .inl ⟨a, m, F.call.toInCall.ns, b⟩
    · obtain ⟨ad, hc⟩ := Option.isSome_iff_exists.mp b
      exact .inr ⟨.inl a, ad, hc, c ▸ F.call.cell x ad hc⟩
  val := fun x u e => by
    obtain ⟨v, hv, lv⟩ := F.var x _ e
    have lv' : v = u := lv
    subst lv'
    rcases hv with ⟨a, b⟩ | ⟨a, b, c⟩
    · exact .inl ⟨a, m, F.call.toInCall.ns, b⟩
    · obtain ⟨ad, hc⟩ := Option.isSome_iff_exists.mp b
      exact .inr ⟨.inl a, ad, hc, c ▸ F.call.cell x ad hc⟩
  obj := fun x P mp e => by
    obtain ⟨v, hv, lv⟩ := F.var x _ e
    obtain ⟨ad, o, rfl, h1, h2, _⟩ := lv
    refine ⟨ad, o, ?_, h1, h2⟩
    rcases hv with ⟨a, b⟩ | ⟨a, b, c⟩
    · exact .inl ⟨a, m, F.call.toInCall.ns, b⟩
    · obtain ⟨ca, hc⟩ := Option.isSome_iff_exists.mp b
      exact .inr ⟨.inl a, ca, hc, c ▸ F.call.cell x ca hc⟩
theorem LvIn.step {v : Value} {lv : LV} (x : Step g s.heap g' s'.heap) (h : LvIn s₀ env H g s v lv) : LvIn s₀ env H g' s' v lv := by
  cases lv with
  | dat d => exact Rep.sub x.gg h
  | val u => exact h
  | obj P mp =>
    obtain ⟨a, o, rfl, h1, h2, h3, h4, h5⟩ := h
    exact ⟨a, o, rfl, x.hh _ _ h1, mp _ _ _ _ x.gg h2, x.out h3 (by rw [h1]; rfl), h4, h5⟩
theorem FS.ev (F : FS s₀ g₀ env H τ g m cm s) (kk : Keeps s s') (x : Step g s.heap g' s'.heap) : FS s₀ g₀ env H τ g' m cm s' where
  call := by
    obtain ⟨h', tk, rfl, kp⟩ := kk
    exact F.call.kept kp
  st := F.st.trans x
  gL := x.out F.gL (by obtain ⟨o, _, _, ho, _⟩ := F.call.toInCall.ns; rw [ho]; rfl)
  gC := fun n c hc => x.out (F.gC n c hc) (by obtain ⟨o, ho, _⟩ := F.call.cell n c hc; rw [ho]; rfl)
  hold := fun p hp => by
    obtain ⟨h1, h2, h3, h4, h5⟩ := F.hold p hp
    exact ⟨x.hh _ _ h1, h2, h3, x.out h4 (by rw [h1]; rfl), h5⟩
  var := fun y lv e => let ⟨v, a, b⟩ := F.var y lv e; ⟨v, a, b.step x⟩
  sep := F.sep
theorem FS.tok (F : FS s₀ g₀ env H τ g m cm s) {t : Tok} : FS s₀ g₀ env H τ g m cm { s with toks := t } := F.ev kp_tok (.rfl F.st.gh)
theorem FS.done (F : FS s₀ g₀ env H τ g m cm s) : Keeps s₀ s := by
  obtain ⟨h, tk, e, kp⟩ := F.call.done
  exact ⟨h, tk, e, kp⟩

/-- what a new thing must be to be bound to a name -/
def NewLv (env : Env) (τ : Sto) (m cm : Str → Option Value) (x : Str) (v : Value) : LV → Prop
  | .dat _ => True
  | .val _ => True
  | .obj _ _ => ∀ y P mp, y ≠ x → τ.lookup y = some (.obj P mp) → ¬ Holds env m cm y v

theorem FS.bind (F : FS s₀ g₀ env H τ g m cm s) {x : Str} {v : Value} {lv : LV} {m' cm' : Str → Option Value} (call : InCallC s₀ env.locals m' env.cells cm' s')
    (hk : ∀ b o, b ≠ env.locals → (∀ n c, env.cells.lookup n = some c → b ≠ c) → s.heap.get? b = some o → s'.heap.get? b = some o)
    (hx : Holds env m' cm' x v) (hy : ∀ y u, y ≠ x → (Holds env m' cm' y u ↔ Holds env m cm y u)) (hl : LvIn s₀ env H g s v lv) (hn : NewLv env τ m cm x v lv) :
    FS s₀ g₀ env H (upd x lv τ) g m' cm' s' := by
  have gh : Sub g s'.heap := fun b o e => hk b o (fun q => by rw [q, F.gL] at e; cases e) (fun n c hc q => by rw [q, F.gC n c hc] at e; cases e) (F.st.gh b o e)
  have up : ∀ v lv, LvIn s₀ env H g s v lv → LvIn s₀ env H g s' v lv := by
    intro v lv h
    cases lv with
    | dat d => exact h
    | val u => exact h
    | obj P mp =>
      obtain ⟨a, o, rfl, h1, h2, h3, h4, h5, h6, h7⟩ := h
      exact ⟨a, o, rfl, hk a o h5 (fun n c hc q => h6 n c hc q.symm) h1, h2, h3, h4, h5, h6, h7⟩
  refine ⟨call, ⟨F.st.gg, call.toInCall.keep, gh, F.st.new⟩, F.gL, F.gC, fun p hp => ?_, fun y l e => ?_, fun y z a P mp Q mq hyz e1 e2 h1 h2 => ?_⟩
  · obtain ⟨h1, h2, h3, h4, h5⟩ := F.hold p hp
    exact ⟨hk _ _ h2 (fun n c hc q => h3 n c hc q.symm) h1, h2, h3, h4, h5⟩
  · rw [lookup_upd] at e
    by_cases q : y = x
    · rw [if_pos q] at e
      cases e
      subst q
      exact ⟨v, hx, up _ _ hl⟩
    · rw [if_neg q] at e
      obtain ⟨u, h1, h2⟩ := F.var y l e
      exact ⟨u, (hy y u q).mpr h1, up _ _ h2⟩
  · rw [lookup_upd] at e1 e2
    by_cases q : y = x
    · subst q
      rw [if_pos rfl] at e1
      cases e1
      have hz : ¬ z = y := fun t => hyz t.symm
      rw [if_neg hz] at e2
      have := hx.fun h1
      subst this
      exact hn z Q mq hz e2 ((hy z _ hz).mp h2)
    · rw [if_neg q] at e1
      by_cases q2 : z = x
      · subst q2
        rw [if_pos rfl] at e2
        cases e2
        have := hx.fun h2
        subst this
        exact hn y P mp q e1 ((hy y _ q).mp h1)
      · rw [if_neg q2] at e2
        exact F.sep y z a P mp Q mq hyz e1 e2 ((hy y _ q).mp h1) ((hy z _ q2).mp h2)
end

section
variable {X : Cx} {k : Nat} {sc : Scope} {τ : Sto} {s₀ s : Shared} {g₀ g : Heap} {env : Env} {H : List (Addr × Obj)} {m cm : Str → Option Value}

/-- a name is a place to store at -/
def canStore (sc : Scope) (x : Str) : Bool := sc.names.lookup x == some .local || sc.names.lookup x == some .cell

theorem wp_store {A : Around} {E : Value → Shared → Prop} {x : Str} {v : Value} {lv : LV} {Q : Unit → Shared → Prop} (F : FS s₀ g₀ env H τ g m cm s) (o : EnvOk env sc) (hx : canStore sc x = true) (hc : sc.names.lookup x = some .cell → (env.cells.lookup x).isSome = true)
    (hl : LvIn s₀ env H g s v lv) (hn : NewLv env τ m cm x v lv) (h : ∀ m' cm' s', FS s₀ g₀ env H (upd x lv τ) g m' cm' s' → Q () s') : wpAny X.M A (storeName env x v) Q E s := by
  unfold canStore at hx
  rw [Bool.or_eq_true] at hx
  rcases hx with hx | hx
  · have hk := o.kindOf (beq_iff_eq.mp hx)
    refine wpAny_storeName_local hk F.call.toInCall.ns (fun h' hns hs => h _ cm _ (F.bind (x := x) (v := v) ⟨⟨?_, hns, fun b ob e => ?_, F.call.toInCall.fresh⟩, fun n c hc => ?_, F.call.apart, F.call.above⟩ (fun b ob hb _ e => hs.extBut b ob hb e) ?_ (fun y u hy => ?_) hl hn)) o.plain
    · obtain ⟨h₁, tk, e⟩ := F.call.toInCall.same
      subst e
      exact ⟨h', _, rfl⟩
    · exact hs.extBut b ob (Nat.ne_of_lt (Nat.lt_of_lt_of_le (Heap.lt_size e) F.call.toInCall.fresh)) (F.call.toInCall.keep b ob e)
    · exact (F.call.cell n c hc).sameBut hs (Nat.ne_of_gt (F.call.above n c (mem_of_lookup hc)))
    · exact .inl ⟨hk, if_pos rfl⟩
    · unfold Holds
      simp only [if_neg hy]
  · have hk := o.kindOf (beq_iff_eq.mp hx)
    obtain ⟨c, hcl⟩ := Option.isSome_iff_exists.mp (hc (beq_iff_eq.mp hx))
    have hLc := F.call.above x c (mem_of_lookup hcl)
    refine wpAny_storeName_cell o.ek hk hcl (F.call.cell x c hcl) fun h' hce hs => h m (fun y => if y = x then some v else cm y) _ (F.bind (x := x) (v := v) ⟨⟨?_, F.call.toInCall.ns.sameBut hs (Nat.ne_of_lt hLc), fun b ob e => ?_, F.call.toInCall.fresh⟩, fun n c' hk' => ?_, F.call.apart, F.call.above⟩
      (fun b ob _ hb e => hs.extBut b ob (hb x c hcl) e) ?_ (fun y u hy => ?_) hl hn)
    · obtain ⟨h₁, tk, e⟩ := F.call.toInCall.same
      subst e
      exact ⟨h', _, rfl⟩
    · exact hs.extBut b ob (Nat.ne_of_lt (Nat.lt_trans (Nat.lt_of_lt_of_le (Heap.lt_size e) F.call.toInCall.fresh) hLc)) (F.call.toInCall.keep b ob e)
    · by_cases hkn : n = x
      · subst hkn
        rw [hcl] at hk'; cases hk'
        simpa using hce
      · rw [if_neg hkn]
        exact (F.call.cell n c' hk').sameBut hs fun e => hkn (name_of_addr F.call.apart (mem_of_lookup hk') (e ▸ mem_of_lookup hcl))
    · exact .inr ⟨hk, hc (beq_iff_eq.mp hx), if_pos rfl⟩
    · unfold Holds
      simp only [if_neg hy]

/-- how a piece of a def's body may end -/
inductive Out where
  | next (τ : Sto)
  | brk (τ : Sto)
  | cont (τ : Sto)
  | ret (d : Dat)
def OutIs (s₀ : Shared) (g₀ : Heap) (env : Env) (H : List (Addr × Obj)) (R : Out → Prop) (f : Flow) (s' : Shared) : Prop :=
  match f with
  | .next => ∃ τ g m cm, R (.next τ) ∧ FS s₀ g₀ env H τ g m cm s'
  | .brk => ∃ τ g m cm, R (.brk τ) ∧ FS s₀ g₀ env H τ g m cm s'
  | .cont => ∃ τ g m cm, R (.cont τ) ∧ FS s₀ g₀ env H τ g m cm s'
  | .ret v => ∃ d g, R (.ret d) ∧ Keeps s₀ s' ∧ Step g₀ s₀.heap g s'.heap ∧ Rep g v d
abbrev DefEnv (env : Env) (sc : Scope) : Prop := EnvOk env sc
def Ex (X : Cx) (k : Nat) (sc : Scope) (τ : Sto) (t : Env → Sem Flow) (R : Out → Prop) : Prop :=
  ∀ (A : Around) (env : Env) (s₀ : Shared) (g₀ : Heap) (H : List (Addr × Obj)) (g : Heap) (m cm : Str → Option Value) (s : Shared) (E : Value → Shared → Prop),
    Room A k → DefEnv env sc → Sub X.h0 g₀ → FS s₀ g₀ env H τ g m cm s → wpAny X.M A (t env) (OutIs s₀ g₀ env H R) E s

theorem OutIs.mono {R R' : Out → Prop} {f : Flow} {s' : Shared} (h : OutIs s₀ g₀ env H R f s') (hr : ∀ o, R o → R' o) : OutIs s₀ g₀ env H R' f s' := by
  cases f with
  | next => obtain ⟨τ, g, m, cm, r, F⟩ := h; exact ⟨τ, g, m, cm, hr _ r, F⟩
  | brk => obtain ⟨τ, g, m, cm, r, F⟩ := h; exact ⟨τ, g, m, cm, hr _ r, F⟩
  | cont => obtain ⟨τ, g, m, cm, r, F⟩ := h; exact ⟨τ, g, m, cm, hr _ r, F⟩
  | ret v => obtain ⟨d, g, r, F⟩ := h; exact ⟨d, g, hr _ r, F⟩
theorem Ex.mono {t : Env → Sem Flow} {R R' : Out → Prop} (h : Ex X k sc τ t R) (hr : ∀ o, R o → R' o) : Ex X k sc τ t R' :=
  fun A env s₀ g₀ H g m cm s E r o b F => wpAny_mono (h A env s₀ g₀ H g m cm s E r o b F) (fun _ _ x => x.mono hr) fun _ _ y => y

theorem Ex.nil {R : Out → Prop} (h : R (.next τ)) : Ex X k sc τ (execs []) R := fun A env s₀ g₀ H g m cm s E r o b F => wpAny_execs_nil ⟨τ, g, m, cm, h, F⟩
/-- a statement, then the rest -/
def Then (X : Cx) (k : Nat) (sc : Scope) (rest : List Stmt) (R : Out → Prop) : Out → Prop
  | .next τ => Ex X k sc τ (execs rest) R
  | o => R o
theorem Ex.cons {st : Stmt} {rest : List Stmt} {R : Out → Prop} (h : Ex X k sc τ (exec st) (Then X k sc rest R)) : Ex X k sc τ (execs (st :: rest)) R := by
  intro A env s₀ g₀ H g m cm s E r o b F
  refine wpAny_execs_cons (wpAny_mono (h A env s₀ g₀ H g m cm s E r o b F) (fun f s' x => ?_) fun _ _ y => y)
  cases f with
  | next => obtain ⟨τ', g', m', cm', rr, F'⟩ := x; exact rr A env s₀ g₀ H g' m' cm' s' E r o b F'
  | brk => exact x
  | cont => exact x
  | ret v => exact x
theorem Ex.last {st : Stmt} {R : Out → Prop} (h : Ex X k sc τ (exec st) R) : Ex X k sc τ (execs [st]) R :=
  Ex.cons (h.mono fun o r => by cases o with
    | next τ' => exact Ex.nil r
    | _ => exact r)

theorem Ex.return {e : Expr} {pos : Pos} {d : Dat} {R : Out → Prop} (h : Ev X k sc τ e d) (hr : R (.ret d)) : Ex X k sc τ (exec (.Return (some e) pos)) R := by
  intro A env s₀ g₀ H g m cm s E r o b F
  refine wpAny_Return_some (wp_ev (h A env g s E r o.toEnvOk (b.trans F.st.gg) F.sto) fun v g' s' k1 x1 p1 => ?_)
  exact ⟨d, g', hr, kp_trans F.done k1, F.st.trans x1, p1⟩
theorem Ex.if {test : Expr} {body orelse : List Stmt} {pos : Pos} {c : Bool} {R : Out → Prop} (h : EvT X k sc τ test c) (h1 : c = true → Ex X k sc τ (execs body) R) (h2 : c = false → Ex X k sc τ (execs orelse) R) : Ex X k sc τ (exec (.If test body orelse pos)) R := by
  intro A env s₀ g₀ H g m cm s E r o b F
  refine wpAny_If (wp_seq (h A env g s E r o.toEnvOk (b.trans F.st.gg) F.sto) fun c' s' ⟨e, k1, g', x1⟩ => ?_)
  subst e
  cases c' with
  | true => simp only [if_true]; exact h1 rfl A env s₀ g₀ H g' m cm s' E r o b (F.ev k1 x1)
  | false => simp only [Bool.false_eq_true, if_false]; exact h2 rfl A env s₀ g₀ H g' m cm s' E r o b (F.ev k1 x1)
/-- x = e -/
theorem Ex.assign {x : Str} {px pos : Pos} {e : Expr} {d : Dat} {R : Out → Prop} (h : Ev X k sc τ e d) (hr : R (.next (upd x (.dat d) τ))) (hx : canStore sc x = true := by rfl)
    (hs : ∀ env, swapsWith e (some (.Name x px)) pos.line env = pure false := by intro _; rfl) : Ex X k sc τ (exec (.Assign [.Name x px] e pos)) R := by
  intro A env s₀ g₀ H g m cm s E r o b F
  refine wpAny_Assign_Name (wp_ev (h A env g s E r o.toEnvOk (b.trans F.st.gg) F.sto) fun v g' s' k1 x1 p1 => ?_) (hs env)
  exact wp_store (lv := .dat d) (F.ev k1 x1) o.toEnvOk hx (o.cells x) p1 trivial fun m' cm' s'' F' => ⟨_, g', m', cm', hr, F'⟩
end
end Mine

namespace Mine
open PySem PySem.W PyProof.Rows PySem.Calls
set_option Elab.async false
set_option maxRecDepth 100000
set_option linter.unusedVariables false

/-- what stands at some addresses -/
def objsAt (wr : List Addr) (h : Heap) : List (Addr × Obj) := wr.filterMap fun b => (h.get? b).map fun o => (b, o)
theorem mem_objsAt {wr : List Addr} {h : Heap} {p : Addr × Obj} : p ∈ objsAt wr h ↔ p.1 ∈ wr ∧ h.get? p.1 = some p.2 := by
  obtain ⟨a, o⟩ := p
  unfold objsAt
  rw [List.mem_filterMap]
  constructor
  · rintro ⟨b, hb, e⟩
    cases z : h.get? b with
    | none => rw [z] at e; cases e
    | some q => rw [z] at e; cases e; exact ⟨hb, z⟩
  · rintro ⟨h1, h2⟩
    exact ⟨a, h1, by rw [show h.get? a = some o from h2]; rfl⟩

section
variable {s₀ s : Shared} {g₀ g : Heap} {env : Env} {H : List (Addr × Obj)} {τ : Sto} {m cm : Str → Option Value}

theorem LvIn.hold {H' : List (Addr × Obj)} {v : Value} {lv : LV} (h : LvIn s₀ env H g s v lv) (hh : ∀ a, (s.heap.get? a).isSome → g.get? a = none → a ≠ env.locals → (∀ n c, env.cells.lookup n = some c → c ≠ a) → (∀ p ∈ H, p.1 ≠ a) → ∀ p ∈ H', p.1 ≠ a) : LvIn s₀ env H' g s v lv := by
  cases lv with
  | dat d => exact h
  | val u => exact h
  | obj P mp =>
    obtain ⟨a, o, rfl, h1, h2, h3, h4, h5, h6, h7⟩ := h
    exact ⟨a, o, rfl, h1, h2, h3, h4, h5, h6, hh a (by rw [h1]; rfl) h3 h5 h6 h7⟩
/-- fewer things are held -/
theorem FS.less (F : FS s₀ g₀ env H τ g m cm s) {H' : List (Addr × Obj)} (h : ∀ p ∈ H', p ∈ H) : FS s₀ g₀ env H' τ g m cm s :=
  ⟨F.call, F.st, F.gL, F.gC, fun p hp => F.hold p (h p hp), fun x lv e => let ⟨v, a, b⟩ := F.var x lv e; ⟨v, a, b.hold fun a _ _ _ _ q p hp => q p (h p hp)⟩, F.sep⟩
/-- new things are held -/
theorem FS.more (F : FS s₀ g₀ env H τ g m cm s) {old g' : Heap} {wr : List Addr} (F0 : FS s₀ g₀ env H τ g' m cm { s with heap := old }) (hw : ∀ b ∈ wr, old.get? b = none) (hg : ∀ b ∈ wr, g.get? b = none) : FS s₀ g₀ env (objsAt wr s.heap ++ H) τ g m cm s := by
  have none_of : ∀ {k : Heap} {b}, Sub k old → b ∈ wr → k.get? b = none := by
    intro k b hs hb
    cases z : k.get? b with
    | none => rfl
    | some o => have := hs _ _ z; rw [hw b hb] at this; cases this
  refine ⟨F.call, F.st, F.gL, F.gC, fun p hp => ?_, fun x lv e => ?_, F.sep⟩
  · rcases List.mem_append.mp hp with hp | hp
    · obtain ⟨h1, h2⟩ := mem_objsAt.mp hp
      refine ⟨h2, fun q => ?_, fun n c hc q => ?_, hg _ h1, none_of F0.st.hh h1⟩
      · obtain ⟨o, _, _, ho, _⟩ := F0.call.toInCall.ns
        have := hw _ h1
        rw [q] at this
        have ho' : old.get? env.locals = some o := ho
        rw [ho'] at this; cases this
      · obtain ⟨o, ho, _⟩ := F0.call.cell n c hc
        have := hw _ h1
        rw [← q] at this
        have ho' : old.get? c = some o := ho
        rw [ho'] at this; cases this
    · exact F.hold p hp
  · obtain ⟨v, a, b⟩ := F.var x lv e
    obtain ⟨v0, a0, b0⟩ := F0.var x lv e
    have hv := a.fun a0
    subst hv
    refine ⟨v, a, ?_⟩
    cases lv with
    | dat d => exact b
    | val u => exact b
    | obj P mp =>
      obtain ⟨ad, o, rfl, h1, h2, h3, h4, h5, h6, h7⟩ := b
      obtain ⟨ad', o', e', k1, _⟩ := b0
      cases e'
      refine ⟨ad, o, rfl, h1, h2, h3, h4, h5, h6, fun p hp => ?_⟩
      rcases List.mem_append.mp hp with hp | hp
      · obtain ⟨q1, q2⟩ := mem_objsAt.mp hp
        intro q
        have := hw _ q1
        rw [q] at this
        have k1' : old.get? ad = some o' := k1
        rw [k1'] at this; cases this
      · exact h7 p hp
/-- the held things have been turned -/
theorem FS.wrote {wr : List Addr} (F : FS s₀ g₀ env (objsAt wr s.heap ++ H) τ g m cm s) {h' : Heap} {tk : Tok} (hd : ∀ p ∈ H, p.1 ∉ wr) (hl : ∀ b ∈ wr, (s.heap.get? b).isSome) (hk : ∀ b o, b ∉ wr → s.heap.get? b = some o → h'.get? b = some o) :
    FS s₀ g₀ env (objsAt wr h' ++ H) τ g m cm { s with heap := h', toks := tk } := by
  have at_ : ∀ b ∈ wr, b ≠ env.locals ∧ (∀ n c, env.cells.lookup n = some c → c ≠ b) ∧ g.get? b = none ∧ s₀.heap.get? b = none := by
    intro b hb
    obtain ⟨o, ho⟩ := Option.isSome_iff_exists.mp (hl b hb)
    obtain ⟨_, h2, h3, h4, h5⟩ := F.hold (b, o) (List.mem_append_left _ (mem_objsAt.mpr ⟨hb, ho⟩))
    exact ⟨h2, h3, h4, h5⟩
  have ns := F.call.toInCall.ns
  have keep0 : Sub s₀.heap h' := fun b o e => hk b o (fun q => by have := (at_ b q).2.2.2; rw [this] at e; cases e) (F.call.toInCall.keep b o e)
  have keepg : Sub g h' := fun b o e => hk b o (fun q => by have := (at_ b q).2.2.1; rw [this] at e; cases e) (F.st.gh b o e)
  refine ⟨⟨⟨?_, ?_, keep0, F.call.toInCall.fresh⟩, fun n c hc => ?_, F.call.apart, F.call.above⟩, ⟨F.st.gg, keep0, keepg, F.st.new⟩, F.gL, F.gC, fun p hp => ?_, fun x lv e => ?_, F.sep⟩
  · obtain ⟨h₁, t, e⟩ := F.call.toInCall.same
    subst e
    exact ⟨h', tk, rfl⟩
  · obtain ⟨o, es, ep, ho, r⟩ := ns
    exact ⟨o, es, ep, hk _ _ (fun q => (at_ _ q).1 rfl) ho, r⟩
  · obtain ⟨o, ho, hd⟩ := F.call.cell n c hc
    exact ⟨o, hk _ _ (fun q => (at_ _ q).2.1 n c hc rfl) ho, hd⟩
  · rcases List.mem_append.mp hp with hp | hp
    · obtain ⟨h1, h2⟩ := mem_objsAt.mp hp
      obtain ⟨a1, a2, a3, a4⟩ := at_ _ h1
      exact ⟨h2, a1, a2, a3, a4⟩
    · obtain ⟨h1, h2, h3, h4, h5⟩ := F.hold p (List.mem_append_right _ hp)
      exact ⟨hk _ _ (hd p hp) h1, h2, h3, h4, h5⟩
  · obtain ⟨v, a, b⟩ := F.var x lv e
    refine ⟨v, a, ?_⟩
    cases lv with
    | dat d => exact b
    | val u => exact b
    | obj P mp =>
      obtain ⟨ad, o, rfl, h1, h2, h3, h4, h5, h6, h7⟩ := b
      have hadw : ad ∉ wr := fun q => by
        obtain ⟨o', ho'⟩ := Option.isSome_iff_exists.mp (hl ad q)
        exact h7 (ad, o') (List.mem_append_left _ (mem_objsAt.mpr ⟨q, ho'⟩)) rfl
      refine ⟨ad, o, rfl, hk _ _ hadw h1, h2, h3, h4, h5, h6, fun p hp => ?_⟩
      rcases List.mem_append.mp hp with hp | hp
      · exact fun q => hadw (q ▸ (mem_objsAt.mp hp).1)
      · exact h7 p (List.mem_append_right _ hp)
end

section
variable {X : Cx} {k : Nat} {sc : Scope} {τ : Sto} {s₀ s : Shared} {g₀ g : Heap} {env : Env} {H : List (Addr × Obj)} {m cm : Str → Option Value}

theorem FS.base (F : FS s₀ g₀ env H τ g m cm s) : FS s₀ g env H τ g m cm s := ⟨F.call, ⟨.rfl, F.st.hh, F.st.gh, fun _ _ e => .inl e⟩, F.gL, F.gC, F.hold, F.var, F.sep⟩
theorem step_base {g₀ g g2 h0 h h2 : Heap} (x : Step g₀ h0 g h) (y : Step g h0 g2 h2) : Step g₀ h0 g2 h2 :=
  ⟨x.gg.trans y.gg, y.hh, y.gh, fun b o e => by
    rcases y.new b o e with q | q
    · exact x.new b o q
    · exact .inr q⟩
theorem FS.unbase {g2 : Heap} {h : Heap} (x : Step g₀ s₀.heap g h) (F : FS s₀ g env H τ g2 m cm s) : FS s₀ g₀ env H τ g2 m cm s := ⟨F.call, step_base x F.st, F.gL, F.gC, F.hold, F.var, F.sep⟩

/-- what a loop's turn is to bring -/
def Turn (Inv : Sto → Prop) (R : Out → Prop) : Out → Prop
  | .next τ => Inv τ
  | .cont τ => Inv τ
  | .brk τ => R (.next τ)
  | .ret d => R (.ret d)

theorem Ex.forG {tg : Expr} {bd : Dat → Sto → Sto} {pos : Pos} {iter : Expr} {body : List Stmt} {ds : List Dat} {R : Out → Prop} (hit : Its X k sc τ iter ds) (Inv : Nat → Sto → Prop) (h0 : Inv 0 τ)
    (turn : ∀ i τ' d, ds[i]? = some d → Inv i τ' → Ex X k sc (bd d τ') (execs body) (Turn (Inv (i + 1)) R)) (done : ∀ τ', Inv ds.length τ' → R (.next τ')) 
    (asg : ∀ (A : Around) (E : Value → Shared → Prop) (env : Env) (s₀ : Shared) (g₀ : Heap) (H : List (Addr × Obj)) (g : Heap) (m cm : Str → Option Value) (s : Shared) (τ' : Sto) (v : Value) (d : Dat) (Q : Unit → Shared → Prop), Room A k → EnvOk env sc → FS s₀ g₀ env H τ' g m cm s → Rep g v d → d ∈ ds →
      (∀ m' cm' s', FS s₀ g₀ env H (bd d τ') g m' cm' s' → Q () s') → wpAny X.M A (PySem.assign tg env v) Q E s) :
    Ex X k sc τ (exec (.For tg iter body [] pos)) R := by
  intro A env s₀ g₀ H g m cm s E r o b F
  refine wpAny_For (wp_ev (hit.1 A env g s E r o.toEnvOk (b.trans F.st.gg) F.sto) fun xv g1 s1 k1 x1 p1 => ?_) (hit.2 env)
  have F1 := F.ev k1 x1
  refine wpAny_mono (p1 s1 x1.gh A E r) (fun it s2 ⟨k2, I, fp, wr, P, St, e, W⟩ => ?_) fun _ _ y => y
  subst e
  have x2 : Step g1 s1.heap g1 s2.heap := ⟨.rfl, kp_sub k2, x1.gh.trans (kp_sub k2), fun _ _ e => .inl e⟩
  have F2' := F1.ev k2 x2
  have hd : ∀ p ∈ H, p.1 ∉ wr := fun p hp q => by
    have := (F1.hold p hp).1
    rw [W.fresh _ q] at this; cases this
  have F1' : FS s₀ g₀ env H τ g1 m cm { s2 with heap := s1.heap } := by
    obtain ⟨h', tk, rfl, kp⟩ := k2
    exact F1.tok
  have F2 := F2'.more F1' W.fresh fun b hb => by
    cases z : g1.get? b with
    | none => rfl
    | some o' => have := x1.gh _ _ z; rw [W.fresh b hb] at this; cases this
  refine codeAny_forLoop_any (fun n s' => ∃ i τ' g' m' cm', n = ds.length - i ∧ i ≤ ds.length ∧ Inv i τ' ∧ FS s₀ g₀ env (objsAt wr s'.heap ++ H) τ' g' m' cm' s' ∧ St i s'.heap ∧ Sub g1 g') ?_ ds.length ⟨0, τ, g1, m, cm, rfl, Nat.zero_le _, h0, F2, W.start, .rfl⟩
  rintro n s3 ⟨i, τ', g', m', cm', rfl, hi, hI, F3, hst, hg1⟩
  have hlv := W.live i _ hst
  rcases Nat.lt_or_ge i ds.length with hlt | hge
  · refine (W.walks A r.hh).item i s3 _ _ hlt hst fun v h' tk hP hst' hk' => ?_
    have F4 := F3.wrote (tk := tk) hd hlv hk'
    obtain ⟨d, hd1, hr⟩ := W.item i v hP
    refine W.own (i + 1) A _ _ v { s3 with heap := h', toks := tk } _ hst' ?_
    refine asg A _ env s₀ g₀ _ _ _ _ _ _ v d _ r o F4 (hr.sub hg1) (List.mem_of_getElem? hd1) fun m5 cm5 s5 F5 => ?_
    have hst5 : St (i + 1) s5.heap := (W.walks A r.hh).frame _ _ _ hst' fun c hc ob e => by
      rcases W.foot c hc with hw | hg
      · exact (F5.hold (c, ob) (List.mem_append_left _ (mem_objsAt.mpr ⟨hw, e⟩))).1
      · obtain ⟨ob', hg⟩ := Option.isSome_iff_exists.mp hg
        have e1 := F4.st.gh _ _ (hg1 _ _ hg)
        have e1' : h'.get? c = some ob' := e1
        rw [e] at e1'; cases e1'
        exact F5.st.gh _ _ (hg1 _ _ hg)
    have same : ∀ {s6 : Shared} {τ6 g6 m6 cm6}, FS s₀ g₀ env (objsAt wr h' ++ H) τ6 g6 m6 cm6 s6 → Sub g1 g6 → FS s₀ g₀ env (objsAt wr s6.heap ++ H) τ6 g6 m6 cm6 s6 ∧ St (i + 1) s6.heap := by
      intro s6 τ6 g6 m6 cm6 F6 hg6
      have hat : ∀ c ∈ wr, s6.heap.get? c = h'.get? c := by
        intro c hc
        obtain ⟨ob, hob⟩ := Option.isSome_iff_exists.mp (W.live _ _ hst' c hc)
        rw [hob]
        exact (F6.hold (c, ob) (List.mem_append_left _ (mem_objsAt.mpr ⟨hc, hob⟩))).1
      refine ⟨F6.less fun p hp => ?_, (W.walks A r.hh).frame _ _ _ hst' fun c hc ob e => ?_⟩
      · rcases List.mem_append.mp hp with hp | hp
        · obtain ⟨q1, q2⟩ := mem_objsAt.mp hp
          exact List.mem_append_left _ (mem_objsAt.mpr ⟨q1, by rw [← hat _ q1]; exact q2⟩)
        · exact List.mem_append_right _ hp
      · rcases W.foot c hc with hw | hg
        · rw [hat c hw]; exact e
        · obtain ⟨ob', hg⟩ := Option.isSome_iff_exists.mp hg
          have e1 : h'.get? c = some ob' := F4.st.gh _ _ (hg1 _ _ hg)
          rw [e] at e1; cases e1
          exact F6.st.gh _ _ (hg6 _ _ hg)
    have F5b := F5.base
    refine wpAny_mono (turn i τ' d hd1 hI A env s₀ _ (objsAt wr h' ++ H) _ m5 cm5 s5 _ r o (b.trans F5.st.gg) F5b) (fun f s6 x => ?_) fun _ _ y => y
    cases f with
    | next =>
      obtain ⟨τ6, g6, m6, cm6, rr, F6⟩ := x
      obtain ⟨a1, a2⟩ := same (F6.unbase F5.st) (hg1.trans F6.st.gg)
      exact ⟨ds.length - (i + 1), by omega, i + 1, τ6, g6, m6, cm6, rfl, hlt, rr, a1, a2, hg1.trans F6.st.gg⟩
    | cont =>
      obtain ⟨τ6, g6, m6, cm6, rr, F6⟩ := x
      obtain ⟨a1, a2⟩ := same (F6.unbase F5.st) (hg1.trans F6.st.gg)
      exact ⟨ds.length - (i + 1), by omega, i + 1, τ6, g6, m6, cm6, rfl, hlt, rr, a1, a2, hg1.trans F6.st.gg⟩
    | brk =>
      obtain ⟨τ6, g6, m6, cm6, rr, F6⟩ := x
      exact ⟨τ6, g6, m6, cm6, rr, (F6.unbase F5.st).less fun p hp => List.mem_append_right _ hp⟩
    | ret v =>
      obtain ⟨d6, g6, rr, k6, x6, r6⟩ := x
      exact ⟨d6, g6, rr, k6, step_base F5.st x6, r6⟩
  · have hin : i = ds.length := by omega
    subst hin
    refine (W.walks A r.hh).done s3 _ _ hst fun h' tk hk' => ?_
    have F4 := F3.wrote (tk := tk) hd hlv hk'
    exact wpAny_execs_nil ⟨τ', g', m', cm', done τ' hI, F4.less fun p hp => List.mem_append_right _ hp⟩
theorem Ex.for_ {x : Str} {px pos : Pos} {iter : Expr} {body : List Stmt} {ds : List Dat} {R : Out → Prop} (hit : Its X k sc τ iter ds) (Inv : Nat → Sto → Prop) (h0 : Inv 0 τ)
    (turn : ∀ i τ' d, ds[i]? = some d → Inv i τ' → Ex X k sc (upd x (.dat d) τ') (execs body) (Turn (Inv (i + 1)) R)) (done : ∀ τ', Inv ds.length τ' → R (.next τ')) (hx : canStore sc x = true := by rfl) :
    Ex X k sc τ (exec (.For (.Name x px) iter body [] pos)) R :=
  Ex.forG (bd := fun d τ' => upd x (.dat d) τ') hit Inv h0 turn done fun A E env s₀ g₀ H g m cm s τ' v d Q r o F hr _ h => wpAny_assign_Name (wp_store (lv := .dat d) F o.toEnvOk hx (o.cells x) hr trivial h)

theorem Ex.while_ {test : Expr} {body : List Stmt} {pos : Pos} {R : Out → Prop} (Inv : Nat → Sto → Prop) (n : Nat) (h0 : Inv n τ)
    (turn : ∀ n τ', Inv n τ' → ∃ c, EvT X k sc τ' test c ∧ (c = true → Ex X k sc τ' (execs body) (Turn (fun τ => ∃ j, j < n ∧ Inv j τ) R)) ∧ (c = false → R (.next τ'))) :
    Ex X k sc τ (exec (.While test body [] pos)) R := by
  intro A env s₀ g₀ H g m cm s E r o b F
  refine wpAny_While ?_
  refine codeAny_whileLoop (fun n s' => ∃ τ' g' m' cm', Inv n τ' ∧ FS s₀ g₀ env H τ' g' m' cm' s') ?_ n ⟨τ, g, m, cm, h0, F⟩
  rintro n s1 ⟨τ', g', m', cm', hI, F1⟩
  obtain ⟨c, ht, h1, h2⟩ := turn n τ' hI
  refine wp_seq (ht A env g' s1 _ r o.toEnvOk (b.trans F1.st.gg) F1.sto) fun c' s2 ⟨e, k1, g2, x1⟩ => ?_
  subst e
  have F2 := F1.ev k1 x1
  cases c' with
  | false =>
    simp only [Bool.false_eq_true, if_false]
    exact wpAny_execs_nil ⟨τ', g2, m', cm', h2 rfl, F2⟩
  | true =>
    simp only [if_true]
    refine wpAny_mono (h1 rfl A env s₀ g₀ H g2 m' cm' s2 _ r o b F2) (fun f s6 x => ?_) fun _ _ y => y
    cases f with
    | next =>
      obtain ⟨τ6, g6, m6, cm6, ⟨j, hj, hI6⟩, F6⟩ := x
      exact ⟨j, hj, τ6, g6, m6, cm6, hI6, F6⟩
    | cont =>
      obtain ⟨τ6, g6, m6, cm6, ⟨j, hj, hI6⟩, F6⟩ := x
      exact ⟨j, hj, τ6, g6, m6, cm6, hI6, F6⟩
    | brk => exact x
    | ret v => exact x

/-- a list of the frame's own -/
def listP (ds : List Dat) (_ : Addr) (o : Obj) (g : Heap) : Prop := ∃ vs n, o = { cls := .type "list", data := .seq (List.toArray vs) n } ∧ RepAll g vs ds
def LV.list (ds : List Dat) : LV := .obj (listP ds) fun _ _ _ _ k ⟨vs, n, e, r⟩ => ⟨vs, n, e, r.sub k⟩

/-- x = [] -/
theorem Ex.assignNil {x : Str} {px pos pl : Pos} {R : Out → Prop} (hr : R (.next (upd x (LV.list []) τ))) (hx : canStore sc x = true := by rfl)
    (hs : ∀ env, swapsWith (.List [] pl) (some (.Name x px)) pos.line env = pure false := by intro _; rfl) : Ex X k sc τ (exec (.Assign [.Name x px] (.List [] pl) pos)) R := by
  intro A env s₀ g₀ H g m cm s E r o b F
  refine wpAny_Assign_Name (List_ (wpAny_items_nil (wpAny_newObj_type ?_))) (hs env)
  have k1 : Keeps s { s with heap := s.heap.push { cls := .type "list", data := .seq (List.toArray []) } } := kp_mk (Sub.push .rfl _)
  have x1 : Step g s.heap g (s.heap.push { cls := .type "list", data := .seq (List.toArray []) }) := ⟨.rfl, Sub.push .rfl _, F.st.gh.trans (Sub.push .rfl _), fun _ _ e => .inl e⟩
  have none_of : ∀ {h : Heap}, Sub h s.heap → h.get? s.heap.objs.size = none := by
    intro h hs
    cases z : h.get? s.heap.objs.size with
    | none => rfl
    | some o => have := hs _ _ z; rw [fresh_size] at this; cases this
  have ne_of : ∀ {a : Addr} {ob : Obj}, s.heap.get? a = some ob → a ≠ s.heap.objs.size := fun e q => by rw [q, fresh_size] at e; cases e
  refine wp_store (lv := LV.list []) (F.ev k1 x1) o.toEnvOk hx (o.cells x) ?_ ?_ fun m' cm' s'' F' => ⟨_, g, m', cm', hr, F'⟩
  · refine ⟨_, _, rfl, Heap.get?_push_size _ rfl, ⟨[], 0, rfl, .nil⟩, none_of F.st.gh, none_of F.st.hh, ?_, ?_, ?_⟩
    · obtain ⟨ob, _, _, ho, _⟩ := F.call.toInCall.ns
      exact (ne_of ho).symm
    · intro n c hc
      obtain ⟨ob, ho, _⟩ := F.call.cell n c hc
      exact ne_of ho
    · intro p hp
      exact ne_of (F.hold p hp).1
  · intro y P mp hy e hh
    obtain ⟨v, hv, lv⟩ := F.var y _ e
    obtain ⟨a, ob, rfl, ho, _⟩ := lv
    have := hv.fun hh
    cases this
    rw [fresh_size] at ho; cases ho

/-- the object of a name is turned -/
theorem FS.mutate {x : Str} {a : Addr} {P : Addr → Obj → Heap → Prop} {mp} {lv : LV} {P' : Addr → Obj → Heap → Prop} {mp'} {h' : Heap} {tk : Tok} (F : FS s₀ g₀ env H τ g m cm s) (hx : τ.lookup x = some (.obj P mp)) (hh : Holds env m cm x (.ref a))
    (hk : Heap.ExtBut a s.heap h') (ho : ∃ o', h'.get? a = some o' ∧ P' a o' g) : FS s₀ g₀ env H (upd x (.obj P' mp') τ) g m cm { s with heap := h', toks := tk } := by
  obtain ⟨v, hv, ad, o, e, h1, h2, h3, h4, h5, h6, h7⟩ := F.var x _ hx
  subst e
  have := hv.fun hh
  cases this
  have keep0 : Sub s₀.heap h' := fun b ob e => hk b ob (fun q => by rw [q, h4] at e; cases e) (F.call.toInCall.keep b ob e)
  have keepg : Sub g h' := fun b ob e => hk b ob (fun q => by rw [q, h3] at e; cases e) (F.st.gh b ob e)
  refine ⟨⟨⟨?_, ?_, keep0, F.call.toInCall.fresh⟩, fun n c hc => ?_, F.call.apart, F.call.above⟩, ⟨F.st.gg, keep0, keepg, F.st.new⟩, F.gL, F.gC, fun p hp => ?_, fun y l e => ?_, fun y z b P1 m1 Q1 m2 hyz e1 e2 q1 q2 => ?_⟩
  · obtain ⟨h₁, t, e⟩ := F.call.toInCall.same
    subst e
    exact ⟨h', tk, rfl⟩
  · obtain ⟨ob, es, ep, ho, r⟩ := F.call.toInCall.ns
    exact ⟨ob, es, ep, hk _ _ (fun q => h5 q.symm) ho, r⟩
  · obtain ⟨ob, ho, hd⟩ := F.call.cell n c hc
    exact ⟨ob, hk _ _ (h6 n c hc) ho, hd⟩
  · obtain ⟨k1, k2, k3, k4, k5⟩ := F.hold p hp
    exact ⟨hk _ _ (h7 p hp) k1, k2, k3, k4, k5⟩
  · rw [lookup_upd] at e
    by_cases q : y = x
    · rw [if_pos q] at e
      cases e
      subst q
      obtain ⟨o', ho', hp'⟩ := ho
      exact ⟨_, hh, a, o', rfl, ho', hp', h3, h4, h5, h6, h7⟩
    · rw [if_neg q] at e
      obtain ⟨u, hu, lu⟩ := F.var y l e
      refine ⟨u, hu, ?_⟩
      cases l with
      | dat d => exact lu
      | val u => exact lu
      | obj P2 mp2 =>
        obtain ⟨b, ob, rfl, k1, k2, k3⟩ := lu
        exact ⟨b, ob, rfl, hk _ _ (fun w => F.sep y x b P2 mp2 P mp q e hx hu (by rw [w]; exact hh)) k1, k2, k3⟩
  · rw [lookup_upd] at e1 e2
    by_cases qy : y = x
    · subst qy
      have qz : ¬ z = y := fun t => hyz t.symm
      rw [if_neg qz] at e2
      exact F.sep y z b P mp Q1 m2 hyz hx e2 q1 q2
    · rw [if_neg qy] at e1
      by_cases qz : z = x
      · subst qz
        exact F.sep y z b P1 m1 P mp hyz e1 hx q1 q2
      · rw [if_neg qz] at e2
        exact F.sep y z b P1 m1 Q1 m2 hyz e1 e2 q1 q2

/-- an object that is turned no more stands still from here on -/
theorem Ex.freezeObj {x : Str} {P : Addr → Obj → Heap → Prop} {mp} {d : Dat} {t : Env → Sem Flow} {R : Out → Prop} (hx : τ.lookup x = some (.obj P mp)) (hd : ∀ a o g g', P a o g → Sub g g' → g'.get? a = some o → Rep g' (.ref a) d)
    (h : Ex X k sc (upd x (.dat d) τ) t R) : Ex X k sc τ t R := by
  intro A env s₀ g₀ H g m cm s E r o b F
  obtain ⟨v, hv, ad, ob, e, h1, h2, h3, h4, h5, h6, h7⟩ := F.var x _ hx
  subst e
  have sg : Sub g (withObj g s.heap ad) := withObj_sub F.st.gh
  refine h A env s₀ g₀ H (withObj g s.heap ad) m cm s E r o b ⟨F.call, ⟨F.st.gg.trans sg, F.st.hh, withObj_in, fun c oc e => ?_⟩, withObj_other F.gL (fun q => h5 q.symm), fun n c hc => withObj_other (F.gC n c hc) (h6 n c hc), fun p hp => ?_, fun y l e => ?_, fun y z b P1 m1 Q1 m2 hyz e1 e2 q1 q2 => ?_⟩
  · by_cases q : c = ad
    · subst q; exact .inr h4
    · cases z : g.get? c with
      | some o' =>
        have h1 := sg _ _ z
        rw [e] at h1; cases h1
        exact F.st.new c oc z
      | none => rw [withObj_other z q] at e; cases e
  · obtain ⟨k1, k2, k3, k4, k5⟩ := F.hold p hp
    exact ⟨k1, k2, k3, withObj_other k4 (h7 p hp), k5⟩
  · rw [lookup_upd] at e
    by_cases q : y = x
    · rw [if_pos q] at e
      cases e
      subst q
      exact ⟨_, hv, hd ad ob g _ h2 sg (withObj_self h1)⟩
    · rw [if_neg q] at e
      obtain ⟨u, hu, lu⟩ := F.var y l e
      refine ⟨u, hu, ?_⟩
      cases l with
      | dat d => exact Rep.sub sg lu
      | val u => exact lu
      | obj P2 mp2 =>
        obtain ⟨c, oc, rfl, k1, k2, k3, k4⟩ := lu
        exact ⟨c, oc, rfl, k1, mp2 _ _ _ _ sg k2, withObj_other k3 (fun w => F.sep y x c P2 mp2 P mp q e hx hu (by rw [w]; exact hv)), k4⟩
  · rw [lookup_upd] at e1 e2
    by_cases qy : y = x
    · rw [if_pos qy] at e1; cases e1
    · rw [if_neg qy] at e1
      by_cases qz : z = x
      · rw [if_pos qz] at e2; cases e2
      · rw [if_neg qz] at e2
        exact F.sep y z b P1 m1 Q1 m2 hyz e1 e2 q1 q2
theorem Ex.freeze {x : Str} {ds : List Dat} {t : Env → Sem Flow} {R : Out → Prop} (hx : τ.lookup x = some (LV.list ds)) (h : Ex X k sc (upd x (.dat (.list ds)) τ) t R) : Ex X k sc τ t R :=
  Ex.freezeObj hx (fun a o g g' ⟨vs, n, e, r⟩ hs hg => by subst e; exact .list ⟨n, hg⟩ (r.sub hs)) h

theorem holds_name {A : Around} {E : Value → Shared → Prop} {x : Str} {pos : Pos} {v : Value} {Q : Value → Shared → Prop} (F : FS s₀ g₀ env H τ g m cm s) (o : DefEnv env sc) (hh : Holds env m cm x v) (h : Q v s) (hd : (x == ("__debug__" : Str)) = false := by decide) :
    wpAny X.M A (eval (.Name x pos) env) Q E s := by
  rcases hh with ⟨a, b⟩ | ⟨a, b, c⟩
  · exact wpAny_Name (wpAny_loadName_local o.ek a F.call.toInCall.ns b h) hd
  · obtain ⟨ad, hc⟩ := Option.isSome_iff_exists.mp b
    exact wpAny_Name (wpAny_loadName_cell o.ek a hc (c ▸ F.call.cell x ad hc) h) hd

/-- x.append(e) -/
theorem Ex.append {x : Str} {px apos cpos pos : Pos} {e : Expr} {ds : List Dat} {d : Dat} {R : Out → Prop} (hx : τ.lookup x = some (LV.list ds)) (h : Ev X k sc τ e d) (hr : R (.next (upd x (LV.list (ds ++ [d])) τ))) (hz : ds.length ≤ sizeLine)
    (hp : plainE e = true := by rfl) (hline : (apos.endLine == cpos.line) = true := by decide) (hd : (x == ("__debug__" : Str)) = false := by decide)
    (hs : ∀ env, swapsWith (.Call (.Attribute (.Name x px) "append" apos) [e] [] cpos) none pos.line env = pure false := by intro _; rfl) :
    Ex X k sc τ (exec (.Expr (.Call (.Attribute (.Name x px) "append" apos) [e] [] cpos) pos)) R := by
  intro A env s₀ g₀ H g m cm s E r o b F
  obtain ⟨v, hv, ad, ob, ev, h1, ⟨vs, n, eo, rp⟩, h3, h4, h5, h6, h7⟩ := F.var x _ hx
  subst ev; subst eo
  refine wpAny_Expr ?_ o.quiet (hs env)
  refine wpAny_Call_append (by rfl) (by rw [starEach_plain hp]; rfl) hline (by rw [starEach_plain hp]; rfl) (holds_name F o hv ⟨ad, vs.toArray, rfl, ⟨_, n, h1, rfl, rfl, rfl⟩, ?_⟩ hd)
  refine wp_ev (h A env g s E r o.toEnvOk (b.trans F.st.gg) F.sto) fun y g1 s1 k1 x1 p1 => ?_
  have F1 := F.ev k1 x1
  refine wpAny_list_append_plain (items := vs.toArray) ⟨n, x1.hh _ _ h1⟩ (fun h' hl hs' => ?_) (by rw [List.size_toArray, rp.length]; exact hz)
  refine ⟨_, g1, m, cm, hr, F1.mutate (lv := LV.list ds) hx hv hs'.extBut ?_⟩
  obtain ⟨n', hn'⟩ := hl
  exact ⟨_, hn', vs ++ [y], n', by simp, (RepAll.append (.one p1) (rp.sub x1.gg))⟩
end
end Mine

namespace Mine
open PySem PySem.W PyProof.Rows PySem.Calls
set_option Elab.async false
set_option maxRecDepth 100000
set_option linter.unusedVariables false

theorem bindL_off {kindOf : Str → Option NameKind} {n : Str} : ∀ (binds : List (Str × Value)) (m : Str → Option Value), n ∉ binds.map (·.1) → bindL kindOf binds m n = m n
  | [], _, _ => rfl
  | (y, v) :: r, m, h => by
    have h1 : n ≠ y := fun q => h (by simp [q])
    have h2 : n ∉ r.map (·.1) := fun q => h (by simp only [List.map_cons]; exact List.mem_cons_of_mem _ q)
    unfold bindL
    rw [bindL_off r _ h2]
    split
    · simp [h1]
    · rfl
theorem bindC_off {kindOf : Str → Option NameKind} {n : Str} : ∀ (binds : List (Str × Value)) (m : Str → Option Value), n ∉ binds.map (·.1) → bindC kindOf binds m n = m n
  | [], _, _ => rfl
  | (y, v) :: r, m, h => by
    have h1 : n ≠ y := fun q => h (by simp [q])
    have h2 : n ∉ r.map (·.1) := fun q => h (by simp only [List.map_cons]; exact List.mem_cons_of_mem _ q)
    unfold bindC
    rw [bindC_off r _ h2]
    split
    · rfl
    · simp [h1]
theorem bindL_at {kindOf : Str → Option NameKind} {n : Str} {v : Value} (hk : kindOf n = some .local) : ∀ (binds : List (Str × Value)) (m : Str → Option Value), (binds.map (·.1)).Nodup → (n, v) ∈ binds → bindL kindOf binds m n = some v
  | [], _, _, h => by cases h
  | (y, u) :: r, m, nd, h => by
    rw [List.map_cons, List.nodup_cons] at nd
    unfold bindL
    rcases List.mem_cons.mp h with e | h
    · cases e
      rw [bindL_off r _ nd.1, if_pos hk]
      simp
    · exact bindL_at hk r _ nd.2 h
theorem bindC_at {kindOf : Str → Option NameKind} {n : Str} {v : Value} (hk : kindOf n = some .cell) : ∀ (binds : List (Str × Value)) (m : Str → Option Value), (binds.map (·.1)).Nodup → (n, v) ∈ binds → bindC kindOf binds m n = some v
  | [], _, _, h => by cases h
  | (y, u) :: r, m, nd, h => by
    rw [List.map_cons, List.nodup_cons] at nd
    unfold bindC
    rcases List.mem_cons.mp h with e | h
    · cases e
      have : ¬ kindOf n = some .local := by rw [hk]; decide
      rw [bindC_off r _ nd.1, if_neg this]
      simp
    · exact bindC_at hk r _ nd.2 h

/-- a def stands in the module under its name -/
def IsDef (X : Cx) (f : Str) (params : Arguments) (body : List Stmt) (scope : Scope) : Prop :=
  ∃ a o pm code doc, X.mg f = some (.ref a) ∧ X.h0.get? a = some o ∧ o.data = .func (docDef f params body scope pm code doc) ∧ X.h0.CodeRec code f

def FnOut (P : Dat → Prop) : Out → Prop
  | .ret d => P d
  | .next _ => P .none
  | _ => False

def sto0 : List Str → List Dat → Sto
  | p :: ps, d :: ds => (p, .dat d) :: sto0 ps ds
  | _, _ => []
theorem sto0_at {g : Heap} : ∀ {ps : List Str} {ds : List Dat} {vs : List Value}, RepAll g vs ds → ∀ {x : Str} {lv : LV}, (sto0 ps ds).lookup x = some lv → ∃ v d, (x, v) ∈ ps.zip vs ∧ lv = .dat d ∧ Rep g v d
  | [], _, _, _, x, lv, e => by simp [sto0] at e
  | _ :: _, [], _, _, x, lv, e => by simp [sto0] at e
  | p :: ps, d :: ds, _, .cons (v := v) (vs := vs) a r, x, lv, e => by
    unfold sto0 at e
    rw [List.lookup_cons] at e
    by_cases h : x = p
    · subst h
      simp only [beq_self_eq_true] at e
      cases e
      exact ⟨v, d, by simp, rfl, a⟩
    · have : (x == p) = false := by simpa using h
      rw [this] at e
      obtain ⟨v', d', h1, h2, h3⟩ := sto0_at r e
      exact ⟨v', d', by rw [List.zip_cons_cons]; exact List.mem_cons_of_mem _ h1, h2, h3⟩

theorem Fn.intro {X : Cx} {k : Nat} {f : Str} {params : Arguments} {body : List Stmt} {scope : Scope} {ds : List Dat} {P : Dat → Prop} (D : IsDef X f params body scope) (ps : List Str) (hlen : ps.length = ds.length)
    (hbind : ∀ pm code doc (vs : List Value), vs.length = ds.length → bindArgs (docDef f params body scope pm code doc) ⟨vs, []⟩ = pure (ps.zip vs))
    (hnd : ps.Nodup) (hkinds : (ps.all fun y => scope.names.lookup y == some .local || scope.names.lookup y == some .cell) = true)
    (h : Ex X k scope (sto0 ps ds) (execs body) (FnOut P)) (hk : scope.kind = .function := by rfl) (hco : scope.isCoroutine = false := by rfl) (hgen : scope.isGenerator = false := by rfl) :
    Fn X (k + 1) f ds fun g v => ∃ d, P d ∧ Rep g v d := by
  obtain ⟨a, o, pm, code, doc, h1, h2, h3, h4⟩ := D
  refine ⟨a, o, _, h1, h2, h3, ?_⟩
  intro g s vs b0 kk r A E rm
  have hl : vs.length = ds.length := r.length
  have hz : (ps.zip vs).map (·.1) = ps := by
    rw [List.map_fst_zip]; omega
  have hkk : ∀ n, ∀ x ∈ ps.zip vs, scope.names.lookup x.1 = some .local ∨ (scope.names.lookup x.1 = some .cell ∧ ((cellsFrom n scope.names []).lookup x.1).isSome = true) := by
    refine kindsX ?_
    rw [List.all_eq_true]
    intro y hy
    exact List.all_eq_true.mp hkinds y.1 (List.of_mem_zip hy).1
  refine wpAny_call (codeAny_call_cells (a := a) rm.room (kk _ _ (b0 _ _ h2)) h3 (X.hl.keeps (b0.trans kk)) (h4.keeps (b0.trans kk)) rfl (hbind pm code doc vs hl) rfl (hkk _) (fun s₁ C => ?_) hco hgen hk)
  have o : DefEnv (callEnvC (docDef f params body scope pm code doc) s.heap.objs.size a) scope := ⟨rfl, hk, rfl, rfl, fun x hx => cellsFrom_some _ _ _ (.inl hx)⟩
  have none_of : ∀ {b}, s.heap.objs.size ≤ b → g.get? b = none := by
    intro b hb
    cases z : g.get? b with
    | none => rfl
    | some o => exact absurd (Heap.lt_size (kk _ _ z)) (Nat.not_lt.mpr hb)
  have F : FS s g (callEnvC (docDef f params body scope pm code doc) s.heap.objs.size a) [] (sto0 ps ds) g (bindL (callEnvC (docDef f params body scope pm code doc) s.heap.objs.size a).kindOf (ps.zip vs) fun _ => none) (bindC (callEnvC (docDef f params body scope pm code doc) s.heap.objs.size a).kindOf (ps.zip vs) fun _ => none) s₁ := by
    refine ⟨C, ⟨.rfl, C.toInCall.keep, kk.trans C.toInCall.keep, fun _ _ e => .inl e⟩, none_of C.toInCall.fresh, fun n c hc => none_of (Nat.le_of_lt (Nat.lt_of_le_of_lt C.toInCall.fresh (C.above n c (mem_of_lookup hc)))), fun p hp => (nomatch hp), fun x lv e => ?_, fun x y a P mp Q mq _ e1 _ _ => ?_⟩
    · obtain ⟨v, d, hm, rfl, hr⟩ := sto0_at r e
      refine ⟨v, ?_, hr⟩
      rcases hkk (s.heap.objs.size + 1) _ hm with hq | ⟨hq, hq2⟩
      · exact .inl ⟨hq, bindL_at hq _ _ (hz.symm ▸ hnd) hm⟩
      · exact .inr ⟨hq, hq2, bindC_at hq _ _ (hz.symm ▸ hnd) hm⟩
    · obtain ⟨v, d, hm, e', hr⟩ := sto0_at r e1
      cases e'
  refine wpAny_mono (h (A.deeper _) _ s g [] g _ _ s₁ _ (rm.deeper _) o b0 F) (fun fl s' x => ?_) fun _ _ y => y
  cases fl with
  | next =>
    obtain ⟨τ', g', m', cm', rr, F'⟩ := x
    exact ⟨F'.done, g', F'.st, .none, rr, .none⟩
  | brk => obtain ⟨_, _, _, _, rr, _⟩ := x; exact rr.elim
  | cont => obtain ⟨_, _, _, _, rr, _⟩ := x; exact rr.elim
  | ret v =>
    obtain ⟨d, g', rr, k1, x1, r1⟩ := x
    exact ⟨k1, g', x1, d, rr, r1⟩
theorem Fn.mono {X : Cx} {k : Nat} {f : Str} {ds : List Dat} {P P' : Heap → Value → Prop} (h : Fn X k f ds P) (hp : ∀ g v, P g v → P' g v) : Fn X k f ds P' := by
  obtain ⟨a, o, fd, h1, h2, h3, hop⟩ := h
  exact ⟨a, o, fd, h1, h2, h3, fun g s vs b0 kk r A E rm => wpAny_mono (hop g s vs b0 kk r A E rm) (fun _ _ x => x.mono fun g' => hp g' _) fun _ _ y => y⟩
theorem Fn.le {X : Cx} {k j : Nat} {f : Str} {ds : List Dat} {P : Heap → Value → Prop} (h : Fn X k f ds P) (hj : k ≤ j) : Fn X j f ds P := by
  obtain ⟨a, o, fd, h1, h2, h3, hop⟩ := h
  exact ⟨a, o, fd, h1, h2, h3, fun g s vs b0 kk r A E rm => hop g s vs b0 kk r A E (rm.le hj)⟩
/-- a def that yields one datum -/
abbrev FnD (X : Cx) (k : Nat) (f : Str) (ds : List Dat) (d : Dat) : Prop := Fn X k f ds fun g v => Rep g v d
theorem FnD.intro {X : Cx} {k : Nat} {f : Str} {params : Arguments} {body : List Stmt} {scope : Scope} {ds : List Dat} {d : Dat} (D : IsDef X f params body scope) (ps : List Str) (hlen : ps.length = ds.length)
    (hbind : ∀ pm code doc (vs : List Value), vs.length = ds.length → bindArgs (docDef f params body scope pm code doc) ⟨vs, []⟩ = pure (ps.zip vs))
    (hnd : ps.Nodup) (hkinds : (ps.all fun y => scope.names.lookup y == some .local || scope.names.lookup y == some .cell) = true)
    (h : Ex X k scope (sto0 ps ds) (execs body) (FnOut (· = d))) (hk : scope.kind = .function := by rfl) (hco : scope.isCoroutine = false := by rfl) (hgen : scope.isGenerator = false := by rfl) : FnD X (k + 1) f ds d :=
  (Fn.intro D ps hlen hbind hnd hkinds h hk hco hgen).mono fun g v ⟨d', e, r⟩ => e ▸ r
end Mine

namespace Mine
open PySem PySem.W PyProof.Rows PySem.Calls
set_option Elab.async false
set_option maxRecDepth 100000
set_option linter.unusedVariables false

theorem closure_of {env : Env} : ∀ (names : List (Str × NameKind)) (acc : List (Str × Addr)), (∀ y ∈ names, y.2 = .free → (env.cells.lookup y.1).isSome = true) →
    ∃ cl, (forIn names acc fun (x : Str × NameKind) (r : List (Str × Addr)) => (if (x.2 == .free) = true then do let a ← cellOf env x.1; pure (ForInStep.yield ((x.1, a) :: r)) else pure (ForInStep.yield r) : Sem _)) = pure cl ∧
      (∀ n, (n, NameKind.free) ∈ names → cl.lookup n = env.cells.lookup n ∨ ∃ c, env.cells.lookup n = some c ∧ cl.lookup n = some c) ∧ (∀ n, (n, NameKind.free) ∉ names → cl.lookup n = acc.lookup n)
  | [], acc, _ => ⟨acc, rfl, fun _ h => (nomatch h), fun _ _ => rfl⟩
  | (y, kd) :: r, acc, h => by
    by_cases hk : kd = .free
    · subst hk
      obtain ⟨c, hc⟩ := Option.isSome_iff_exists.mp (h (y, .free) (.head _) rfl)
      obtain ⟨cl, h1, h2, h3⟩ := closure_of r ((y, c) :: acc) fun z hz => h z (.tail _ hz)
      refine ⟨cl, ?_, fun n hn => ?_, fun n hn => ?_⟩
      · rw [List.forIn_cons]
        have : cellOf env y = pure c := by unfold cellOf; rw [hc]
        simp only [beq_self_eq_true, if_true, this, pure_bind]
        exact h1
      · by_cases hr : (n, NameKind.free) ∈ r
        · exact h2 n hr
        · rcases List.mem_cons.mp hn with e | e
          · cases e
            refine .inr ⟨c, hc, ?_⟩
            rw [h3 _ hr]; simp
          · exact absurd e hr
      · have hne : ¬ n = y := fun q => hn (q ▸ .head _)
        rw [h3 n fun q => hn (.tail _ q), List.lookup_cons]
        have : (n == y) = false := by simpa using hne
        rw [this]
    · obtain ⟨cl, h1, h2, h3⟩ := closure_of r acc fun z hz => h z (.tail _ hz)
      have hkb : (kd == NameKind.free) = false := by simpa using hk
      refine ⟨cl, ?_, fun n hn => ?_, fun n hn => h3 n fun q => hn (.tail _ q)⟩
      · rw [List.forIn_cons]
        simp only [hkb, Bool.false_eq_true, if_false, pure_bind]
        exact h1
      · rcases List.mem_cons.mp hn with e | e
        · cases e; exact absurd rfl hk
        · exact h2 n e
theorem closureFor_of {env : Env} {scope : Scope} (h : ∀ y ∈ scope.names, y.2 = .free → (env.cells.lookup y.1).isSome = true) : ∃ cl, closureFor scope env = pure cl ∧ ∀ n, (n, NameKind.free) ∈ scope.names → cl.lookup n = env.cells.lookup n := by
  obtain ⟨cl, h1, h2, _⟩ := closure_of (env := env) scope.names [] h
  refine ⟨cl, ?_, fun n hn => ?_⟩
  · unfold closureFor
    show (forIn scope.names [] _ >>= fun r => pure r) = _
    rw [show (forIn scope.names ([] : List (Str × Addr)) fun (x : Str × NameKind) (r : List (Str × Addr)) => (match x with | (name, kind) => do
        if (kind == .free) = true then do let a ← cellOf env name; pure (ForInStep.yield ((name, a) :: r)) else pure (ForInStep.yield r) : Sem _)) = pure cl from h1]
    rfl
  · rcases h2 n hn with e | ⟨c, e1, e2⟩
    · exact e
    · rw [e1, e2]

/-- the scope of a comprehension, as it is read within a def -/
def relab (sc : Scope) (p : Str × NameKind) : Str × NameKind := if (p.2 == .free && sc.names.lookup p.1 == some .cell) = true then (p.1, .cell) else p
def relabelS (scope sc : Scope) : Scope := { scope with names := scope.names.map (relab sc) }
theorem relabel_eq {env : Env} {scope sc : Scope} (o : EnvOk env sc) : relabel scope env = relabelS scope sc := by
  unfold relabel relabelS
  have e : env.kindOf = fun n => sc.names.lookup n := by funext n; exact o.kindOf rfl
  have e2 : (fun (x : Str × NameKind) => match x with | (n, k) => if (k == .free && env.scope.kind == .function && env.kindOf n == some .cell) = true then (n, NameKind.cell) else (n, k)) = relab sc := by
    funext x
    obtain ⟨n, k⟩ := x
    unfold relab
    rw [o.ek, e]
    simp
  rw [e2]
theorem lookup_relabelS {sc : Scope} {y : Str} {kd : NameKind} : ∀ {names : List (Str × NameKind)}, names.lookup y = some kd → (names.map (relab sc)).lookup y = some (if (kd == .free && sc.names.lookup y == some .cell) = true then .cell else kd)
  | [], h => by simp at h
  | (n, k) :: r, h => by
    have e1 : (relab sc (n, k)).1 = n := by unfold relab; split <;> rfl
    rw [List.map_cons]
    cases hr : relab sc (n, k) with | mk a b =>
    rw [hr] at e1
    have e1' : a = n := e1
    subst e1'
    rw [List.lookup_cons] at h ⊢
    cases hx : y == a with
    | true =>
      rw [hx] at h
      dsimp only at h ⊢
      cases h
      have := beq_iff_eq.mp hx
      subst this
      unfold relab at hr
      dsimp only at hr
      split at hr
      · rename_i q; rw [if_pos q]; cases hr; rfl
      · rename_i q; rw [if_neg q]; cases hr; rfl
    | false =>
      rw [hx] at h
      exact lookup_relabelS (sc := sc) (names := r) h

/-- a comprehension's tests -/
def Tests (X : Cx) (k : Nat) (sc : Scope) (σ : Sto) (ifs : List Expr) (b : Bool) : Prop := (ifs = [] ∧ b = true) ∨ ∃ c, ifs = [c] ∧ EvT X k sc σ c b

/-- what stands around a comprehension, as it is read within -/
structure Caps (sc scope : Scope) (τ cap : Sto) : Prop where
  sub : ∀ y d, cap.lookup y = some (.dat d) → τ.lookup y = some (.dat d) ∧ (y, NameKind.free) ∈ scope.names ∧ scope.names.lookup y = some .free ∧ sc.names.lookup y = some .cell
  noval : ∀ y u, cap.lookup y ≠ some (.val u)
  obj : ∀ y P mp, cap.lookup y = some (.obj P mp) → τ.lookup y = some (.obj P mp) ∧ (y, NameKind.free) ∈ scope.names ∧ scope.names.lookup y = some .free ∧ sc.names.lookup y = some .cell
structure CompOk (sc scope : Scope) : Prop where
  kind : scope.kind = .function
  nocell : ∀ y ∈ scope.names, y.2 ≠ .cell
  free : ∀ y ∈ scope.names, y.2 = .free → sc.names.lookup y.1 = some .cell
  names : ∀ y ∈ scope.names, y.2 = .local → scope.names.lookup y.1 = some .local
  frees : ∀ y ∈ scope.names, y.2 = .free → scope.names.lookup y.1 = some .free

section
variable {X : Cx} {k : Nat} {sc scope : Scope} {τ cap : Sto}

theorem compEnv_ok {env : Env} {cl : List (Str × Addr)} {C : Addr} (o : EnvOk env sc) (c : CompOk sc scope) (hcl : ∀ n, (n, NameKind.free) ∈ scope.names → cl.lookup n = env.cells.lookup n) : EnvOk (compEnvC scope cl C env) (relabelS scope sc) where
  scope := relabel_eq o
  kind := c.kind
  glob := o.glob
  bi := o.bi
  cells := fun x hx => by
    have : ∃ kd, (x, kd) ∈ scope.names ∧ (kd = .cell ∨ (kd = .free)) := by
      have hm := mem_of_lookup hx
      obtain ⟨⟨n, kd⟩, h1, h2⟩ := List.mem_map.mp hm
      unfold relab at h2
      dsimp only at h2
      split at h2
      · rename_i hq
        cases h2
        exact ⟨kd, h1, .inr (by simpa using (Bool.and_eq_true_iff.mp hq).1)⟩
      · cases h2
        exact ⟨_, h1, .inl rfl⟩
    obtain ⟨kd, h1, h2⟩ := this
    rcases h2 with rfl | rfl
    · exact absurd rfl (c.nocell _ h1)
    · show (cl.lookup x).isSome = true
      rw [hcl x h1]
      exact o.cells x (c.free _ h1 rfl)

/-- the turns of a comprehension; bd tells what its names hold of an item -/
structure EltsG (X : Cx) (k : Nat) (sc scope : Scope) (cap : Sto) (bd : Dat → Sto) (ifs : List Expr) (elt : Expr) (ds : List Dat) (fz : List (Option Dat)) : Prop where
  len : fz.length = ds.length
  some_ : ∀ (i : Nat) (d y : Dat), ds[i]? = some d → fz[i]? = some (some y) → Tests X k (relabelS scope sc) (bd d ++ cap) ifs true ∧ Ev X k (relabelS scope sc) (bd d ++ cap) elt y
  none_ : ∀ (i : Nat) (d : Dat), ds[i]? = some d → fz[i]? = some (none : Option Dat) → Tests X k (relabelS scope sc) (bd d ++ cap) ifs false
abbrev Elts (X : Cx) (k : Nat) (sc scope : Scope) (cap : Sto) (x : Str) (ifs : List Expr) (elt : Expr) (ds : List Dat) (fz : List (Option Dat)) : Prop := EltsG X k sc scope cap (fun d => [(x, .dat d)]) ifs elt ds fz

/-- the binding of a comprehension's names -/
def AsgOk (X : Cx) (k : Nat) (sc scope : Scope) (τ cap : Sto) (tg : Expr) (bd : Dat → Sto) (ds : List Dat) : Prop :=
  ∀ (A : Around) (E : Value → Shared → Prop) (env : Env) (cl : List (Str × Addr)) (C : Addr) (g g' : Heap) (s s' : Shared) (v : Value) (d : Dat) (m : Str → Option Value) (Q : Unit → Shared → Prop), Room A k → EnvOk env sc → CompOk sc scope → Caps sc scope τ cap →
    (∀ n, (n, NameKind.free) ∈ scope.names → cl.lookup n = env.cells.lookup n) → StoIn τ env g s → Step g s.heap g' s'.heap → s'.heap.Ns C m → g'.get? C = none → s.heap.get? C = none → Rep g' v d → d ∈ ds →
    (∀ m2 h2 tk, (∀ b o, b ≠ C → s'.heap.get? b = some o → h2.get? b = some o) → h2.Ns C m2 → StoIn (bd d ++ cap) (compEnvC scope cl C env) g' { s' with heap := h2, toks := tk } → Q () { s' with heap := h2, toks := tk }) →
    wpAny X.M A (PySem.assign tg (compEnvC scope cl C env) v) Q E s'
theorem comp_stoG {env : Env} {cl : List (Str × Addr)} {C : Addr} {g g' : Heap} {s s' : Shared} {bs : Sto} {m : Str → Option Value} (o : EnvOk env sc) (c : CompOk sc scope) (cp : Caps sc scope τ cap) (hcl : ∀ n, (n, NameKind.free) ∈ scope.names → cl.lookup n = env.cells.lookup n)
    (hb : ∀ y lv, bs.lookup y = some lv → ∃ v d, lv = .dat d ∧ scope.names.lookup y = some .local ∧ m y = some v ∧ Rep g' v d) (q : StoIn τ env g s) (t : Step g s.heap g' s'.heap) (ns : s'.heap.Ns C m) : StoIn (bs ++ cap) (compEnvC scope cl C env) g' s' where
  sub := t.gh
  var := fun y e he => by
    rw [List.lookup_append] at he
    cases hy : bs.lookup y with
    | some lv =>
      rw [hy] at he
      obtain ⟨v, d, e1, e2, e3, e4⟩ := hb y lv hy
      subst e1
      simp at he
      subst he
      refine ⟨v, .inl ⟨?_, m, ns, e3⟩, e4⟩
      show (relabel scope env).names.lookup y = _
      rw [relabel_eq o]
      exact (lookup_relabelS (sc := sc) e2).trans (by rfl)
    | none =>
      rw [hy] at he
      simp at he
      obtain ⟨h1, h2, h3, h4⟩ := cp.sub y e he
      obtain ⟨u, hu, hr⟩ := q.var y e h1
      refine ⟨u, .inr ?_, hr.sub t.gg⟩
      rcases hu with ⟨a, _⟩ | ⟨a, ad, hc, hcell⟩
      · rw [o.kindOf h4] at a; cases a
      · refine ⟨.inl ?_, ad, ?_, hcell.keeps t.hh⟩
        · show (relabel scope env).names.lookup y = _
          rw [relabel_eq o]
          refine (lookup_relabelS (sc := sc) h3).trans ?_
          rw [h4]; rfl
        · show cl.lookup y = some ad
          rw [hcl y h2]; exact hc
  val := fun y u he => by
    rw [List.lookup_append] at he
    cases hy : bs.lookup y with
    | some lv =>
      rw [hy] at he
      obtain ⟨v, d, e1, _⟩ := hb y lv hy
      subst e1
      simp at he
    | none =>
      rw [hy] at he
      simp at he
      exact absurd he (cp.noval y u)
  obj := fun y P mp he => by
    rw [List.lookup_append] at he
    cases hy : bs.lookup y with
    | some lv =>
      rw [hy] at he
      obtain ⟨v, d, e1, _⟩ := hb y lv hy
      subst e1
      simp at he
    | none =>
      rw [hy] at he
      simp at he
      obtain ⟨h1, h2, h3, h4⟩ := cp.obj y P mp he
      obtain ⟨oa, ob, hu, ho, hp⟩ := q.obj y P mp h1
      refine ⟨oa, ob, .inr ?_, t.hh _ _ ho, mp _ _ _ _ t.gg hp⟩
      rcases hu with ⟨a, _⟩ | ⟨a, ad, hc, hcell⟩
      · rw [o.kindOf h4] at a; cases a
      · refine ⟨.inl ?_, ad, ?_, hcell.keeps t.hh⟩
        · show (relabel scope env).names.lookup y = _
          rw [relabel_eq o]
          refine (lookup_relabelS (sc := sc) h3).trans ?_
          rw [h4]; rfl
        · show cl.lookup y = some ad
          rw [hcl y h2]; exact hc

theorem asg_name {x : Str} {px : Pos} {ds : List Dat} (hx : scope.names.lookup x = some .local) : AsgOk X k sc scope τ cap (.Name x px) (fun d => [(x, .dat d)]) ds := by
  intro A E env cl C g g' s s' v d m Q r o c cp hcl q t ns gC sC hv hd h
  have oc : EnvOk (compEnvC scope cl C env) (relabelS scope sc) := compEnv_ok o c hcl
  refine wpAny_assign_Name (wpAny_storeName_local (m := m) (oc.kindOf ((lookup_relabelS (sc := sc) hx).trans (by rfl))) ns (fun h₂ hn₂ hs₂ => ?_) oc.plain)
  have up2 : ∀ b ob, b ≠ C → s'.heap.get? b = some ob → h₂.get? b = some ob := fun b ob hb e => hs₂.extBut b ob hb e
  have x3 : Step g s.heap g' h₂ := ⟨t.gg, fun b ob e => up2 b ob (fun z => by rw [z, sC] at e; cases e) (t.hh _ _ e), fun b ob e => up2 b ob (fun z => by rw [z, gC] at e; cases e) (t.gh _ _ e), t.new⟩
  refine h _ h₂ _ up2 hn₂ (comp_stoG (s' := { s' with heap := h₂, toks := s'.toks + 1 }) (m := fun y => if y = x then some v else m y) o c cp hcl (fun y lv hy => ?_) q x3 hn₂)
  rw [List.lookup_cons] at hy
  by_cases e : y = x
  · subst e
    simp at hy
    exact ⟨v, d, hy.symm, hx, by simp, hv⟩
  · have : (y == x) = false := by simpa using e
    rw [this] at hy
    simp at hy
/-- a comprehension's loop, whatever its target -/
theorem compLoop_any {prog : Program} {w : World} {A : Around} {R : Result → Shared → Prop} {s : Shared} {elt target iter : Expr} {ifs : List Expr} {scope : Scope} {pos : Pos} {it acc : Value} {env : Env} (I : Nat → Shared → Prop)
    (turn : ∀ n s, I n s → wpAny (model prog w) A (pyNext it) (fun r s₁ => match r with
      | none => R (.ok .next) s₁
      | some v => wpAny (model prog w) A (letOwnedTupleGo target it v) (fun _ s₁' => wpAny (model prog w) A (PySem.assign target env v) (fun _ s₂ =>
          wpAny (model prog w) A (forIn ifs true fun c r => if r = true then do let ok ← isTrue c env (eval c env); pure (ForInStep.yield ok) else pure (ForInStep.yield r)) (fun ok s₃ =>
            if ok = true then wpAny (model prog w) A (eval elt env) (fun x s₄ =>
              wpAny (model prog w) A (call (.builtin "list.append") [acc, x]) (fun _ s₅ => ∃ m, m < n ∧ I m s₅) (notedBy (model prog w) A env fun e s' => R (.error e) s') s₄) (notedBy (model prog w) A env fun e s' => R (.error e) s') s₃
            else ∃ m, m < n ∧ I m s₃) (notedBy (model prog w) A env fun e s' => R (.error e) s') s₂) (notedBy (model prog w) A env fun e s' => R (.error e) s') s₁') (notedBy (model prog w) A env fun e s' => R (.error e) s') s₁) (notedBy (model prog w) A env fun e s' => R (.error e) s') s)
    (n : Nat) (h : I n s) : codeAny (model prog w) A (.compLoop (.ListComp elt [⟨target, iter, ifs, 0⟩] scope pos) 0 it acc env) R s := by
  refine codeAny_loop rfl I (fun n s hI => ?_) n h
  show wpAny _ A ((compTurn (.ListComp elt [⟨target, iter, ifs, 0⟩] scope pos) 0 it acc env).onRaise (fun x => do noteFrame x env; theTreesLotGoes x)) _ _ s
  refine wpAny_noted ?_
  rw [compTurn_list]
  refine wpAny_bind (wpAny_standAt (wpAny_bind (wpAny_mono (turn n s hI) (fun r s₁ h₁ => ?_) fun _ _ h' => h')))
  cases r with
  | none => exact wpAny_pure h₁
  | some v =>
    refine wpAny_bind (wpAny_mono h₁ (fun _ s₁' h₁' => ?_) fun _ _ h' => h')
    refine wpAny_bind (wpAny_mono h₁' (fun _ s₂ h₂ => wpAny_bind (wpAny_mono h₂ (fun ok s₃ h₃ => ?_) fun _ _ h' => h')) fun _ _ h' => h')
    cases ok with
    | false => exact wpAny_pure ⟨rfl, h₃⟩
    | true => exact wpAny_bind (wpAny_bind (wpAny_mono h₃ (fun x s₄ h₄ => wpAny_bind (wpAny_mono h₄ (fun _ s₅ h₅ => wpAny_pure (wpAny_pure ⟨rfl, h₅⟩)) fun _ _ h' => h')) fun _ _ h' => h'))

theorem wp_tests {A : Around} {env : Env} {g : Heap} {s : Shared} {E : Value → Shared → Prop} {σ : Sto} {ifs : List Expr} {b : Bool} (h : Tests X k sc σ ifs b) (r : Room A k) (o : EnvOk env sc) (bs : Sub X.h0 g) (q : StoIn σ env g s) :
    wpAny X.M A (forIn ifs true fun c r => if r = true then do let ok ← isTrue c env (eval c env); pure (ForInStep.yield ok) else pure (ForInStep.yield r)) (fun c s' => c = b ∧ Keeps s s' ∧ ∃ g', Step g s.heap g' s'.heap) E s := by
  rcases h with ⟨rfl, rfl⟩ | ⟨c, rfl, h⟩
  · exact wpAny_tests_nil ⟨rfl, kp_refl, g, .rfl q.sub⟩
  · exact wpAny_tests_one (h A env g s E r o bs q)

theorem comp_core {A : Around} {env : Env} {g1 : Heap} {s1 : Shared} {E : Value → Shared → Prop} {tg : Expr} {bd : Dat → Sto} {pos : Pos} {elt iter : Expr} {ifs : List Expr} {cl : List (Str × Addr)} {xv : Value} {ds : List Dat} {fz : List (Option Dat)} {RR : Value → Addr → Result → Shared → Prop}
    (r : Room A k) (o : EnvOk env sc) (c : CompOk sc scope) (cp : Caps sc scope τ cap) (hcl : ∀ n, (n, NameKind.free) ∈ scope.names → cl.lookup n = env.cells.lookup n) (asg : AsgOk X k sc scope τ cap tg bd ds)
    (bs : Sub X.h0 g1) (q : StoIn τ env g1 s1) (hit : IterOf X k g1 s1 xv ds) (el : EltsG X k sc scope cap bd ifs elt ds fz) (hz : ds.length ≤ sizeLine)
    (hRR : ∀ D C s' g' m' ws n, Keeps s1 s' → Step g1 s1.heap g' s'.heap → s1.heap.get? D = none → s1.heap.get? C = none → D ≠ C → s'.heap.Ns C m' → s'.heap.get? D = some { cls := .type "list", data := .seq (List.toArray ws) n } → RepAll g' ws (fz.filterMap id) →
      g'.get? D = none → g'.get? C = none → RR (.ref D) C (.ok .next) s') :
    wpAny X.M A (pyIter xv) (fun it s₂ => wpAny X.M A (newList []) (fun acc s₃ => wpAny X.M A (newFunctionEnv scope env.globals cl [] env.qual none .none (some env)) (fun cenv s₄ =>
      codeAny X.M A (.compStart (.ListComp elt [⟨tg, iter, ifs, 0⟩] scope pos) 0 it acc { cenv with scope := relabel scope env }) (RR acc cenv.locals) s₄) E s₃) E s₂) E s1 := by
  refine wpAny_mono (hit A E r) (fun it s2 ⟨k2, I, fp, wr, P, St, e, W⟩ => ?_) fun _ _ y => y
  subst e
  have sub12 := kp_sub k2
  refine wpAny_newObj_type (wpAny_newFunctionEnv c.nocell (by intro y hy; simp at hy) (fun h₁ hns₁ hsb₁ => ?_) c.kind)
  dsimp only at hns₁ hsb₁ ⊢
  generalize hH2 : s2.heap.push { cls := .type "list", dict := none, data := .seq ([] : List Value).toArray } = H2 at hns₁ hsb₁ ⊢
  have hC : H2.objs.size = s2.heap.objs.size + 1 := by rw [← hH2, Heap.size_push]
  generalize hD' : s2.heap.objs.size = D at *
  generalize hC' : H2.objs.size = C at *
  have hDC : D ≠ C := by omega
  have below : ∀ b, b < D → b ≠ C ∧ b ≠ D := fun b hb => ⟨by rw [hC]; exact Nat.ne_of_lt (Nat.lt_succ_of_lt hb), Nat.ne_of_lt hb⟩
  have hDf : D ∉ fp := fun hm => Nat.lt_irrefl _ (hD' ▸ W.low _ hm)
  have hCf : C ∉ fp := fun hm => by have := W.low _ hm; rw [hD', hC] at this; exact Nat.lt_irrefl _ (Nat.lt_of_succ_lt this)
  have old : Sub s2.heap h₁ := fun b ob e => hsb₁.extBut b ob (below b (hD' ▸ Heap.lt_size e)).1 (Heap.get?_push_of_some _ (hH2 ▸ Heap.get?_push_of_some _ e))
  have hacc : h₁.get? D = some { cls := .type "list", data := .seq (List.toArray []) 0 } := hsb₁.extBut _ _ hDC (Heap.get?_push_of_some _ (hH2 ▸ hD' ▸ Heap.get?_push_size _ rfl))
  have fresh2 : ∀ a, D ≤ a → s2.heap.get? a = none := fun a ha => by
    cases e : s2.heap.get? a with
    | none => rfl
    | some o' => exact absurd (Heap.lt_size e) (Nat.not_lt.mpr (hD' ▸ ha))
  have fresh1 : ∀ a, D ≤ a → s1.heap.get? a = none := fun a ha => by
    cases e : s1.heap.get? a with
    | none => rfl
    | some o' => have := sub12 _ _ e; rw [fresh2 a ha] at this; cases this
  have hst₁ : St 0 h₁ := (W.walks A r.hh).frame _ _ _ W.start fun b _ ob e => old b ob e
  have oc : EnvOk (compEnvC scope cl C env) (relabelS scope sc) := compEnv_ok o c hcl
  have none1 : ∀ {g' : Heap}, (∀ b ob, g'.get? b = some ob → g1.get? b = some ob ∨ s1.heap.get? b = none) → True := fun _ => trivial
  have g1none : ∀ a, s1.heap.get? a = none → g1.get? a = none := fun a ha => by
    cases e : g1.get? a with
    | none => rfl
    | some o' => have := q.sub _ _ e; rw [ha] at this; cases this
  obtain ⟨h2', t2, e2, kp2⟩ := k2
  have loop : ∀ s₃ : Shared, (∃ tk, s₃ = { s2 with heap := h₁, toks := tk }) →
      codeAny X.M A (.compLoop (.ListComp elt [⟨tg, iter, ifs, 0⟩] scope pos) 0 (.ref I) (.ref D) (compEnvC scope cl C env)) (RR (.ref D) C) s₃ := by
    rintro s₃ ⟨tk₃, rfl⟩
    refine compLoop_any (fun n s' => ∃ i ws ep g' m', n = ds.length - i ∧ i ≤ ds.length ∧ ws.length ≤ i ∧ Keeps s1 s' ∧ Step g1 s1.heap g' s'.heap ∧ s'.heap.Ns C m' ∧ s'.heap.get? D = some { cls := .type "list", data := .seq (List.toArray ws) ep } ∧
      RepAll g' ws ((fz.take i).filterMap id) ∧ g'.get? D = none ∧ g'.get? C = none ∧ (∀ b ∈ wr, g'.get? b = none) ∧ St i s'.heap) ?_ ds.length
      ⟨0, [], 0, g1, _, rfl, Nat.zero_le _, Nat.le_refl _, ?_, ⟨.rfl, sub12.trans old, q.sub.trans (sub12.trans old), fun _ _ e => .inl e⟩, hns₁, hacc, .nil, g1none D (fresh1 D (Nat.le_refl _)), g1none C (fresh1 C (by omega)), fun b hb => g1none b (W.fresh b hb), hst₁⟩
    · rintro n s' ⟨i, ws, ep, g', m', rfl, hi, hwl, ks, x1, ns, hD1, hr, gD, gC, gw, hst⟩
      have hCw : C ∉ wr := fun h => hCf ((W.walks A r.hh).sub _ h)
      have hDw : D ∉ wr := fun h => hDf ((W.walks A r.hh).sub _ h)
      rcases Nat.lt_or_ge i ds.length with hlt | hge
      · refine (W.walks A r.hh).item i s' _ _ hlt hst fun v h' tk hP hst' hk' => ?_
        obtain ⟨d, hd1, hrv⟩ := W.item i v hP
        have x2 : Step g1 s1.heap g' h' := ⟨x1.gg, fun b ob e => hk' b ob (fun z => by rw [W.fresh b z] at e; cases e) (x1.hh _ _ e), fun b ob e => hk' b ob (fun z => by rw [gw b z] at e; cases e) (x1.gh _ _ e), x1.new⟩
        refine W.own (i + 1) A _ tg v { s' with heap := h', toks := tk } _ hst' ?_
        have C1 : s1.heap.get? C = none := fresh1 C (by omega)
        refine asg A _ env cl C g1 g' s1 { s' with heap := h', toks := tk } v d m' _ r o c cp hcl q x2 (ns.at' fun ob e => hk' _ ob hCw e) gC C1 (hrv.sub x1.gg) (List.mem_of_getElem? hd1) fun m₂ h₂ tk₂ up2 hn₂ q3 => ?_
        have x3 : Step g1 s1.heap g' h₂ := ⟨x2.gg, fun b ob e => up2 b ob (fun z => by rw [z, C1] at e; cases e) (x2.hh _ _ e), fun b ob e => up2 b ob (fun z => by rw [z, gC] at e; cases e) (x2.gh _ _ e), x2.new⟩
        have ks3 : Keeps s1 { s' with heap := h₂, toks := tk₂ } := by
          obtain ⟨ha, ta, rfl, _⟩ := ks
          exact ⟨h₂, _, rfl, x3.hh⟩
        have hst₂ : St (i + 1) h₂ := (W.walks A r.hh).frame _ _ _ hst' fun b hb ob e => up2 b ob (fun z => hCf (z ▸ hb)) e
        have hD2 : h₂.get? D = some { cls := .type "list", data := .seq (List.toArray ws) ep } := up2 _ _ hDC (hk' _ _ hDw hD1)
        have hfi : i < fz.length := by rw [el.len]; exact hlt
        cases hfz : fz[i]? with
        | none => rw [List.getElem?_eq_none_iff] at hfz; omega
        | some f =>
          have htake : (fz.take (i + 1)).filterMap id = (fz.take i).filterMap id ++ f.toList := by
            rw [List.take_add_one, hfz, List.filterMap_append]
            cases f <;> simp
          cases f with
          | none =>
            refine wp_seq (wp_tests (el.none_ i d hd1 hfz) r oc (bs.trans x1.gg) q3) fun ok s4 ⟨e, k4, g4, x4⟩ => ?_
            subst e
            simp only [Bool.false_eq_true, if_false]
            refine ⟨ds.length - (i + 1), by omega, i + 1, ws, ep, g4, _, rfl, hlt, by omega, kp_trans ks3 k4, x3.trans x4, hn₂.keeps (kp_sub k4), kp_sub k4 _ _ hD2, ?_, x4.out gD (by rw [hD2]; rfl), x4.out gC ?_, fun b hb => x4.out (gw b hb) ?_, ?_⟩
            · rw [htake]; simpa using hr.sub x4.gg
            · obtain ⟨ob, _, _, ho, _⟩ := hn₂; have ho' : h₂.get? C = some ob := ho; show (h₂.get? C).isSome = true; rw [ho']; rfl
            · exact W.live _ _ hst₂ b hb
            · exact (W.walks A r.hh).frame _ _ _ hst₂ fun b _ ob e => kp_sub k4 _ _ e
          | some y =>
            obtain ⟨t1, t2⟩ := el.some_ i d y hd1 hfz
            refine wp_seq (wp_tests t1 r oc (bs.trans x1.gg) q3) fun ok s4 ⟨e, k4, g4, x4⟩ => ?_
            subst e
            simp only [if_true]
            refine wp_ev (t2 A _ g4 s4 _ r oc ((bs.trans x1.gg).trans x4.gg) (q3.step x4)) fun u g5 s5 k5 x5 r5 => ?_
            have x45 := x4.trans x5
            have hD5 : s5.heap.get? D = some { cls := .type "list", data := .seq (List.toArray ws) ep } := x45.hh _ _ hD2
            refine wpAny_list_append_plain (items := ws.toArray) ⟨ep, hD5⟩ (fun h₆ hl₆ hs₆ => ?_) (by rw [List.size_toArray]; omega)
            have up6 : ∀ b ob, b ≠ D → s5.heap.get? b = some ob → h₆.get? b = some ob := fun b ob hb e => hs₆.extBut b ob hb e
            have gD5 : g5.get? D = none := x45.out gD (by rw [hD2]; rfl)
            have D1 : s1.heap.get? D = none := fresh1 D (Nat.le_refl _)
            have x6 : Step g1 s1.heap g5 h₆ := ⟨(x3.trans x45).gg, fun b ob e => up6 b ob (fun z => by rw [z, D1] at e; cases e) ((x3.trans x45).hh _ _ e), fun b ob e => up6 b ob (fun z => by rw [z, gD5] at e; cases e) (x45.gh _ _ e), (x3.trans x45).new⟩
            obtain ⟨ep', hl₆'⟩ := hl₆
            refine ⟨ds.length - (i + 1), by omega, i + 1, ws ++ [u], ep', g5, _, rfl, hlt, by rw [List.length_append, List.length_singleton]; omega, ?_, x6, ((hn₂.keeps (kp_sub k4)).keeps (kp_sub k5)).at' fun ob e => up6 _ _ (Ne.symm hDC) e, by simpa using hl₆', ?_, gD5, x45.out gC ?_, fun b hb => x45.out (gw b hb) ?_, ?_⟩
            · obtain ⟨ha, ta, e5, _⟩ := kp_trans ks3 (kp_trans k4 k5)
              exact ⟨h₆, ta, by rw [e5], x6.hh⟩
            · rw [htake]
              exact (RepAll.one r5).append (hr.sub x45.gg)
            · obtain ⟨ob, _, _, ho, _⟩ := hn₂; have ho' : h₂.get? C = some ob := ho; show (h₂.get? C).isSome = true; rw [ho']; rfl
            · exact W.live _ _ hst₂ b hb
            · exact (W.walks A r.hh).frame _ _ _ hst₂ fun b hb ob e => up6 b ob (fun z => hDf (z ▸ hb)) (x45.hh _ _ e)
      · have hin : i = ds.length := by omega
        subst hin
        refine (W.walks A r.hh).done s' _ _ hst fun h' tk hk' => ?_
        have hfull : (fz.take ds.length).filterMap id = fz.filterMap id := by rw [← el.len, List.take_length]
        rw [hfull] at hr
        refine hRR D C _ g' m' ws ep ?_ ⟨x1.gg, fun b ob e => hk' b ob (fun z => by rw [W.fresh b z] at e; cases e) (x1.hh _ _ e), fun b ob e => hk' b ob (fun z => by rw [gw b z] at e; cases e) (x1.gh _ _ e), x1.new⟩ (fresh1 D (Nat.le_refl _)) (fresh1 C (by omega)) hDC (ns.at' fun ob e => hk' _ ob hCw e) (hk' _ _ hDw hD1) hr gD gC
        obtain ⟨ha, ta, rfl, _⟩ := ks
        exact ⟨h', tk, rfl, fun b ob e => hk' b ob (fun z => by rw [W.fresh b z] at e; cases e) (x1.hh _ _ e)⟩
    · subst e2
      exact ⟨h₁, tk₃, rfl, fun b ob e => old _ _ (kp2 b ob e)⟩
  exact codeAny_compStart_list (loop _ ⟨_, rfl⟩) ((W.walks A r.hh).self 0 _ _ _ hst₁ (loop _ ⟨_, rfl⟩))
end
end Mine

namespace Mine
open PySem PySem.W PyProof.Rows PySem.Calls
set_option Elab.async false
set_option maxRecDepth 100000
set_option linter.unusedVariables false
section
variable {X : Cx} {k : Nat} {sc scope : Scope} {τ cap : Sto}

theorem closure_ok {env : Env} (o : EnvOk env sc) (c : CompOk sc scope) : ∃ cl, closureFor scope env = pure cl ∧ ∀ n, (n, NameKind.free) ∈ scope.names → cl.lookup n = env.cells.lookup n :=
  closureFor_of fun y hy hf => o.cells _ (c.free y hy hf)

theorem plain_rep {g h : Heap} {D : Addr} {ws : List Value} {ds : List Dat} {n : Nat} (e : h.get? D = some { cls := .type "list", data := .seq (List.toArray ws) n }) (r : RepAll g ws ds) (k : Sub g h) : Rep (withObj g h D) (.ref D) (.list ds) :=
  .list ⟨n, withObj_self e⟩ (r.sub (withObj_sub k))
theorem step_with {g1 h1 g h : Heap} {D : Addr} (x : Step g1 h1 g h) (d : h1.get? D = none) : Step g1 h1 (withObj g h D) h :=
  ⟨x.gg.trans (withObj_sub x.gh), x.hh, withObj_in, fun b o e => by
    by_cases q : b = D
    · subst q; exact .inr d
    · cases z : g.get? b with
      | some o' =>
        have h1 := withObj_sub (a := D) x.gh _ _ z
        rw [e] at h1; cases h1
        exact x.new b o z
      | none => rw [withObj_other z q] at e; cases e⟩
theorem step_but {g1 h1 g h h' : Heap} {C : Addr} (x : Step g1 h1 g h) (c : h1.get? C = none) (gc : g.get? C = none) (s : Heap.SameBut C h h') : Step g1 h1 g h' :=
  ⟨x.gg, fun b o e => s.extBut b o (fun z => by rw [z, c] at e; cases e) (x.hh b o e), fun b o e => s.extBut b o (fun z => by rw [z, gc] at e; cases e) (x.gh b o e), x.new⟩

theorem Ev.compG {tg : Expr} {bd : Dat → Sto} {pos : Pos} {elt iter : Expr} {ifs : List Expr} {ds : List Dat} {fz : List (Option Dat)} (hit : Its X k sc τ iter ds) (cap : Sto) (c : CompOk sc scope) (cp : Caps sc scope τ cap) (asg : AsgOk X k sc scope τ cap tg bd ds)
    (el : EltsG X k sc scope cap bd ifs elt ds fz) (hz : ds.length ≤ sizeLine) : Ev X k sc τ (.ListComp elt [⟨tg, iter, ifs, 0⟩] scope pos) (.list (fz.filterMap id)) := by
  intro A env g s E r o b q
  obtain ⟨cl, hcl, hcl2⟩ := closure_ok o c
  rw [eval_ListComp]
  refine wpAny_comprehension_free (use := none) rfl (hit.2 env) hcl c.kind c.names (wp_ev (hit.1 A env g s E r o b q) fun xv g1 s1 k1 x1 p1 => ?_)
  refine comp_core (RR := fun acc C => compPost X.M A E none (Post g s fun g v => Rep g v (.list (fz.filterMap id))) acc C) r o c cp hcl2 asg (b.trans x1.gg) (q.step x1) (p1 s1 x1.gh) el hz ?_
  intro D C s' g' m' ws n k2 x2 hD hC hDC ns eD rp gD gC
  refine ⟨m', ns, fun h' hs => ?_⟩
  have eD' : h'.get? D = some { cls := .type "list", data := .seq (List.toArray ws) n } := hs.extBut _ _ hDC eD
  have x3 : Step g1 s1.heap g' h' := step_but x2 hC gC hs
  have x4 := step_with x3 hD
  refine ⟨?_, withObj g' h' D, x1.trans x4, plain_rep eD' rp x3.gh⟩
  obtain ⟨ha, ta, rfl, _⟩ := kp_trans k1 k2
  exact ⟨h', ta, rfl, (x1.trans x4).hh⟩

theorem Ev.comp {x : Str} {px pos : Pos} {elt iter : Expr} {ifs : List Expr} {ds : List Dat} {fz : List (Option Dat)} (hit : Its X k sc τ iter ds) (cap : Sto) (c : CompOk sc scope) (cp : Caps sc scope τ cap) (hx : scope.names.lookup x = some .local)
    (el : Elts X k sc scope cap x ifs elt ds fz) (hz : ds.length ≤ sizeLine) : Ev X k sc τ (.ListComp elt [⟨.Name x px, iter, ifs, 0⟩] scope pos) (.list (fz.filterMap id)) := Ev.compG hit cap c cp (asg_name hx) el hz

end
end Mine

namespace Mine
open PySem PySem.W PyProof.Rows PySem.Calls
set_option Elab.async false
set_option maxRecDepth 100000
set_option linter.unusedVariables false

def chars (x : Str) : List Dat := x.cps.toList.map fun c => .str ⟨#[c]⟩

section
variable {X : Cx} {k : Nat} {sc : Scope} {τ : Sto} {s₀ s : Shared} {g₀ g : Heap} {env : Env} {H : List (Addr × Obj)} {m cm : Str → Option Value}

/-- a, b = (u, v) out of a tuple -/
theorem wp_assign2 {A : Around} {E : Value → Shared → Prop} {a b : Str} {pa pb pos : Pos} {n : Nat} {T : Addr} {u v : Value} {d e : Dat} {Q : Unit → Shared → Prop} (F : FS s₀ g₀ env H τ g m cm s) (o : EnvOk env sc) (r : Room A k) (ht : s.heap.IsTuple T #[u, v])
    (hu : Rep g u d) (hv : Rep g v e) (ha : canStore sc a = true) (hb : canStore sc b = true) (h : ∀ m' cm' s', FS s₀ g₀ env H (upd b (.dat e) (upd a (.dat d) τ)) g m' cm' s' → Q () s') :
    wpAny X.M A (PySem.assign (.Tuple [.Name a pa, .Name b pb] n pos) env (.ref T)) Q E s := by
  refine wpAny_assign_Tuple r.hh ht (by rfl) (by rfl) fun h' hx => ?_
  have k1 : Keeps s { s with heap := h' } := ⟨h', s.toks, rfl, fun b ob e => hx b ob (Nat.ne_of_lt (Heap.lt_size e)) e⟩
  have F1 := F.ev k1 ⟨.rfl, kp_sub k1, F.st.gh.trans (kp_sub k1), fun _ _ e => .inl e⟩
  show wpAny X.M A (assignInOrder [PySem.assign (.Name a pa) env, PySem.assign (.Name b pb) env] [u, v]) Q E _
  refine wpAny_assignInOrder_more (wpAny_assign_Name (wp_store (lv := .dat d) F1 o ha (o.cells a) hu trivial fun m2 cm2 s2 F2 => ?_))
  refine wpAny_assignInOrder_more (wpAny_assign_Name (wp_store (lv := .dat e) F2 o hb (o.cells b) hv trivial fun m3 cm3 s3 F3 => ?_))
  exact wpAny_assignInOrder_none (h m3 cm3 s3 F3)

/-- what enumerate makes of a value -/
structure Enum (X : Cx) (g : Heap) (s₂ : Shared) (old : Heap) (e it : Addr) (ds : List Dat) (fp : List Addr) (P : Nat → Value → Prop) (St : Nat → Heap → Prop) : Prop where
  draws : ∀ A', A'.handled = none → Draws X.prog X.w A' it fp ds.length P St
  start : St 0 s₂.heap
  enum : IsEnum s₂.heap e it 0 .none
  hei : e ≠ it
  hef : e ∉ fp
  hif : it ∈ fp
  fe : old.get? e = none
  fi : old.get? it = none
  foot : ∀ b ∈ fp, b = it ∨ (g.get? b).isSome
  item : ∀ i v, P i v → ∃ d, ds[i]? = some d ∧ Rep g v d
def EnumOf (X : Cx) (k : Nat) (g : Heap) (s : Shared) (xv : Value) (ds : List Dat) : Prop :=
  ∀ (A : Around) (E : Value → Shared → Prop), Room A k → wpAny X.M A (call (.type "enumerate") [xv]) (fun v s₂ => Keeps s s₂ ∧ ∃ e it fp P St, v = .ref e ∧ Enum X g s₂ s.heap e it ds fp P St) E s

theorem enumOf_list {a : Addr} {vs : List Value} {ds : List Dat} (kk : Sub g s.heap) (il : g.PlainList a vs.toArray) (r : RepAll g vs ds) : EnumOf X k g s (.ref a) ds := by
  intro A E rm
  have il' := isList_sub kk il
  have hlt : a < s.heap.objs.size := let ⟨_, e, _⟩ := il'; Heap.lt_size e
  have hn : vs.toArray.size = ds.length := by rw [List.size_toArray, r.length]
  refine call_enumerate_list il' fun h' he hit hsz hk => ⟨⟨h', s.toks, rfl, hk⟩, s.heap.objs.size + 1, s.heap.objs.size, [s.heap.objs.size, a], (fun i v => vs.toArray[i]? = some v), (fun i h => h.IsListIter s.heap.objs.size a i ∧ h.IsList a vs.toArray), rfl, ?_⟩
  have big : s.heap.get? (s.heap.objs.size + 1) = none := by
    cases z : s.heap.get? (s.heap.objs.size + 1) with
    | none => rfl
    | some o' => exact absurd (Heap.lt_size z) (Nat.not_lt.mpr (Nat.le_succ _))
  exact {
    draws := fun A' hA => hn ▸ Draws.list hA s.heap.objs.size a (Nat.ne_of_lt hlt) vs.toArray
    start := ⟨hit, let ⟨o, ho, rr⟩ := il'; ⟨o, hk _ _ ho, rr⟩⟩
    enum := he
    hei := by intro q; exact absurd q (Nat.succ_ne_self _)
    hef := fun q => by
      rcases List.mem_cons.mp q with q | q
      · exact absurd q (Nat.succ_ne_self _)
      · have := List.mem_singleton.mp q; rw [← this] at hlt; exact absurd hlt (Nat.not_lt.mpr (Nat.le_succ _))
    hif := by simp
    fe := big
    fi := fresh_size
    foot := fun b hb => by
      rcases List.mem_cons.mp hb with q | q
      · exact .inl q
      · rw [List.mem_singleton.mp q]
        obtain ⟨n, ho⟩ := il
        exact .inr (by rw [ho]; rfl)
    item := fun i v hv => r.get' (by simpa using hv) }
/-- for i, c in enumerate(e) -/
theorem Ex.forEnum {xi xc f : Str} {pi pc pt pf pcall pos : Pos} {nt : Nat} {e : Expr} {body : List Stmt} {ds : List Dat} {R : Out → Prop} (hf : EvP X k sc τ (.Name f pf) fun _ u => u = .type "enumerate") {d0 : Dat} (he : Ev X k sc τ e d0)
    (hen : ∀ g s v, Sub g s.heap → Rep g v d0 → EnumOf X k g s v ds) (Inv : Nat → Sto → Prop) (h0 : Inv 0 τ)
    (turn : ∀ i τ' d, ds[i]? = some d → Inv i τ' → Ex X k sc (upd xc (.dat d) (upd xi (.dat (.int i)) τ')) (execs body) (Turn (Inv (i + 1)) R)) (done : ∀ τ', Inv ds.length τ' → R (.next τ'))
    (hx : canStore sc xi = true := by rfl) (hx2 : canStore sc xc = true := by rfl) (hp : plainE e = true := by rfl)
    (hs : ∀ env x, foldedSetIterable (.Call (.Name f pf) [e] [] pcall) env x = pure x := by intro _ _; rfl) :
    Ex X k sc τ (exec (.For (.Tuple [.Name xi pi, .Name xc pc] nt pt) (.Call (.Name f pf) [e] [] pcall) body [] pos)) R := by
  intro A env s₀ g₀ H g m cm s E r o b F
  refine wpAny_For (wpAny_Call_NameR (wp_ev (hf A env g s E r o (b.trans F.st.gg) F.sto) fun u g1 s1 k1 x1 p1 => ?_)) (hs env)
  subst p1
  have F1 := F.ev k1 x1
  refine callWith_of (P := fun h => True) (by rw [plain_any pcall env (es := [e]) (by rw [List.all_cons, hp]; rfl)]; rfl) (fun h _ => ⟨.machine, .inr (.inl rfl), Looks.of_pure rfl⟩)
    (evalArgs_evs (EvL.cons he .nil hp) r o (b.trans F1.st.gg) F1.sto fun vs g2 s2 k2 x2 p2 => ⟨trivial, ?_⟩)
  have F2 := F1.ev k2 x2
  cases p2 with
  | cons p2 pn =>
    rename_i v0 vs0
    cases pn
    refine wpAny_mono (hen g2 s2 v0 x2.gh p2 A E r) (fun ev s3 ⟨k3, e3, it, fp, P, St, hev, W⟩ => ?_) fun _ _ y => y
    subst hev
    have x3 : Step g2 s2.heap g2 s3.heap := ⟨.rfl, kp_sub k3, x2.gh.trans (kp_sub k3), fun _ _ e => .inl e⟩
    have F3' := F2.ev k3 x3
    refine wpAny_pyIter_enum W.enum ?_
    have fresh : ∀ b ∈ [e3, it], s2.heap.get? b = none := by
      intro b hb
      rcases List.mem_cons.mp hb with rfl | hb
      · exact W.fe
      · rw [List.mem_singleton.mp hb]; exact W.fi
    have hd : ∀ p ∈ H, p.1 ∉ [e3, it] := fun p hp q => by
      have := (F2.hold p hp).1
      rw [fresh _ q] at this; cases this
    have F2' : FS s₀ g₀ env H τ g2 m cm { s3 with heap := s2.heap } := by
      obtain ⟨h', tk, rfl, kp⟩ := k3
      exact F2.tok
    have F3 := F3'.more F2' fresh fun b hb => by
      cases z : g2.get? b with
      | none => rfl
      | some o' => have := x2.gh _ _ z; rw [fresh b hb] at this; cases this
    have WT : ∀ A', A'.handled = none → WalksT X.prog X.w A' e3 (e3 :: fp) [e3, it] ds.length _ _ _ := fun A' hA => WalksT.enumerateD (W.draws A'.in1 hA) e3 W.hei W.hef W.hif
    have foot : ∀ b ∈ e3 :: fp, b ∈ [e3, it] ∨ (g2.get? b).isSome := by
      intro b hb
      rcases List.mem_cons.mp hb with rfl | hb
      · exact .inl (by simp)
      · rcases W.foot b hb with rfl | q
        · exact .inl (by simp)
        · exact .inr q
    have live : ∀ (i : Nat) (h : Heap), ((∃ old, IsEnum h e3 it i old) ∧ St i h) → ∀ b ∈ [e3, it], (h.get? b).isSome := by
      rintro i h ⟨⟨old, he⟩, hst⟩ b hb
      rcases List.mem_cons.mp hb with rfl | hb
      · have he' : h.get? b = _ := he
        rw [he']; rfl
      · rw [List.mem_singleton.mp hb]
        obtain ⟨ob, ho⟩ := (W.draws A r.hh).live _ _ hst
        rw [ho]; rfl
    refine codeAny_forLoop_any (fun n s' => ∃ i τ' g' m' cm', n = ds.length - i ∧ i ≤ ds.length ∧ Inv i τ' ∧ FS s₀ g₀ env (objsAt [e3, it] s'.heap ++ H) τ' g' m' cm' s' ∧ ((∃ old, IsEnum s'.heap e3 it i old) ∧ St i s'.heap) ∧ Sub g2 g') ?_ ds.length ⟨0, τ, g2, m, cm, rfl, Nat.zero_le _, h0, F3, ⟨⟨_, W.enum⟩, W.start⟩, .rfl⟩
    rintro n s4 ⟨i, τ', g', m', cm', rfl, hi, hI, F4, hst, hg1⟩
    have hlv := live i _ hst
    rcases Nat.lt_or_ge i ds.length with hlt | hge
    · refine (WT A r.hh).item i s4 _ _ hlt hst fun T vals h' tk hP hTn hT hmid hk' => ?_
      have F5 := F4.wrote (tk := tk) hd hlv hk'
      obtain ⟨t, xv, hPx, rfl⟩ := hP
      obtain ⟨d, hd1, hr⟩ := W.item i xv hPx
      have hTw := (WT A r.hh).apart _ _ _ hmid
      have hlv5 : ∀ b ∈ [e3, it], (h'.get? b).isSome := by
        obtain ⟨⟨xx, ho⟩, hs1, _, _⟩ := hmid
        intro b hb
        rcases List.mem_cons.mp hb with rfl | hb
        · have ho' : h'.get? b = _ := ho
          rw [ho']; rfl
        · rw [List.mem_singleton.mp hb]
          obtain ⟨ob, ho⟩ := (W.draws A r.hh).live _ _ hs1
          rw [ho]; rfl
      refine (WT A r.hh).go _ _ _ i T { s4 with heap := h', toks := tk } _ _ hmid fun h'' hst' hk'' => ?_
      have F6 := F5.wrote (tk := tk) (s := { s4 with heap := h', toks := tk }) hd hlv5 hk''
      have hT6 : h''.IsTuple T #[.int i t, xv] := let ⟨ob, ho, rr⟩ := hT; ⟨ob, hk'' _ _ hTw ho, rr⟩
      refine wp_assign2 F6 o r hT6 (.int i t) (hr.sub hg1) hx hx2 fun m7 cm7 s7 F7 => ?_
      have same : ∀ {s6 : Shared} {τ6 g6 m6 cm6}, FS s₀ g₀ env (objsAt [e3, it] h'' ++ H) τ6 g6 m6 cm6 s6 → Sub g2 g6 → FS s₀ g₀ env (objsAt [e3, it] s6.heap ++ H) τ6 g6 m6 cm6 s6 ∧ ((∃ old, IsEnum s6.heap e3 it (i + 1 : Nat) old) ∧ St (i + 1) s6.heap) := by
        intro s6 τ6 g6 m6 cm6 F8 hg6
        have hat : ∀ c ∈ [e3, it], s6.heap.get? c = h''.get? c := by
          intro c hc
          obtain ⟨ob, hob⟩ := Option.isSome_iff_exists.mp (live _ _ hst' c hc)
          rw [hob]
          exact (F8.hold (c, ob) (List.mem_append_left _ (mem_objsAt.mpr ⟨hc, hob⟩))).1
        refine ⟨F8.less fun p hp => ?_, (WT A r.hh).frame _ _ _ hst' fun c hc ob e => ?_⟩
        · rcases List.mem_append.mp hp with hp | hp
          · obtain ⟨q1, q2⟩ := mem_objsAt.mp hp
            exact List.mem_append_left _ (mem_objsAt.mpr ⟨q1, by rw [← hat _ q1]; exact q2⟩)
          · exact List.mem_append_right _ hp
        · rcases foot c hc with hw | hg
          · rw [hat c hw]; exact e
          · obtain ⟨ob', hg⟩ := Option.isSome_iff_exists.mp hg
            have e1 : h''.get? c = some ob' := F6.st.gh _ _ (hg1 _ _ hg)
            rw [e] at e1; cases e1
            exact F8.st.gh _ _ (hg6 _ _ hg)
      have F7b := F7.base
      refine wpAny_mono (turn i τ' d hd1 hI A env s₀ _ (objsAt [e3, it] h'' ++ H) _ m7 cm7 s7 _ r o (b.trans F7.st.gg) F7b) (fun f s6 x => ?_) fun _ _ y => y
      cases f with
      | next =>
        obtain ⟨τ6, g6, m6, cm6, rr, F8⟩ := x
        obtain ⟨a1, a2⟩ := same (F8.unbase F7.st) (hg1.trans F8.st.gg)
        exact ⟨ds.length - (i + 1), by omega, i + 1, τ6, g6, m6, cm6, rfl, hlt, rr, a1, a2, hg1.trans F8.st.gg⟩
      | cont =>
        obtain ⟨τ6, g6, m6, cm6, rr, F8⟩ := x
        obtain ⟨a1, a2⟩ := same (F8.unbase F7.st) (hg1.trans F8.st.gg)
        exact ⟨ds.length - (i + 1), by omega, i + 1, τ6, g6, m6, cm6, rfl, hlt, rr, a1, a2, hg1.trans F8.st.gg⟩
      | brk =>
        obtain ⟨τ6, g6, m6, cm6, rr, F8⟩ := x
        exact ⟨τ6, g6, m6, cm6, rr, (F8.unbase F7.st).less fun p hp => List.mem_append_right _ hp⟩
      | ret v =>
        obtain ⟨d6, g6, rr, k6, x6, r6⟩ := x
        exact ⟨d6, g6, rr, k6, step_base F7.st x6, r6⟩
    · have hin : i = ds.length := by omega
      subst hin
      refine (WT A r.hh).done s4 _ _ hst fun h' tk hk' => ?_
      have F5 := F4.wrote (tk := tk) hd hlv hk'
      exact wpAny_execs_nil ⟨τ', g', m', cm', done τ' hI, F5.less fun p hp => List.mem_append_right _ hp⟩
end
end Mine

namespace Mine
open PySem PySem.W PyProof.Rows PySem.Calls
set_option Elab.async false
set_option maxRecDepth 100000
set_option linter.unusedVariables false

/-- a comparison of the items of a walk, wherever g stands -/
def CmpG (X : Cx) (k : Nat) (op : CmpOp) (g : Heap) (P : Nat → Value → Prop) (bt : Nat → Nat → Bool) : Prop :=
  ∀ (A : Around) (i j : Nat) (vi vj : Value) (s : Shared) (Q : Value → Shared → Prop) (E : Value → Shared → Prop), Room A k → Sub g s.heap → P i vi → P j vj → Q (.bool (bt i j)) s → wpAny X.M A (richCompare op vi vj) Q E s
theorem CmpG.in1 {X : Cx} {k : Nat} {op : CmpOp} {g : Heap} {P : Nat → Value → Prop} {bt : Nat → Nat → Bool} (h : CmpG X k op g P bt) : CmpG X (k + 1) op g P bt := fun A i j vi vj s Q E r => h A i j vi vj s Q E (r.le (Nat.le_succ _))

section
variable {X : Cx} {k : Nat} {A : Around} {R : Result → Shared → Prop} {g : Heap} {I S : Addr} {fp wr : List Addr} {n : Nat} {P : Nat → Value → Prop} {St : Nat → Heap → Prop}

theorem max_turns (rm : Room A (k + 1)) (W : Walks X.prog X.w A.in1 I fp wr n P St) (bt : Nat → Nat → Bool) (hc : CmpG X k .Gt g P bt) (hS : S ∉ fp) (gS : g.get? S = none) (gw : ∀ b ∈ wr, g.get? b = none) :
    ∀ (todo j : Nat) (s : Shared) (best : Value) (ep : Nat), todo = n - (j + 1) → j < n → Sub g s.heap → St (j + 1) s.heap → P (argBest bt j) best →
    s.heap.get? S = some { cls := .type "list", dict := none, data := .seq #[best, best] ep, slots := #[] } →
    (∀ v h' tk, P (argBest bt (n - 1)) v → (∀ b o, b ∉ wr → b ≠ S → s.heap.get? b = some o → h'.get? b = some o) → R (.ok (.ret v)) { s with heap := h', toks := tk }) →
    codeAny X.M A (.builtin "max.loop" ⟨[.ref I, .none, .ref S], []⟩) R s := by
  have nm : (toString "max" ++ toString ".loop" : String) = "max.loop" := by decide
  have Sw : S ∉ wr := fun q => hS (W.sub _ q)
  intro todo
  induction todo with
  | zero =>
    intro j s best ep ht hj kk hst hP hs hR
    refine codeAny_builtin F.entry_max_loop ?_
    rw [Around.under_plainId F.plain_max_loop _]
    show wpAny _ A.in1 (seqItems? (.ref S) >>= _) _ _ s
    refine wpAny_bind (wpAny_seqItems hs rfl ?_)
    show wpAny _ A.in1 (tryCatch (pyNext (.ref I)) _ >>= _) _ _ s
    have hn : j + 1 = n := by omega
    refine wpAny_bind (wpAny_tryCatch (W.done s _ _ (hn ▸ hst) fun h' tk hk => ?_))
    show wpAny _ A.in1 (updateSeq S (fun _ => #[]) >>= _) _ _ _
    refine wpAny_bind (wpAny_updateSeq (hk S _ Sw hs) rfl (wpAny_bind (wpAny_letGo (wpAny_pure ?_))))
    have hn' : n - 1 = j := by omega
    exact hR best _ tk (by rw [hn']; exact hP) fun b o hb hbS e => (Heap.get?_update_other _ _ (Ne.symm hbS)).trans (hk b o hb e)
  | succ todo ih =>
    intro j s best ep ht hj kk hst hP hs hR
    refine codeAny_builtin F.entry_max_loop ?_
    rw [Around.under_plainId F.plain_max_loop _]
    show wpAny _ A.in1 (seqItems? (.ref S) >>= _) _ _ s
    refine wpAny_bind (wpAny_seqItems hs rfl ?_)
    show wpAny _ A.in1 (tryCatch (pyNext (.ref I)) _ >>= _) _ _ s
    refine wpAny_bind (wpAny_tryCatch (W.item (j + 1) s _ _ (by omega) hst fun v h' tk hPv hst' hk => ?_))
    have kk' : Sub g h' := fun b o e => hk b o (fun q => by rw [gw b q] at e; cases e) (kk b o e)
    have hs' := hk S _ Sw hs
    show wpAny _ A.in1 (tryCatch (holding [v, v] (richCompare .Gt v best >>= _)) _ >>= _) _ _ _
    refine wpAny_bind (wpAny_tryCatch (wpAny_holding (wpAny_bind (hc A.in1 (j + 1) (argBest bt j) v best _ _ _ rm.in1 kk' hPv hP ?_))))
    refine wpAny_bind (wpAny_holding (wpAny_truthy_bool ?_))
    refine wpAny_bind (wpAny_letGo (wpAny_pure ?_))
    cases hb : bt (j + 1) (argBest bt j) with
    | true =>
      simp only [if_true]
      refine wpAny_bind (wpAny_updateSeq hs' rfl (wpAny_bind (wpAny_letGo ?_)))
      rw [nm]
      refine wpAny_pure ⟨plainId_quiet F.plain_max_loop _, ih (j + 1) _ v _ (by omega) (by omega) (fun b o e => ?_) (W.frame _ _ _ hst' fun b hbf o e => ?_) (by simp only [argBest, hb, if_true]; exact hPv) (Heap.get?_update_self _ hs' rfl) fun u h'' tk'' hPu hk'' => ?_⟩
      · exact (Heap.get?_update_other _ _ (fun q => by rw [← q, gS] at e; cases e)).trans (kk' b o e)
      · exact (Heap.get?_update_other _ _ (fun q : S = b => hS (q ▸ hbf))).trans e
      · exact hR u h'' tk'' hPu fun b o hbw hbS e => hk'' b o hbw hbS ((Heap.get?_update_other _ _ (Ne.symm hbS)).trans (hk b o hbw e))
    | false =>
      simp only [Bool.false_eq_true, if_false]
      refine wpAny_bind (wpAny_letGo ?_)
      rw [nm]
      refine wpAny_pure ⟨plainId_quiet F.plain_max_loop _, ih (j + 1) _ best ep (by omega) (by omega) kk' hst' (by simp only [argBest, hb, Bool.false_eq_true, if_false]; exact hP) hs' fun u h'' tk'' hPu hk'' => ?_⟩
      exact hR u h'' tk'' hPu fun b o hbw hbS e => hk'' b o hbw hbS (hk b o hbw e)

theorem max_starts (rm : Room A (k + 1)) (W : Walks X.prog X.w A.in1 I fp wr n P St) (bt : Nat → Nat → Bool) (hc : CmpG X k .Gt g P bt) (hS : S ∉ fp) (gS : g.get? S = none) (gw : ∀ b ∈ wr, g.get? b = none) (hn : 0 < n) {s : Shared} {ep : Nat} (kk : Sub g s.heap) (hst : St 0 s.heap)
    (hs : s.heap.get? S = some { cls := .type "list", dict := none, data := .seq #[] ep, slots := #[] })
    (hR : ∀ v h' tk, P (argBest bt (n - 1)) v → (∀ b o, b ∉ wr → b ≠ S → s.heap.get? b = some o → h'.get? b = some o) → R (.ok (.ret v)) { s with heap := h', toks := tk }) :
    codeAny X.M A (.builtin "max.loop" ⟨[.ref I, .none, .ref S], []⟩) R s := by
  have nm : (toString "max" ++ toString ".loop" : String) = "max.loop" := by decide
  have Sw : S ∉ wr := fun q => hS (W.sub _ q)
  refine codeAny_builtin F.entry_max_loop ?_
  rw [Around.under_plainId F.plain_max_loop _]
  show wpAny _ A.in1 (seqItems? (.ref S) >>= _) _ _ s
  refine wpAny_bind (wpAny_seqItems hs rfl ?_)
  show wpAny _ A.in1 (tryCatch (pyNext (.ref I)) _ >>= _) _ _ s
  refine wpAny_bind (wpAny_tryCatch (W.item 0 s _ _ hn hst fun v h' tk hPv hst' hk => ?_))
  have kk' : Sub g h' := fun b o e => hk b o (fun q => by rw [gw b q] at e; cases e) (kk b o e)
  have hs' := hk S _ Sw hs
  show wpAny _ A.in1 (updateSeq S (fun _ => #[v, v]) >>= _) _ _ _
  refine wpAny_bind (wpAny_updateSeq hs' rfl ?_)
  rw [nm]
  refine wpAny_pure ⟨plainId_quiet F.plain_max_loop _, max_turns rm W bt hc hS gS gw _ 0 _ v _ rfl hn (fun b o e => ?_) (W.frame _ _ _ hst' fun b hbf o e => ?_) hPv (Heap.get?_update_self _ hs' rfl) fun u h'' tk'' hPu hk'' => ?_⟩
  · exact (Heap.get?_update_other _ _ (fun q => by rw [← q, gS] at e; cases e)).trans (kk' b o e)
  · exact (Heap.get?_update_other _ _ (fun q : S = b => hS (q ▸ hbf))).trans e
  · exact hR u h'' tk'' hPu fun b o hbw hbS e => hk'' b o hbw hbS ((Heap.get?_update_other _ _ (Ne.symm hbS)).trans (hk b o hbw e))
end

theorem max_iter {X : Cx} {k : Nat} {A : Around} {E : Value → Shared → Prop} {g : Heap} {s : Shared} {xv : Value} {ds : List Dat} {bt : Nat → Nat → Bool} (rm : Room A (k + 2)) (kk : Sub g s.heap) (hit : IterOf X k g s xv ds) (hn : 0 < ds.length)
    (hc : CmpG X k .Gt g (fun i v => ∃ d, ds[i]? = some d ∧ Rep g v d) bt) :
    wpAny X.M A (call (.builtin "max") [xv]) (Post g s fun g' v => ∃ d, ds[argBest bt (ds.length - 1)]? = some d ∧ Rep g' v d) E s := by
  have nm : (toString "max" ++ toString ".loop" : String) = "max.loop" := by decide
  refine call_function_tree F.kind_max F.plain_max F.entry_max (F.args_max1 _) ?_
  show wpAny _ A.in1 (Builtin.Builtins.bindParams "max" ["key", "default"] 0 ⟨[], []⟩ >>= _) _ _ s
  refine wpAny_bind (wpAny_of_eq (show Builtin.Builtins.bindParams "max" ["key", "default"] 0 ⟨[], []⟩ = pure [none, none] from rfl) ?_)
  refine wpAny_bind (wpAny_pure ?_)
  refine wpAny_bind (wpAny_mono (hit A.in1 E (rm.in1.le (Nat.le_succ _))) (fun it s2 ⟨k2, I, fp, wr, P, St, e, W⟩ => ?_) fun _ _ y => y)
  subst e
  refine wpAny_bind (wpAny_newObj_type ?_)
  have hSf : s2.heap.objs.size ∉ fp := fun hm => Nat.lt_irrefl _ (W.low _ hm)
  have kk2 : Sub g s2.heap := kk.trans (kp_sub k2)
  have none_of : ∀ {b}, s2.heap.get? b = none ∨ s.heap.get? b = none → g.get? b = none := by
    intro b h
    cases z : g.get? b with
    | none => rfl
    | some o =>
      rcases h with h | h
      · have := kk2 _ _ z; rw [h] at this; cases this
      · have := kk _ _ z; rw [h] at this; cases this
  rw [nm]
  refine wpAny_pure ⟨plainId_quiet F.plain_max_loop _, max_starts (k := k + 1) (g := g) rm (W.walks A.in1 rm.hh) bt (fun A' i j vi vj s' Q E' r' kk' hi hj h => hc A' i j vi vj s' Q E' (r'.le (Nat.le_succ _)) kk' (W.item i vi hi) (W.item j vj hj) h) hSf (none_of (.inl fresh_size)) (fun b hb => none_of (.inr (W.fresh b hb))) hn (kk2.trans (Sub.push .rfl _))
    ((W.walks A.in1 rm.hh).frame _ _ _ W.start fun b _ o e => Heap.get?_push_of_some _ e) (Heap.get?_push_size _ rfl) fun v h' tk hP hk => ?_⟩
  obtain ⟨d, hd, hr⟩ := W.item _ _ hP
  have sub : Sub s.heap h' := fun b o e => hk b o (fun q => by rw [W.fresh b q] at e; cases e) (Nat.ne_of_lt (Heap.lt_size (kp_sub k2 _ _ e))) (Heap.get?_push_of_some _ (kp_sub k2 _ _ e))
  refine ⟨?_, g, ⟨.rfl, sub, kk.trans sub, fun _ _ e => .inl e⟩, d, hd, hr⟩
  obtain ⟨h2, t2, rfl, _⟩ := k2
  exact ⟨h', tk, rfl, sub⟩

section
variable {X : Cx} {k : Nat} {A : Around} {R : Result → Shared → Prop} {g : Heap} {I S : Addr} {fp wr : List Addr} {n : Nat} {P : Nat → Value → Prop} {St : Nat → Heap → Prop}

theorem min_turns (rm : Room A (k + 1)) (W : Walks X.prog X.w A.in1 I fp wr n P St) (bt : Nat → Nat → Bool) (hc : CmpG X k .Lt g P bt) (hS : S ∉ fp) (gS : g.get? S = none) (gw : ∀ b ∈ wr, g.get? b = none) :
    ∀ (todo j : Nat) (s : Shared) (best : Value) (ep : Nat), todo = n - (j + 1) → j < n → Sub g s.heap → St (j + 1) s.heap → P (argBest bt j) best →
    s.heap.get? S = some { cls := .type "list", dict := none, data := .seq #[best, best] ep, slots := #[] } →
    (∀ v h' tk, P (argBest bt (n - 1)) v → (∀ b o, b ∉ wr → b ≠ S → s.heap.get? b = some o → h'.get? b = some o) → R (.ok (.ret v)) { s with heap := h', toks := tk }) →
    codeAny X.M A (.builtin "min.loop" ⟨[.ref I, .none, .ref S], []⟩) R s := by
  have nm : (toString "min" ++ toString ".loop" : String) = "min.loop" := by decide
  have Sw : S ∉ wr := fun q => hS (W.sub _ q)
  intro todo
  induction todo with
  | zero =>
    intro j s best ep ht hj kk hst hP hs hR
    refine codeAny_builtin F.entry_min_loop ?_
    rw [Around.under_plainId F.plain_min_loop _]
    show wpAny _ A.in1 (seqItems? (.ref S) >>= _) _ _ s
    refine wpAny_bind (wpAny_seqItems hs rfl ?_)
    show wpAny _ A.in1 (tryCatch (pyNext (.ref I)) _ >>= _) _ _ s
    have hn : j + 1 = n := by omega
    refine wpAny_bind (wpAny_tryCatch (W.done s _ _ (hn ▸ hst) fun h' tk hk => ?_))
    show wpAny _ A.in1 (updateSeq S (fun _ => #[]) >>= _) _ _ _
    refine wpAny_bind (wpAny_updateSeq (hk S _ Sw hs) rfl (wpAny_bind (wpAny_letGo (wpAny_pure ?_))))
    have hn' : n - 1 = j := by omega
    exact hR best _ tk (by rw [hn']; exact hP) fun b o hb hbS e => (Heap.get?_update_other _ _ (Ne.symm hbS)).trans (hk b o hb e)
  | succ todo ih =>
    intro j s best ep ht hj kk hst hP hs hR
    refine codeAny_builtin F.entry_min_loop ?_
    rw [Around.under_plainId F.plain_min_loop _]
    show wpAny _ A.in1 (seqItems? (.ref S) >>= _) _ _ s
    refine wpAny_bind (wpAny_seqItems hs rfl ?_)
    show wpAny _ A.in1 (tryCatch (pyNext (.ref I)) _ >>= _) _ _ s
    refine wpAny_bind (wpAny_tryCatch (W.item (j + 1) s _ _ (by omega) hst fun v h' tk hPv hst' hk => ?_))
    have kk' : Sub g h' := fun b o e => hk b o (fun q => by rw [gw b q] at e; cases e) (kk b o e)
    have hs' := hk S _ Sw hs
    show wpAny _ A.in1 (tryCatch (holding [v, v] (richCompare .Lt v best >>= _)) _ >>= _) _ _ _
    refine wpAny_bind (wpAny_tryCatch (wpAny_holding (wpAny_bind (hc A.in1 (j + 1) (argBest bt j) v best _ _ _ rm.in1 kk' hPv hP ?_))))
    refine wpAny_bind (wpAny_holding (wpAny_truthy_bool ?_))
    refine wpAny_bind (wpAny_letGo (wpAny_pure ?_))
    cases hb : bt (j + 1) (argBest bt j) with
    | true =>
      simp only [if_true]
      refine wpAny_bind (wpAny_updateSeq hs' rfl (wpAny_bind (wpAny_letGo ?_)))
      rw [nm]
      refine wpAny_pure ⟨plainId_quiet F.plain_min_loop _, ih (j + 1) _ v _ (by omega) (by omega) (fun b o e => ?_) (W.frame _ _ _ hst' fun b hbf o e => ?_) (by simp only [argBest, hb, if_true]; exact hPv) (Heap.get?_update_self _ hs' rfl) fun u h'' tk'' hPu hk'' => ?_⟩
      · exact (Heap.get?_update_other _ _ (fun q => by rw [← q, gS] at e; cases e)).trans (kk' b o e)
      · exact (Heap.get?_update_other _ _ (fun q : S = b => hS (q ▸ hbf))).trans e
      · exact hR u h'' tk'' hPu fun b o hbw hbS e => hk'' b o hbw hbS ((Heap.get?_update_other _ _ (Ne.symm hbS)).trans (hk b o hbw e))
    | false =>
      simp only [Bool.false_eq_true, if_false]
      refine wpAny_bind (wpAny_letGo ?_)
      rw [nm]
      refine wpAny_pure ⟨plainId_quiet F.plain_min_loop _, ih (j + 1) _ best ep (by omega) (by omega) kk' hst' (by simp only [argBest, hb, Bool.false_eq_true, if_false]; exact hP) hs' fun u h'' tk'' hPu hk'' => ?_⟩
      exact hR u h'' tk'' hPu fun b o hbw hbS e => hk'' b o hbw hbS (hk b o hbw e)

theorem min_starts (rm : Room A (k + 1)) (W : Walks X.prog X.w A.in1 I fp wr n P St) (bt : Nat → Nat → Bool) (hc : CmpG X k .Lt g P bt) (hS : S ∉ fp) (gS : g.get? S = none) (gw : ∀ b ∈ wr, g.get? b = none) (hn : 0 < n) {s : Shared} {ep : Nat} (kk : Sub g s.heap) (hst : St 0 s.heap)
    (hs : s.heap.get? S = some { cls := .type "list", dict := none, data := .seq #[] ep, slots := #[] })
    (hR : ∀ v h' tk, P (argBest bt (n - 1)) v → (∀ b o, b ∉ wr → b ≠ S → s.heap.get? b = some o → h'.get? b = some o) → R (.ok (.ret v)) { s with heap := h', toks := tk }) :
    codeAny X.M A (.builtin "min.loop" ⟨[.ref I, .none, .ref S], []⟩) R s := by
  have nm : (toString "min" ++ toString ".loop" : String) = "min.loop" := by decide
  have Sw : S ∉ wr := fun q => hS (W.sub _ q)
  refine codeAny_builtin F.entry_min_loop ?_
  rw [Around.under_plainId F.plain_min_loop _]
  show wpAny _ A.in1 (seqItems? (.ref S) >>= _) _ _ s
  refine wpAny_bind (wpAny_seqItems hs rfl ?_)
  show wpAny _ A.in1 (tryCatch (pyNext (.ref I)) _ >>= _) _ _ s
  refine wpAny_bind (wpAny_tryCatch (W.item 0 s _ _ hn hst fun v h' tk hPv hst' hk => ?_))
  have kk' : Sub g h' := fun b o e => hk b o (fun q => by rw [gw b q] at e; cases e) (kk b o e)
  have hs' := hk S _ Sw hs
  show wpAny _ A.in1 (updateSeq S (fun _ => #[v, v]) >>= _) _ _ _
  refine wpAny_bind (wpAny_updateSeq hs' rfl ?_)
  rw [nm]
  refine wpAny_pure ⟨plainId_quiet F.plain_min_loop _, min_turns rm W bt hc hS gS gw _ 0 _ v _ rfl hn (fun b o e => ?_) (W.frame _ _ _ hst' fun b hbf o e => ?_) hPv (Heap.get?_update_self _ hs' rfl) fun u h'' tk'' hPu hk'' => ?_⟩
  · exact (Heap.get?_update_other _ _ (fun q => by rw [← q, gS] at e; cases e)).trans (kk' b o e)
  · exact (Heap.get?_update_other _ _ (fun q : S = b => hS (q ▸ hbf))).trans e
  · exact hR u h'' tk'' hPu fun b o hbw hbS e => hk'' b o hbw hbS ((Heap.get?_update_other _ _ (Ne.symm hbS)).trans (hk b o hbw e))
end

theorem min_iter {X : Cx} {k : Nat} {A : Around} {E : Value → Shared → Prop} {g : Heap} {s : Shared} {xv : Value} {ds : List Dat} {bt : Nat → Nat → Bool} (rm : Room A (k + 2)) (kk : Sub g s.heap) (hit : IterOf X k g s xv ds) (hn : 0 < ds.length)
    (hc : CmpG X k .Lt g (fun i v => ∃ d, ds[i]? = some d ∧ Rep g v d) bt) :
    wpAny X.M A (call (.builtin "min") [xv]) (Post g s fun g' v => ∃ d, ds[argBest bt (ds.length - 1)]? = some d ∧ Rep g' v d) E s := by
  have nm : (toString "min" ++ toString ".loop" : String) = "min.loop" := by decide
  refine call_function_tree F.kind_min F.plain_min F.entry_min (F.args_min1 _) ?_
  show wpAny _ A.in1 (Builtin.Builtins.bindParams "min" ["key", "default"] 0 ⟨[], []⟩ >>= _) _ _ s
  refine wpAny_bind (wpAny_of_eq (show Builtin.Builtins.bindParams "min" ["key", "default"] 0 ⟨[], []⟩ = pure [none, none] from rfl) ?_)
  refine wpAny_bind (wpAny_pure ?_)
  refine wpAny_bind (wpAny_mono (hit A.in1 E (rm.in1.le (Nat.le_succ _))) (fun it s2 ⟨k2, I, fp, wr, P, St, e, W⟩ => ?_) fun _ _ y => y)
  subst e
  refine wpAny_bind (wpAny_newObj_type ?_)
  have hSf : s2.heap.objs.size ∉ fp := fun hm => Nat.lt_irrefl _ (W.low _ hm)
  have kk2 : Sub g s2.heap := kk.trans (kp_sub k2)
  have none_of : ∀ {b}, s2.heap.get? b = none ∨ s.heap.get? b = none → g.get? b = none := by
    intro b h
    cases z : g.get? b with
    | none => rfl
    | some o =>
      rcases h with h | h
      · have := kk2 _ _ z; rw [h] at this; cases this
      · have := kk _ _ z; rw [h] at this; cases this
  rw [nm]
  refine wpAny_pure ⟨plainId_quiet F.plain_min_loop _, min_starts (k := k + 1) (g := g) rm (W.walks A.in1 rm.hh) bt (fun A' i j vi vj s' Q E' r' kk' hi hj h => hc A' i j vi vj s' Q E' (r'.le (Nat.le_succ _)) kk' (W.item i vi hi) (W.item j vj hj) h) hSf (none_of (.inl fresh_size)) (fun b hb => none_of (.inr (W.fresh b hb))) hn (kk2.trans (Sub.push .rfl _))
    ((W.walks A.in1 rm.hh).frame _ _ _ W.start fun b _ o e => Heap.get?_push_of_some _ e) (Heap.get?_push_size _ rfl) fun v h' tk hP hk => ?_⟩
  obtain ⟨d, hd, hr⟩ := W.item _ _ hP
  have sub : Sub s.heap h' := fun b o e => hk b o (fun q => by rw [W.fresh b q] at e; cases e) (Nat.ne_of_lt (Heap.lt_size (kp_sub k2 _ _ e))) (Heap.get?_push_of_some _ (kp_sub k2 _ _ e))
  refine ⟨?_, g, ⟨.rfl, sub, kk.trans sub, fun _ _ e => .inl e⟩, d, hd, hr⟩
  obtain ⟨h2, t2, rfl, _⟩ := k2
  exact ⟨h', tk, rfl, sub⟩
end Mine

namespace Mine
open PySem PySem.W PyProof.Rows PySem.Calls
set_option Elab.async false
set_option maxRecDepth 100000
set_option linter.unusedVariables false

/-- the common head of two rows -/
def lcp2 : List Int → List Int → List Int
  | a :: as, b :: bs => if a = b then a :: lcp2 as bs else []
  | _, _ => []
theorem lcp2_left : ∀ (a b : List Int), lcp2 a b <+: a
  | [], b => by cases b <;> exact List.prefix_rfl
  | a :: as, [] => List.nil_prefix
  | a :: as, b :: bs => by
    unfold lcp2
    split
    · exact List.cons_prefix_cons.mpr ⟨rfl, lcp2_left as bs⟩
    · exact List.nil_prefix
theorem lcp2_right : ∀ (a b : List Int), lcp2 a b <+: b
  | [], b => by cases b <;> exact List.nil_prefix
  | a :: as, [] => List.prefix_rfl
  | a :: as, b :: bs => by
    unfold lcp2
    split
    · rename_i h; exact List.cons_prefix_cons.mpr ⟨h, lcp2_right as bs⟩
    · exact List.nil_prefix
theorem lcp2_most : ∀ {p a b : List Int}, p <+: a → p <+: b → p <+: lcp2 a b
  | [], _, _, _, _ => List.nil_prefix
  | x :: p, [], _, h, _ => by simp at h
  | x :: p, _ :: _, [], _, h => by simp at h
  | x :: p, a :: as, b :: bs, h1, h2 => by
    obtain ⟨e1, h1⟩ := List.cons_prefix_cons.mp h1
    obtain ⟨e2, h2⟩ := List.cons_prefix_cons.mp h2
    unfold lcp2
    rw [if_pos (e1.symm.trans e2)]
    exact List.cons_prefix_cons.mpr ⟨e1, lcp2_most h1 h2⟩
theorem prefix_antisymm {a b : List Int} (h1 : a <+: b) (h2 : b <+: a) : a = b := h1.eq_of_length (Nat.le_antisymm h1.length_le h2.length_le)

/-- c is the common head of all rows -/
def IsCp (rows : List (List Int)) (c : List Int) : Prop := (∀ r ∈ rows, c <+: r) ∧ ∀ p, (∀ r ∈ rows, p <+: r) → p <+: c
theorem IsCp.uniq {rows : List (List Int)} {c d : List Int} (h : IsCp rows c) (h' : IsCp rows d) : c = d := prefix_antisymm (h'.2 c h.1) (h.2 d h'.1)

theorem pre_between : ∀ {p a r b : List Int}, p <+: a → p <+: b → ¬ r < a → ¬ b < r → p <+: r
  | [], _, _, _, _, _, _, _ => List.nil_prefix
  | x :: p, [], _, _, h, _, _, _ => by simp at h
  | x :: p, _ :: _, _, [], _, h, _, _ => by simp at h
  | x :: p, a :: as, [], b :: bs, h1, h2, h3, h4 => absurd (List.nil_lt_cons _ _) h3
  | x :: p, a :: as, y :: r, b :: bs, h1, h2, h3, h4 => by
    obtain ⟨e1, g1⟩ := List.cons_prefix_cons.mp h1
    obtain ⟨e2, g2⟩ := List.cons_prefix_cons.mp h2
    subst e1; subst e2
    rw [List.cons_lt_cons_iff] at h3 h4
    have hy : x = y := by
      rcases Int.lt_trichotomy x y with h | h | h
      · exact absurd (.inl h) h4
      · exact h
      · exact absurd (.inl h) h3
    subst hy
    exact List.cons_prefix_cons.mpr ⟨rfl, pre_between g1 g2 (fun q => h3 (.inr ⟨rfl, q⟩)) fun q => h4 (.inr ⟨rfl, q⟩)⟩

theorem argBest_le (bt : Nat → Nat → Bool) : ∀ n, argBest bt n ≤ n
  | 0 => Nat.le_refl _
  | n + 1 => by
    unfold argBest
    split
    · exact Nat.le_refl _
    · exact Nat.le_succ_of_le (argBest_le bt n)
theorem argBest_spec {bt : Nat → Nat → Bool} (tr : ∀ i j k, bt i j = true → bt j k = true → bt i k = true) (ir : ∀ i, bt i i = false) : ∀ n i, i ≤ n → bt i (argBest bt n) = false
  | 0, i, h => by
    have : i = 0 := by omega
    subst this
    exact ir 0
  | n + 1, i, h => by
    unfold argBest
    have ih := argBest_spec tr ir n
    split
    · rename_i hb
      rcases Nat.lt_or_ge i (n + 1) with hi | hi
      · cases hq : bt i (n + 1) with
        | false => rfl
        | true =>
          have := tr _ _ _ hq hb
          rw [ih i (by omega)] at this
          cases this
      · have : i = n + 1 := by omega
        rw [this]; exact ir _
    · rename_i hb
      rcases Nat.lt_or_ge i (n + 1) with hi | hi
      · exact ih i (by omega)
      · have : i = n + 1 := by omega
        rw [this]; simpa using hb

def rowAt (rows : List (List Int)) (i : Nat) : List Int := rows.getD i []
def btLt (rows : List (List Int)) (i j : Nat) : Bool := decide (rowAt rows i < rowAt rows j)
def btGt (rows : List (List Int)) (i j : Nat) : Bool := decide (rowAt rows j < rowAt rows i)
def minRow (rows : List (List Int)) : List Int := rowAt rows (argBest (btLt rows) (rows.length - 1))
def maxRow (rows : List (List Int)) : List Int := rowAt rows (argBest (btGt rows) (rows.length - 1))
theorem lt_tr {a b c : List Int} (h1 : a < b) (h2 : b < c) : a < c := List.lt_trans h1 h2
theorem minRow_spec {rows : List (List Int)} {r : List Int} (h : r ∈ rows) : ¬ r < minRow rows := by
  obtain ⟨i, hi, rfl⟩ := List.getElem_of_mem h
  have := argBest_spec (bt := btLt rows) (fun i j k h1 h2 => by simp only [btLt, decide_eq_true_eq] at *; exact lt_tr h1 h2) (fun i => by simp [btLt, List.lt_irrefl]) (rows.length - 1) i (by omega)
  simp only [btLt, decide_eq_false_iff_not] at this
  have e : rowAt rows i = rows[i] := by simp [rowAt, hi]
  rw [e] at this
  exact this
theorem maxRow_spec {rows : List (List Int)} {r : List Int} (h : r ∈ rows) : ¬ maxRow rows < r := by
  obtain ⟨i, hi, rfl⟩ := List.getElem_of_mem h
  have := argBest_spec (bt := btGt rows) (fun i j k h1 h2 => by simp only [btGt, decide_eq_true_eq] at *; exact lt_tr h2 h1) (fun i => by simp [btGt, List.lt_irrefl]) (rows.length - 1) i (by omega)
  simp only [btGt, decide_eq_false_iff_not] at this
  have e : rowAt rows i = rows[i] := by simp [rowAt, hi]
  rw [e] at this
  exact this
theorem argBest_mem {rows : List (List Int)} (bt : Nat → Nat → Bool) (h : rows ≠ []) : rowAt rows (argBest bt (rows.length - 1)) ∈ rows := by
  have h0 : 0 < rows.length := List.length_pos_iff.mpr h
  have h1 := argBest_le bt (rows.length - 1)
  have h2 : argBest bt (rows.length - 1) < rows.length := by omega
  have e : rowAt rows (argBest bt (rows.length - 1)) = rows[argBest bt (rows.length - 1)] := by simp [rowAt, h2]
  rw [e]
  exact List.getElem_mem h2
theorem isCp_minMax {rows : List (List Int)} (h : rows ≠ []) : IsCp rows (lcp2 (minRow rows) (maxRow rows)) := by
  refine ⟨fun r hr => pre_between (lcp2_left _ _) (lcp2_right _ _) (minRow_spec hr) (maxRow_spec hr), fun p hp => ?_⟩
  exact lcp2_most (hp _ (argBest_mem _ h)) (hp _ (argBest_mem _ h))

/-- a walk through two rows of which the first isn't above the other -/
theorem lcp2_stop {a b : List Int} {i : Nat} (h : a.take i = b.take i) (ha : i < a.length) (hb : i < b.length) (hne : a[i] ≠ b[i]) : lcp2 a b = a.take i := by
  induction i generalizing a b with
  | zero =>
    cases a with
    | nil => simp at ha
    | cons x a =>
      cases b with
      | nil => simp at hb
      | cons y b =>
        have : x ≠ y := by simpa using hne
        simp [lcp2, this]
  | succ i ih =>
    cases a with
    | nil => simp at ha
    | cons x a =>
      cases b with
      | nil => simp at hb
      | cons y b =>
        simp only [List.take_succ_cons, List.cons.injEq] at h
        obtain ⟨e, h⟩ := h
        unfold lcp2
        rw [if_pos e, ih h (by simpa using ha) (by simpa using hb) (by simpa using hne)]
        simp
theorem lcp2_whole {a b : List Int} (h : a <+: b) : lcp2 a b = a := prefix_antisymm (lcp2_left _ _) (lcp2_most List.prefix_rfl h)
theorem in_bounds {a b : List Int} {i : Nat} (h : a.take i = b.take i) (ha : i < a.length) (hle : ¬ b < a) : i < b.length := by
  induction i generalizing a b with
  | zero =>
    cases b with
    | nil => cases a with
      | nil => simp at ha
      | cons x a => exact absurd (List.nil_lt_cons _ _) hle
    | cons y b => simp
  | succ i ih =>
    cases a with
    | nil => simp at ha
    | cons x a =>
      cases b with
      | nil => exact absurd (List.nil_lt_cons _ _) hle
      | cons y b =>
        simp only [List.take_succ_cons, List.cons.injEq] at h
        obtain ⟨e, h⟩ := h
        subst e
        rw [List.cons_lt_cons_iff] at hle
        have := ih h (by simpa using ha) fun q => hle (.inr ⟨rfl, q⟩)
        simpa using this
end Mine

namespace Mine
open PySem PySem.W PyProof.Rows PySem.Calls
set_option Elab.async false
set_option maxRecDepth 100000
set_option linter.unusedVariables false

/-- the parts of a text's statements -/
def stAt : List Stmt → Nat → Stmt
  | a :: _, 0 => a
  | _ :: r, n + 1 => stAt r n
  | [], _ => .Pass ⟨0, 0, 0, 0⟩
def fnB : Stmt → List Stmt
  | .FunctionDef _ _ body .. => body
  | _ => []
def fnP : Stmt → Arguments
  | .FunctionDef _ p .. => p
  | _ => ⟨[], [], none, [], [], none, []⟩
def fnN : Stmt → List (Str × NameKind)
  | .FunctionDef _ _ _ _ _ _ sc .. => sc.names
  | _ => []
def fnS (st : Stmt) (more : List (Str × Const)) : Scope := ⟨.function, fnN st, false, false, more⟩

/-- a def of the text's stands in the module -/
def Stands (X : Cx) (f : Str) (st : Stmt) : Prop := ∃ m, IsDef X f (fnP st) (fnB st) (fnS st m)

theorem upd_same {x y : Str} {lv : LV} {τ : Sto} (h : x = y) : (upd x lv τ).lookup y = some lv := by rw [lookup_upd, if_pos h.symm]
theorem upd_other {x y : Str} {lv : LV} {τ : Sto} {r : Option LV} (h : x ≠ y) (e : τ.lookup y = r) : (upd x lv τ).lookup y = r := by rw [lookup_upd, if_neg (Ne.symm h), e]

section
variable {X : Cx} {k : Nat} {sc : Scope} {σ τ : Sto}

/-- isinstance(e, (list, tuple)) -/
theorem Ev.isin {f a b : Str} {p pa pb pt pos : Pos} {n : Nat} {e : Expr} {d : Dat} {Tx : String} {b1 b2 : Bool} (hf : EvP X k sc σ (.Name f p) fun _ u => u = .builtin "isinstance") (he : Ev X k sc σ e d)
    (h1 : EvP X k sc σ (.Name a pa) fun _ u => u = .type "list") (h2 : EvP X k sc σ (.Name b pb) fun _ u => u = .type "tuple")
    (hty : ∀ g v s, Rep g v d → Sub g s.heap → Shared.TypeIs s v Tx) (ha : ∀ (g : Heap) (x : Value), Rep g x d → AnswersAll (fun s => s.TypeIs x Tx) x [.type "list", .type "tuple"] [b1, b2]) (hp : plainE e = true := by rfl) :
    Ev X k sc σ (.Call (.Name f p) [e, .Tuple [.Name a pa, .Name b pb] n pt] [] pos) (.bool (b1 || b2)) := by
  intro A env g s E rm o bs q
  refine wpAny_Call_NameR (wp_ev (hf A env g s E rm o bs q) fun u g1 s1 k1 x1 p1 => ?_)
  subst p1
  refine callWith_of (P := fun h => True) (by rw [plain_any pos env (es := [e, .Tuple [.Name a pa, .Name b pb] n pt]) (by rw [List.all_cons, hp]; rfl)]; rfl) (fun h _ => ⟨.machine, .inr (.inl rfl), Looks.of_pure rfl⟩) ?_
  rw [starEach_plain hp]
  refine evalArgs_plain (spliced_cons (wp_ev (he A env g1 s1 E rm o (bs.trans x1.gg) (q.step x1)) fun v g2 s2 k2 x2 p2 => ?_))
  have bs2 := (bs.trans x1.gg).trans x2.gg
  have q2 := (q.step x1).step x2
  rw [starEach_plain (e := .Tuple [.Name a pa, .Name b pb] n pt) rfl]
  show wpAny _ _ (spliced ((false, eval (.Tuple [.Name a pa, .Name b pb] n pt) env) :: backTo pos (starEach [] env))) _ _ _
  refine spliced_cons (Tuple_ ?_)
  rw [starEach_plain (e := .Name a pa) rfl, starEach_plain (e := .Name b pb) rfl]
  show wpAny _ _ (spliced ((false, eval (.Name a pa) env) :: (false, eval (.Name b pb) env) :: backTo pt (starEach [] env))) _ _ _
  refine spliced_cons (wp_ev (h1 A env g2 s2 E rm o bs2 q2) fun v1 g3 s3 k3 x3 p3 => spliced_cons (wp_ev (h2 A env g3 s3 E rm o (bs2.trans x3.gg) (q2.step x3)) fun v2 g4 s4 k4 x4 p4 => wpAny_items_nil ?_))
  subst p3; subst p4
  refine wpAny_newObj_type (wpAny_items_nil ⟨trivial, ?_⟩)
  have x5 := step_push (o := { cls := .type "tuple", data := .seq (List.toArray [Value.type "list", Value.type "tuple"]) }) (x1.trans (x2.trans (x3.trans x4)))
  have k5 : Keeps s { s4 with heap := s4.heap.push { cls := .type "tuple", data := .seq (List.toArray [Value.type "list", Value.type "tuple"]) } } := kp_trans k1 (kp_trans k2 (kp_trans k3 (kp_trans k4 (kp_mk (Sub.push .rfl _)))))
  refine IsiPair.tupleOfB (Tx := Tx) (b := b1 || b2) (ha g2 v p2) (hty g2 v _ p2 ((x2.gh.trans (x3.hh.trans x4.hh)).trans (Sub.push .rfl _))) (Heap.get?_push_size _ rfl) (by cases b1 <;> cases b2 <;> rfl) fun tk => ?_
  exact .trans k5 x5 (Post.tok x5.gh (.bool _))

/-- a kind of row: its data, its items, and what the language does with them -/
structure SeqK (X : Cx) (mk : List Int → Dat) (it : Int → Dat) (ok : List Int → Prop) : Prop where
  lt : ∀ {A : Around} {E : Value → Shared → Prop} {Q : Value → Shared → Prop} {s : Shared} {g : Heap} {u v : Value} {a b : List Int}, ok a → ok b → A.units < cLine → Sub g s.heap → Rep g u (mk a) → Rep g v (mk b) → Q (.bool (decide (a < b))) s → wpAny X.M A (richCompare .Lt u v) Q E s
  gt : ∀ {A : Around} {E : Value → Shared → Prop} {Q : Value → Shared → Prop} {s : Shared} {g : Heap} {u v : Value} {a b : List Int}, ok a → ok b → A.units < cLine → Sub g s.heap → Rep g u (mk a) → Rep g v (mk b) → Q (.bool (decide (b < a))) s → wpAny X.M A (richCompare .Gt u v) Q E s
  enum : ∀ (k : Nat) (g : Heap) (s : Shared) (v : Value) (a : List Int), ok a → Sub g s.heap → Rep g v (mk a) → EnumOf X k g s v (a.map it)
  item : ∀ {k : Nat} {sc : Scope} {σ : Sto} {z : Str} {pz : Pos} {y : Str} {p pos : Pos} {a : List Int} {i : Nat} {c : Int}, ok a → Ev X k sc σ (.Name z pz) (mk a) → Ev X k sc σ (.Name y p) (.int i) → a[i]? = some c → (i : Int) < 2 ^ 62 → Ev X k sc σ (.Subscript (.Name z pz) (.Name y p) pos) (it c)
  ne : ∀ (k : Nat) (a b : List Int) (i j : Int), ok a → ok b → i ∈ a → j ∈ b → Op2 X k (compareOp .NotEq) (it i) (it j) (.bool (i != j))
  slice : ∀ {k : Nat} {sc : Scope} {σ : Sto} {z : Str} {pz : Pos} {y : Str} {p ps pos : Pos} {a : List Int} {i : Nat}, ok a → Ev X k sc σ (.Name z pz) (mk a) → Ev X k sc σ (.Name y p) (.int i) → Ev X k sc σ (.Subscript (.Name z pz) (.Slice Option.none (Option.some (.Name y p)) Option.none ps) pos) (mk (a.take i))

/-- lists of ints -/
def dInts (ns : List Int) : List Dat := ns.map .int
def dList (ns : List Int) : Dat := .list (dInts ns)
theorem intsAre_of : ∀ {ns : List Int} {g : Heap} {vs : List Value}, RepAll g vs (dInts ns) → IntsAre vs ns
  | [], _, _, .nil => .nil
  | n :: ns, _, _, .cons (.int _ t) r => .cons _ _ (intsAre_of r)
def okL (ns : List Int) : Prop := ns.length ≤ sizeLine
theorem seqK_list (X : Cx) : SeqK X dList .int okL where
  lt := by
    intro A E Q s g u v a b _ _ hu kk r1 r2 h
    cases r1 with
    | list i1 r1 =>
      cases r2 with
      | list i2 r2 => exact rc_list_lt (isList_sub kk i1) (isList_sub kk i2) (intsAre_of r1) (intsAre_of r2) hu h
  gt := by
    intro A E Q s g u v a b _ _ hu kk r1 r2 h
    cases r1 with
    | list i1 r1 =>
      cases r2 with
      | list i2 r2 => exact rc_list_gt (isList_sub kk i1) (isList_sub kk i2) (intsAre_of r1) (intsAre_of r2) hu h
  enum := by
    intro k g s v a _ kk r
    cases r with
    | list i r => exact enumOf_list kk i r
  item := by
    intro k sc σ z pz y p pos a i c _ hv hi hc hb
    exact Ev.item hv hi (by omega) (by omega) (by simp [dInts, hc])
  ne := fun k a b i j _ _ _ _ => op_ne
  slice := by
    intro k sc σ z pz y p ps pos a i ho hv hi
    refine (Ev.slice hv .none (.some hi) (by simpa [dInts] using (show a.length ≤ sizeLine from ho))).to ?_
    rw [cut_upto]; simp [dList, dInts]

/-- the rows stand in a list or a tuple -/
def Cont (mk : List Int → Dat) (rows : List (List Int)) (d : Dat) : Prop := d = .list (rows.map mk) ∨ d = .tuple (rows.map mk)
theorem rowAt_get {rows : List (List Int)} {mk : List Int → Dat} {i : Nat} {d : Dat} (h : (rows.map mk)[i]? = some d) : d = mk (rowAt rows i) ∧ rowAt rows i ∈ rows := by
  rw [List.getElem?_map] at h
  cases e : rows[i]? with
  | none => rw [e] at h; cases h
  | some r =>
    rw [e] at h
    have hr : rowAt rows i = r := by simp [rowAt, e]
    rw [hr]
    exact ⟨by cases h; rfl, List.mem_of_getElem? e⟩
variable {mk : List Int → Dat} {it : Int → Dat} {ok : List Int → Prop}
theorem op_min (K : SeqK X mk it ok) {rows : List (List Int)} {d : Dat} (hc : Cont mk rows d) (hn : rows ≠ []) (ho : ∀ r ∈ rows, ok r) : OpN X (k + 2) (fun vs => call (.builtin "min") vs) [d] fun g v => Rep g v (mk (minRow rows)) := by
  intro g s vs b0 kk r A E rm
  cases r with
  | cons r rn =>
    cases rn
    have hn' : 0 < (rows.map mk).length := by rw [List.length_map]; exact List.length_pos_iff.mpr hn
    refine wpAny_mono (min_iter (k := k) (bt := btLt rows) rm kk (iterOf_dat kk r hc) hn' ?_) (fun v s' x => x.mono fun g' ⟨d', e, r'⟩ => ?_) fun _ _ y => y
    · intro A' i j vi vj s' Q E' rm' kk' ⟨di, ei, ri⟩ ⟨dj, ej, rj⟩ hq
      obtain ⟨e1, m1⟩ := rowAt_get ei
      obtain ⟨e2, m2⟩ := rowAt_get ej
      subst e1; subst e2
      exact K.lt (ho _ m1) (ho _ m2) (by have := rm'.un; omega) kk' ri rj hq
    · rw [List.length_map] at e
      obtain ⟨e1, _⟩ := rowAt_get e
      subst e1
      exact r'
theorem op_max (K : SeqK X mk it ok) {rows : List (List Int)} {d : Dat} (hc : Cont mk rows d) (hn : rows ≠ []) (ho : ∀ r ∈ rows, ok r) : OpN X (k + 2) (fun vs => call (.builtin "max") vs) [d] fun g v => Rep g v (mk (maxRow rows)) := by
  intro g s vs b0 kk r A E rm
  cases r with
  | cons r rn =>
    cases rn
    have hn' : 0 < (rows.map mk).length := by rw [List.length_map]; exact List.length_pos_iff.mpr hn
    refine wpAny_mono (max_iter (k := k) (bt := btGt rows) rm kk (iterOf_dat kk r hc) hn' ?_) (fun v s' x => x.mono fun g' ⟨d', e, r'⟩ => ?_) fun _ _ y => y
    · intro A' i j vi vj s' Q E' rm' kk' ⟨di, ei, ri⟩ ⟨dj, ej, rj⟩ hq
      obtain ⟨e1, m1⟩ := rowAt_get ei
      obtain ⟨e2, m2⟩ := rowAt_get ej
      subst e1; subst e2
      exact K.gt (ho _ m1) (ho _ m2) (by have := rm'.un; omega) kk' ri rj hq
    · rw [List.length_map] at e
      obtain ⟨e1, _⟩ := rowAt_get e
      subst e1
      exact r'
end
end Mine

namespace Mine
open PySem PySem.W PyProof.Rows PySem.Calls
set_option Elab.async false
set_option maxRecDepth 100000
set_option linter.unusedVariables false

mutual
theorem Rep.reads {h : Heap} : ∀ {v : Value} {d : Dat} (n : Nat), Rep h v d → kqdOk n d = true → ∃ as, Reads h v (kqdP d) as
  | _, _, _, .none, _ => ⟨_, Reads.none⟩
  | _, _, _, .bool b, _ => ⟨_, Reads.bool b⟩
  | _, _, _, .int i t, _ => ⟨_, Reads.int i t⟩
  | _, _, _, .str x t, _ => ⟨_, Reads.str x t⟩
  | _, _, n, .bytes _ _, hk => by cases n <;> simp [kqdOk] at hk
  | _, _, 0, .tuple _ _, hk => by simp [kqdOk] at hk
  | _, _, 0, .list _ _, hk => by simp [kqdOk] at hk
  | _, _, n + 1, .tuple ⟨_, ho⟩ r, hk => by
    obtain ⟨as, q⟩ := RepAll.reads n r (by simpa [kqdOk] using hk)
    rw [kqdP]
    exact ⟨as, reads_tuple_at ho rfl rfl (by simpa using q)⟩
  | _, _, n + 1, .list ⟨_, ho⟩ r, hk => by
    obtain ⟨as, q⟩ := RepAll.reads n r (by simpa [kqdOk] using hk)
    rw [kqdP]
    exact ⟨_, reads_list_at ho rfl rfl (by simpa using q)⟩
theorem RepAll.reads {h : Heap} : ∀ {vs : List Value} {ds : List Dat} (n : Nat), RepAll h vs ds → (∀ d ∈ ds, kqdOk n d = true) → ∃ as, ReadsAll h vs (kqdPs ds) as
  | _, _, _, .nil, _ => ⟨_, ReadsAll.nil⟩
  | _, _, n, .cons hd r, hk => by
    obtain ⟨as, q⟩ := Rep.reads n hd (hk _ (.head _))
    obtain ⟨bs, p⟩ := RepAll.reads n r fun d hm => hk d (.tail _ hm)
    rw [kqdPs]
    exact ⟨_, ReadsAll.cons q p⟩
end
theorem shaped_of {d : Dat} (h : kqdOk 9 d = true) : SeqAt.shaped (kqdP d) = true := by
  have l := kqd_lay 9 d h
  unfold SeqAt.shaped; rw [l.1, Bool.true_and]; exact decide_eq_true (Nat.le_trans l.2 (by decide))

section
variable {X : Cx} {k : Nat} {sc : Scope} {σ τ : Sto}
theorem eqv_is {d e : Dat} {b : Bool} (hd : kqdOk 9 d = true) (he : kqdOk 9 e = true) (hb : b = true ↔ d = e) : PyData.eqv (kqdP d) (kqdP e) = b := by
  have q := kqd_eqv 9 d e 9 hd he
  cases b with
  | true => exact q.mpr (hb.mp rfl)
  | false => exact Bool.eq_false_iff.mpr fun x => absurd (hb.mpr (q.mp x)) (by decide)
/-- d == e of data -/
theorem op_eqD {d e : Dat} {b : Bool} (hd : kqdOk 9 d = true) (he : kqdOk 9 e = true) (hb : b = true ↔ d = e) : Op2 X k (compareOp .Eq) d e (.bool b) := by
  intro g s u v b0 kk hu hv A E rm
  obtain ⟨as, ra⟩ := (hu.sub kk).reads 9 hd
  obtain ⟨bs, rb⟩ := (hv.sub kk).reads 9 he
  exact eq_dataH ra rb (shaped_of hd) (shaped_of he) (by have := rm.un; omega) (by rw [eqv_is hd he hb]; exact Post.here kk (.bool _))
theorem dList_ok {n : Nat} {ns : List Int} : kqdOk (n + 1) (dList ns) = true := by
  unfold dList dInts kqdOk
  rw [List.all_eq_true]
  intro d hd
  obtain ⟨i, _, rfl⟩ := List.mem_map.mp hd
  cases n <;> rfl
theorem dList_inj {a b : List Int} (h : dList a = dList b) : a = b := by
  unfold dList dInts at h
  have h' := Dat.list.inj h
  exact (List.map_inj_right (fun x y e => Dat.int.inj e)).mp h'
/-- the least of whole numbers -/
def maxI (ns : List Int) : Int := ns.getD (argBest (fun i j => decide (ns.getD j 0 < ns.getD i 0)) (ns.length - 1)) 0
theorem maxI_ge {ns : List Int} {x : Int} (h : x ∈ ns) : x ≤ maxI ns := by
  obtain ⟨i, hi, rfl⟩ := List.getElem_of_mem h
  have := argBest_spec (bt := fun i j => decide (ns.getD j 0 < ns.getD i 0)) (fun i j k h1 h2 => by simp only [decide_eq_true_eq] at *; omega) (fun i => by simp) (ns.length - 1) i (by omega)
  simp only [decide_eq_false_iff_not] at this
  have e : ns.getD i 0 = ns[i] := by simp [hi]
  rw [e] at this
  unfold maxI
  omega
theorem best_mem {ns : List Int} (bt : Nat → Nat → Bool) (h : ns ≠ []) : ns.getD (argBest bt (ns.length - 1)) 0 ∈ ns := by
  have h0 : 0 < ns.length := List.length_pos_iff.mpr h
  have h1 := argBest_le bt (ns.length - 1)
  have h2 : argBest bt (ns.length - 1) < ns.length := by omega
  have e : ns.getD (argBest bt (ns.length - 1)) 0 = ns[argBest bt (ns.length - 1)] := by simp [h2]
  rw [e]
  exact List.getElem_mem h2
theorem maxI_mem {ns : List Int} (h : ns ≠ []) : maxI ns ∈ ns := best_mem _ h
theorem maxI_is {ns : List Int} {m : Int} (h1 : m ∈ ns) (h2 : ∀ x ∈ ns, x ≤ m) : maxI ns = m := by
  have := maxI_ge h1
  have := h2 _ (maxI_mem (List.ne_nil_of_mem h1))
  omega
theorem dInts_get {ns : List Int} {i : Nat} {d : Dat} (h : (dInts ns)[i]? = some d) : d = .int (ns.getD i 0) := by
  unfold dInts at h
  rw [List.getElem?_map] at h
  cases e : ns[i]? with
  | none => rw [e] at h; cases h
  | some r =>
    rw [e] at h
    cases h
    simp [e]
theorem maxI_iter {g : Heap} {s : Shared} {xv : Value} {ns : List Int} {A : Around} {E : Value → Shared → Prop} (rm : Room A (k + 2)) (kk : Sub g s.heap) (hit : IterOf X k g s xv (dInts ns)) (hn : ns ≠ []) : wpAny X.M A (call (.builtin "max") [xv]) (Post g s fun g' v => Rep g' v (.int (maxI ns))) E s := by
  have hn' : 0 < (dInts ns).length := by unfold dInts; rw [List.length_map]; exact List.length_pos_iff.mpr hn
  refine wpAny_mono (max_iter (k := k) (bt := fun i j => decide (ns.getD j 0 < ns.getD i 0)) rm kk hit hn' ?_) (fun v s' x => x.mono fun g' ⟨d', e, r'⟩ => ?_) fun _ _ y => y
  · intro A' i j vi vj s' Q E' rm' kk' ⟨di, ei, ri⟩ ⟨dj, ej, rj⟩ hq
    rw [dInts_get ei] at ri
    rw [dInts_get ej] at rj
    cases ri; cases rj
    exact PyProof.Rows.gt_int hq
  · have e' := dInts_get e
    unfold dInts at e'
    rw [List.length_map] at e'
    rw [e'] at r'
    exact r'
end
end Mine

namespace Mine
open PySem PySem.W PyProof.Rows PySem.Calls
set_option Elab.async false
set_option maxRecDepth 100000
set_option linter.unusedVariables false

theorem Caps.nil {sc scope : Scope} {τ : Sto} : Caps sc scope τ [] := ⟨fun y d e => by simp at e, fun y u e => by simp at e, fun y P mp e => by simp at e⟩
theorem Caps.cons {sc scope : Scope} {τ cap : Sto} {y : Str} {d : Dat} (e : τ.lookup y = some (.dat d)) (r : Caps sc scope τ cap) (h1 : ((y, NameKind.free) ∈ scope.names) := by decide) (h2 : scope.names.lookup y = some .free := by rfl)
    (h3 : sc.names.lookup y = some .cell := by rfl) : Caps sc scope τ ((y, .dat d) :: cap) := by
  refine ⟨fun z d' h => ?_, fun z u h => ?_, fun z P mp h => ?_⟩
  · rw [List.lookup_cons] at h
    by_cases q : z = y
    · subst q
      simp only [beq_self_eq_true] at h
      cases h
      exact ⟨e, h1, h2, h3⟩
    · have : (z == y) = false := by simpa using q
      rw [this] at h
      exact r.sub z d' h
  · rw [List.lookup_cons] at h
    by_cases q : z = y
    · subst q
      simp only [beq_self_eq_true] at h
      cases h
    · have : (z == y) = false := by simpa using q
      rw [this] at h
      exact r.noval z u h
  · rw [List.lookup_cons] at h
    by_cases q : z = y
    · subst q
      simp only [beq_self_eq_true] at h
      cases h
    · have : (z == y) = false := by simpa using q
      rw [this] at h
      exact r.obj z P mp h
section
variable {X : Cx} {k : Nat} {sc scope : Scope} {τ cap : Sto} {α : Type} {l : List α} {toD f : α → Dat} {p : α → Bool}
theorem elts_map {x : Str} {elt : Expr} (el : ∀ a ∈ l, Ev X k (relabelS scope sc) ((x, .dat (toD a)) :: cap) elt (f a)) : Elts X k sc scope cap x [] elt (l.map toD) (l.map fun a => some (f a)) where
  len := by simp
  some_ := fun i d y h1 h2 => by
    rw [List.getElem?_map] at h1 h2
    cases e : l[i]? with
    | none => rw [e] at h1; cases h1
    | some a =>
      rw [e] at h1 h2
      cases h1; cases h2
      exact ⟨.inl ⟨rfl, rfl⟩, el a (List.mem_of_getElem? e)⟩
  none_ := fun i d h1 h2 => by
    rw [List.getElem?_map] at h2
    cases e : l[i]? with
    | none => rw [e] at h2; cases h2
    | some a => rw [e] at h2; cases h2
theorem fm_map : ∀ (l : List α), (l.map fun a => some (f a)).filterMap id = l.map f
  | [] => rfl
  | a :: l => by simp
theorem Ev.compMap {x : Str} {px pos : Pos} {elt iter : Expr} (hit : Its X k sc τ iter (l.map toD)) (cap : Sto) (c : CompOk sc scope) (cp : Caps sc scope τ cap) (hx : scope.names.lookup x = some .local)
    (el : ∀ a ∈ l, Ev X k (relabelS scope sc) ((x, .dat (toD a)) :: cap) elt (f a)) (hz : l.length ≤ sizeLine) : Ev X k sc τ (.ListComp elt [⟨.Name x px, iter, [], 0⟩] scope pos) (.list (l.map f)) :=
  (Ev.comp hit cap c cp hx (elts_map el) (by simpa using hz)).to (by rw [fm_map])
theorem CompOk.of {sc scope : Scope} (h1 : scope.kind = .function := by rfl) (h2 : ∀ y ∈ scope.names, y.2 ≠ .cell := by decide) (h3 : (scope.names.all fun y => !(y.2 == .free) || sc.names.lookup y.1 == some .cell) = true := by rfl)
        (h4 : ∀ y ∈ scope.names, y.2 = .local → scope.names.lookup y.1 = some .local := by decide) (h5 : ∀ y ∈ scope.names, y.2 = .free → scope.names.lookup y.1 = some .free := by decide) : CompOk sc scope := ⟨h1, h2, fun y hy hf => by
    have := List.all_eq_true.mp h3 y hy
    rw [hf] at this
    simpa using this, h4, h5⟩
end
theorem fmodNat (a b : Nat) : (a : Int).fmod (b : Int) = ((a % b : Nat) : Int) := (Int.ofNat_fmod a b).symm
theorem fdivNat (a b : Nat) : (a : Int).fdiv (b : Int) = ((a / b : Nat) : Int) := (Int.ofNat_fdiv a b).symm
end Mine

namespace Mine
open PySem PySem.W PyProof.Rows PySem.Calls
set_option Elab.async false
set_option maxRecDepth 100000
set_option linter.unusedVariables false

theorem repAll_of_well {P : Params} {h : Heap} : ∀ {ns : List Int} {vs : List Value}, WellAll P h vs (ofPys (ns.map PyData.int)) → RepAll h vs (dInts ns)
  | [], _, .nil => .nil
  | n :: ns, _, .cons (.int _ t) r => .cons (.int _ t) (repAll_of_well r)
theorem rep_of_well {P : Params} {h : Heap} {l : Addr} {ns : List Int} (w : Well P h (.ref l) (ofPy (PyData.list (ns.map PyData.int)))) : Rep h (.ref l) (dList ns) := by
  have e : ofPy (PyData.list (ns.map PyData.int)) = .list (ofPys (ns.map PyData.int)) := by unfold ofPy; rfl
  rw [e] at w
  cases w with
  | list ho r => exact .list ⟨_, ho⟩ (repAll_of_well r)

theorem law_ends {X : Cx} {k : Nat} {f : Str} {ns : List Int} {c : ClaimW} {cl : Str → Option Addr} {mean : ExcName → Option Value} {args : List WData} {s₁ : Shared} {fa l : Addr} {A : Around} {E : Value → Shared → Prop}
    (hf : FnD X k f [dList ns] (.bool true)) (hfa : X.mg f = some (.ref fa)) (hX : X.h0 = s₁.heap) (r : Rep s₁.heap (.ref l) (dList ns)) (hg : s₁.gens = #[]) (rm : Room A k)
    (hr : ∀ cls, c.raises args cls = false) (hp : c.post args (.bool true) args = true) :
    wpAny X.M A (call (.ref fa) [.ref l]) (fun v s' => GoodWG c cl mean args s₁ (.ok (.ret v)) s') E s₁ := by
  obtain ⟨a, o, fd, h1, h2, h3, hop⟩ := hf
  have e : a = fa := by rw [hfa] at h1; cases h1; rfl
  subst e
  refine wpAny_mono (hop s₁.heap s₁ [.ref l] (hX ▸ .rfl) .rfl (.one r) A E rm) (fun v s' x => ?_) fun _ _ y => y
  obtain ⟨k1, g', x1, p⟩ := x
  cases p
  obtain ⟨h', tk, rfl, kp⟩ := k1
  exact GoodW.toG ⟨.inl ⟨_, .bool true, [], rfl, hr, .bool true, hp, fun _ => ⟨List.nodup_nil, fun _ h => (nomatch h)⟩⟩, kp, rfl, hg⟩
theorem free_of {p : Program} {loose : List Str} {mean : ExcName → Option Value} {mg mb : Str → Option Value} {h : Heap} (T : Top p loose mean mg mb h) (x : Str)
    (hx : decide (x ∉ startupNames ∧ x ∉ loose ∧ x ∉ (recsOf p).map (·.name) ∧ x ∉ (litsOf p).map (·.1) ∧ x ∉ (clssOf p loose).map (·.name)) = true) : mg x = none := by
  obtain ⟨h1, h2, h3, h4, h5⟩ := of_decide_eq_true hx
  exact T.free x h1 h2 h3 h4 h5
theorem fn_of {p : Program} {loose : List Str} {mean : ExcName → Option Value} {mg mb : Str → Option Value} {h : Heap} (T : Top p loose mean mg mb h) (x : Str) {d : DefRec} (hd : (recsOf p).find? (fun d => decide (d.name = x)) = some d) :
    ∃ a o pm code doc, mg d.name = some (.ref a) ∧ h.get? a = some o ∧ o.data = .func (docDef d.name d.params d.body d.scope pm code doc) ∧ h.CodeRec code d.name := T.fn d (List.mem_of_find?_eq_some hd)
end Mine

namespace Mine
open PySem PySem.W PyProof.Rows PySem.Calls
set_option Elab.async false
set_option maxRecDepth 100000
set_option linter.unusedVariables false

/-- a map over a list, as it stands -/
structure IsMap (h : Heap) (M T I l : Addr) (f : Value) (i : Nat) (items : Array Value) : Prop where
  m : h.get? M = some { cls := .type "map", data := .fields #[.ref T, f] }
  t : h.get? T = some { cls := .type "tuple", data := .seq #[.ref I] }
  it : h.IsListIter I l i
  l : h.IsList l items

end Mine

namespace Mine
open PySem PySem.W PyProof.Rows PySem.Calls
set_option Elab.async false
set_option maxRecDepth 100000
set_option linter.unusedVariables false

section
variable {X : Cx} {k : Nat} {sc : Scope} {σ : Sto}
end
end Mine

namespace Mine
open PySem PySem.W PyProof.Rows PySem.Calls
set_option Elab.async false
set_option maxRecDepth 100000
set_option linter.unusedVariables false

section
variable {prog : Program} {w : World} {A : Around} {E : Value → Shared → Prop} {s : Shared}
end

section
variable {X : Cx} {k : Nat} {sc : Scope} {σ τ : Sto}
end
end Mine

namespace Mine
open PySem PySem.W PyProof.Rows PySem.Calls
set_option Elab.async false
set_option maxRecDepth 100000
set_option linter.unusedVariables false

section
variable {X : Cx} {k : Nat} {sc : Scope} {σ τ : Sto}
theorem op_eqS {x y : Str} : Op2 X k (compareOp .Eq) (.str x) (.str y) (.bool (x == y)) := by
  intro g s u v b0 kk hu hv; cases hu; cases hv
  exact Does.tok kk fun A E Q r h => PyProof.Rows.eq_str (h _ _ (.bool _))
end
end Mine

namespace Mine
open PySem PySem.W PyProof.Rows PySem.Calls
set_option Elab.async false
set_option maxRecDepth 100000
set_option linter.unusedVariables false

/-- names that the text leaves to the language -/
structure Free (X : Cx) : Prop where
  len : X.mg "len" = none
  min : X.mg "min" = none
  max : X.mg "max" = none
  isinstance : X.mg "isinstance" = none
  list : X.mg "list" = none
  tuple : X.mg "tuple" = none
  enumerate : X.mg "enumerate" = none
  range : X.mg "range" = none
  map : X.mg "map" = none
  type : X.mg "type" = none
  issubclass : X.mg "issubclass" = none
  str : X.mg "str" = none
  bytes : X.mg "bytes" = none
  abs : X.mg "abs" = none
  divmod : X.mg "divmod" = none
  sorted : X.mg "sorted" = none
  sum : X.mg "sum" = none
  set : X.mg "set" = none
  ord : X.mg "ord" = none

end Mine

namespace Mine
open PySem PySem.W PyProof.Rows PySem.Calls
set_option Elab.async false
set_option maxRecDepth 100000
set_option linter.unusedVariables false

section
variable {X : Cx} {k : Nat}
theorem op_divmod {a b : Int} (hb : b ≠ 0) (hs : b.natAbs < 1073741824) : OpN X k (fun vs => call (.builtin "divmod") vs) [.int a, .int b] fun g v => Rep g v (.tuple [.int (a.fdiv b), .int (a.fmod b)]) := by
  intro g s vs b0 kk r A E rm
  cases r with
  | cons r1 r =>
    cases r with
    | cons r2 r =>
      cases r; cases r1; cases r2
      refine divmod_int hb ?_ (.inl (PyProof.noPylong_small hs))
      have := post_newTuple (g := g) (g' := g) (s := s) (s' := { s with toks := s.toks + 1 + 1 }) kp_tok (.rfl kk) (vs := [.int (a.fdiv b) s.toks, .int (a.fmod b) (s.toks + 1)]) (.cons (.int _ _) (.cons (.int _ _) .nil))
      exact this
theorem op_abs {a : Int} : OpN X k (fun vs => call (.builtin "abs") vs) [.int a] fun g v => Rep g v (.int (a.natAbs : Nat)) := by
  intro g s vs b0 kk r A E rm
  cases r with
  | cons r1 r =>
    cases r; cases r1
    refine call_abs_int fun u tk => ?_
    have e : (if a < 0 then -a else a) = ((a.natAbs : Nat) : Int) := by split <;> omega
    rw [e]
    exact Post.tok kk (.int _ _)
theorem op_max2 {a b : Int} : OpN X k (fun vs => call (.builtin "max") vs) [.int a, .int b] fun g v => Rep g v (.int (max a b)) := by
  intro g s vs b0 kk r A E rm
  cases r with
  | cons r1 r =>
    cases r with
    | cons r2 r =>
      cases r; cases r1; cases r2
      refine max_two_ints rm.hh fun h' tk hk => ?_
      refine ⟨kp_mk hk, g, ⟨.rfl, hk, kk.trans hk, fun _ _ e => .inl e⟩, ?_⟩
      split
      · rw [show max a b = b by omega]; exact .int _ _
      · rw [show max a b = a by omega]; exact .int _ _
end

theorem rep2 {h : Heap} {vs : List Value} {d0 d1 : Dat} : RepAll h vs [d0, d1] → ∃ v0 v1 : Value, vs = [v0, v1] ∧ Rep h v0 d0 ∧ Rep h v1 d1
  | .cons (v := v0) r0 (.cons (v := v1) r1 (.nil)) => ⟨v0, v1, rfl, r0, r1⟩
section
variable {X : Cx} {k : Nat} {sc : Scope} {τ : Sto} {s₀ s : Shared} {g₀ g : Heap} {env : Env} {H : List (Addr × Obj)} {m cm : Str → Option Value}
/-- a, b = e -/
theorem Ex.assignT2 {a b : Str} {pa pb pt pos : Pos} {n : Nat} {e : Expr} {d0 d1 : Dat} {R : Out → Prop} (h : Ev X k sc τ e (.tuple [d0, d1])) (hr : R (.next (upd b (.dat d1) (upd a (.dat d0) τ)))) (ha : canStore sc a = true := by rfl) (hb : canStore sc b = true := by rfl)
    (hs : ∀ env, swapsWithSole [.Tuple [.Name a pa, .Name b pb] n pt] e pos.line env = pure false := by intro _; rfl) (hw : ∀ env, EnvOk env sc → swappedStores [.Tuple [.Name a pa, .Name b pb] n pt] e env = pure Option.none := by intro _ _; rfl) :
    Ex X k sc τ (exec (.Assign [.Tuple [.Name a pa, .Name b pb] n pt] e pos)) R := by
  intro A env s₀ g₀ H g m cm s E r o b F
  refine Assign_Tuple (wp_ev (h A env g s E r o (b.trans F.st.gg) F.sto) fun v g' s' k1 x1 p1 => ?_) (hs env) (hw env o)
  have F1 := F.ev k1 x1
  cases p1 with
  | tuple it rr =>
    obtain ⟨v0, v1, he, r0, r1⟩ := rep2 rr
    subst he
    exact wp_assign2 F1 o r (isTup_sub x1.gh it) r0 r1 ha hb fun m' cm' s'' F' => ⟨_, g', m', cm', hr, F'⟩

end

section
variable {X : Cx} {k : Nat} {sc : Scope} {τ : Sto} {s₀ s : Shared} {g₀ g : Heap} {env : Env} {H : List (Addr × Obj)} {m cm : Str → Option Value}
end
end Mine

namespace Mine
open PySem PySem.W PyProof.Rows PySem.Calls
set_option Elab.async false
set_option maxRecDepth 100000
set_option linter.unusedVariables false

section
variable {X : Cx} {k : Nat} {sc : Scope} {σ τ : Sto} {s₀ s : Shared} {g₀ g : Heap} {env : Env} {H : List (Addr × Obj)} {m cm : Str → Option Value}

theorem iterOf_strK {x : Str} {t : Tok} {n : String} (kk : Sub g s.heap) (hn : ownedNames.contains n = false)
    (hit : ∀ (A : Around) (E : Value → Shared → Prop) (Q : Value → Shared → Prop), Q (.ref s.heap.objs.size) { s with heap := s.heap.push { cls := .type n, data := .fields #[.str x t, .int 0 0] } } → wpAny X.M A (pyIter (.str x t)) Q E s)
    (hw : ∀ A', A'.handled = none → Walks X.prog X.w A' s.heap.objs.size [s.heap.objs.size] [s.heap.objs.size] x.cps.size (SignAt x) (fun i h => h.IsStrIter s.heap.objs.size n x t i)) : IterOf X k g s (.str x t) (chars x) := by
  intro A E rm
  have hl : (chars x).length = x.cps.size := by simp [chars]
  refine hit A E _ ⟨kp_mk (Sub.push .rfl _), s.heap.objs.size, [s.heap.objs.size], [s.heap.objs.size], SignAt x, (fun i h => h.IsStrIter s.heap.objs.size n x t i), rfl, ?_⟩
  exact {
    walks := fun A' hA => hl ▸ hw A' hA
    start := ⟨_, Heap.get?_push_size _ rfl, rfl, rfl⟩
    low := fun b hb => by
      show b < (s.heap.push _).objs.size
      rw [Heap.size_push, List.mem_singleton.mp hb]
      exact Nat.lt_succ_self _
    fresh := fun b hb => by rw [List.mem_singleton.mp hb]; exact fresh_size
    live := fun i h st b hb => by
      obtain ⟨o, ho, _⟩ := st
      rw [List.mem_singleton.mp hb, ho]; rfl
    foot := fun b hb => .inl hb
    item := fun i v hv => by
      obtain ⟨c, u, hc, rfl⟩ := hv
      exact ⟨.str ⟨#[c]⟩, by simp [chars, hc], .str _ _⟩
    own := fun i A' E' target v s' Q st q => by
      obtain ⟨o, ho, hc, _⟩ := st
      exact letOwned_ok ho hc hn q }
theorem iterOf_str {x : Str} {t : Tok} (kk : Sub g s.heap) : IterOf X k g s (.str x t) (chars x) := by
  cases ha : x.cps.all (· < 128)
  · exact iterOf_strK (n := "str_iterator") kk (by decide) (fun A E Q h => wpAny_pyIter_wide ha h) fun A' hA => Walks.strWide hA _ x t
  · exact iterOf_strK (n := "str_ascii_iterator") kk (by decide) (fun A E Q h => wpAny_pyIter_ascii ha h) fun A' hA => Walks.strAscii hA _ x t
theorem Its.str {e : Expr} {x : Str} (h : Ev X k sc σ e (.str x)) (hs : ∀ env x, foldedSetIterable e env x = pure x := by intro _ _; rfl) : Its X k sc σ e (chars x) :=
  ⟨h.mono fun g v r s kk => by cases r; exact iterOf_str kk, hs⟩
/-- x = e, e some datum -/
theorem Ex.assignP {x : Str} {px pos : Pos} {e : Expr} {P : Dat → Prop} {R : Out → Prop} (h : EvP X k sc τ e fun g v => ∃ d, P d ∧ Rep g v d) (hr : ∀ d, P d → R (.next (upd x (.dat d) τ))) (hx : canStore sc x = true := by rfl)
    (hs : ∀ env, swapsWith e (some (.Name x px)) pos.line env = pure false := by intro _; rfl) : Ex X k sc τ (exec (.Assign [.Name x px] e pos)) R := by
  intro A env s₀ g₀ H g m cm s E r o b F
  refine wpAny_Assign_Name (wp_ev (h A env g s E r o.toEnvOk (b.trans F.st.gg) F.sto) fun v g' s' k1 x1 ⟨d, hd, p1⟩ => ?_) (hs env)
  exact wp_store (lv := .dat d) (F.ev k1 x1) o.toEnvOk hx (o.cells x) p1 trivial fun m' cm' s'' F' => ⟨_, g', m', cm', hr d hd, F'⟩
/-- a datum of the state may be read -/
theorem intBits_small {a : Int} (h : a.natAbs < 2 ^ 64) : Builtin.Int.intBits a ≤ 64 := by
  unfold Builtin.Int.intBits
  split
  · exact Nat.zero_le _
  · rename_i h0
    have h0' : a.natAbs ≠ 0 := by
      intro q
      have : a = 0 := by omega
      subst this
      exact h0 rfl
    have := (Nat.log2_lt h0').mpr h
    omega
theorem mulOk {a b : Int} (h : a.natAbs < 2 ^ 64) : IntMulOk a b := .of_left (intBits_small h)
theorem dInts_length {ns : List Int} : (dInts ns).length = ns.length := by simp [dInts]
theorem small : ∀ n : Nat, n ≤ 4096 → n ≤ sizeLine := fun n h => Nat.le_trans h (by decide)
end
end Mine

namespace Mine
open PySem PySem.W PyProof.Rows PySem.Calls
set_option Elab.async false
set_option maxRecDepth 100000
set_option linter.unusedVariables false

section
variable {N : Nat} {key : Nat → List Int} {cmp : Nat → Nat → (Bool → Shared → Prop) → Shared → Prop} {I : Shared → Prop}

/-- the questions are answered by the keys -/
def Tells (N : Nat) (key : Nat → List Int) (I : Shared → Prop) (cmp : Nat → Nat → (Bool → Shared → Prop) → Shared → Prop) : Prop :=
  ∀ (i j : Nat) (C : Bool → Shared → Prop) (s : Shared), i < N → j < N → I s → (∀ s', I s' → C (decide (key i < key j)) s') → cmp i j C s
structure Pm (N : Nat) (p : Array Nat) : Prop where
  perm : p.toList.Perm (List.range N)
theorem Pm.size {p : Array Nat} (h : Pm N p) : p.size = N := by
  have := h.perm.length_eq
  rw [List.length_range, Array.length_toList] at this
  exact this
theorem Pm.lt {p : Array Nat} (h : Pm N p) (hN : 0 < N) (x : Nat) : p.getD x 0 < N := by
  by_cases hx : x < p.size
  · have e : p.getD x 0 = p[x] := by simp [Array.getD, hx]
    rw [e]
    have : p[x] ∈ p.toList := by simp
    exact List.mem_range.mp (h.perm.mem_iff.mp this)
  · have e : p.getD x 0 = 0 := by simp [Array.getD, hx]
    rw [e]; exact hN
def K (key : Nat → List Int) (p : Array Nat) (x : Nat) : List Int := key (p.getD x 0)
def Up (key : Nat → List Int) (p : Array Nat) (b : Nat) : Prop := ∀ i j, i < j → j < b → ¬ K key p j < K key p i
def Dn (key : Nat → List Int) (p : Array Nat) (b : Nat) : Prop := ∀ i j, i < j → j < b → ¬ K key p i < K key p j
theorem Up.last {p : Array Nat} {n i : Nat} (h : Up key p n) (hi : i < n) : ¬ K key p (n - 1) < K key p i := by
  rcases Nat.lt_or_ge i (n - 1) with h2 | h2
  · exact h i (n - 1) h2 (by omega)
  · have : i = n - 1 := by omega
    subst this
    exact List.lt_irrefl _
theorem Dn.last {p : Array Nat} {n i : Nat} (h : Dn key p n) (hi : i < n) : ¬ K key p i < K key p (n - 1) := by
  rcases Nat.lt_or_ge i (n - 1) with h2 | h2
  · exact h i (n - 1) h2 (by omega)
  · have : i = n - 1 := by omega
    subst this
    exact List.lt_irrefl _

variable (T : Tells N key I cmp) (hN : 0 < N)
include T hN
end
end Mine

namespace Mine
open PySem PySem.W PyProof.Rows PySem.Calls
set_option Elab.async false
set_option maxRecDepth 100000
set_option linter.unusedVariables false

section
variable {X : Cx} {k : Nat}

end
end Mine

namespace Mine
open PySem PySem.W PyProof.Rows PySem.Calls
set_option Elab.async false
set_option maxRecDepth 100000
set_option linter.unusedVariables false

/-- a kind of data that the language sorts as rows -/
structure SortK (X : Cx) (mk : List Int → Dat) (ok : List Int → Prop) (T : String) : Prop where
  lt : ∀ {A : Around} {E : Value → Shared → Prop} {Q : Bool → Shared → Prop} {s : Shared} {g : Heap} {u v : Value} {a b : List Int}, ok a → ok b → A.units + 1 < cLine → Sub g s.heap → Rep g u (mk a) → Rep g v (mk b) → Q (decide (a < b)) s → wpAny X.M A (keyLt' oneType' u v) Q E s
  ty : ∀ {g h : Heap} {v : Value} {a : List Int}, Rep g v (mk a) → Sub g h → Looks X.M h (typeOf v) (.type T)
  ok1 : (Value.type T != Value.type "tuple") = true
section
variable {X : Cx} {k : Nat} {mk : List Int → Dat} {ok : List Int → Prop} {T : String}
end
end Mine

namespace Mine
open PySem PySem.W PyProof.Rows PySem.Calls
set_option Elab.async false
set_option maxRecDepth 100000
set_option linter.unusedVariables false

section
variable {X : Cx} {k : Nat} {sc scope : Scope} {σ τ cap : Sto}
end
end Mine

namespace Mine
open PySem PySem.W PyProof.Rows PySem.Calls
set_option Elab.async false
set_option maxRecDepth 100000
set_option linter.unusedVariables false

section
variable {X : Cx} {k : Nat} {sc : Scope} {σ τ : Sto} {s₀ s : Shared} {g₀ g : Heap} {env : Env} {H : List (Addr × Obj)} {m cm : Str → Option Value}

/-- a name that holds an object of the frame's own -/
theorem wp_nameO {A : Around} {E : Value → Shared → Prop} {x : Str} {pos : Pos} {P : Addr → Obj → Heap → Prop} {mp} {Q : Value → Shared → Prop} (o : EnvOk env sc) (q : StoIn σ env g s) (e : σ.lookup x = some (.obj P mp)) (h : ∀ a ob, s.heap.get? a = some ob → P a ob g → Q (.ref a) s)
    (hd : (x == ("__debug__" : Str)) = false := by decide) (hn : (x == ("__classdict__" : Str)) = false := by decide) : wpAny X.M A (eval (.Name x pos) env) Q E s := by
  obtain ⟨a, ob, hv, ho, hp⟩ := q.obj x P mp e
  rcases hv with ⟨hl, m, ns, hm⟩ | ⟨hl, c, hc, hv⟩
  · exact wpAny_Name (wpAny_loadName_local o.ek hl ns hm (h a ob ho hp)) hd
  · rcases hl with hl | hl
    · exact wpAny_Name (wpAny_loadName_cell o.ek hl hc hv (h a ob ho hp)) hd
    · exact wpAny_Name (wpAny_loadName_free o.ek hl hc hv (h a ob ho hp) hn) hd

end
end Mine

namespace Mine
open PySem PySem.W PyProof.Rows PySem.Calls
set_option Elab.async false
set_option maxRecDepth 100000
set_option linter.unusedVariables false

/-- a table by texts -/
abbrev Tab := List (Str × Dat)
def keysV (al : Tab) (vs : List Value) : List (Str × Value) := (al.map (·.1)).zip vs
def tabP (X : Cx) (al : Tab) (a : Addr) (o : Obj) (g : Heap) : Prop := sysModules < a ∧ ∃ vs, o.IsDictOf (strKind X.prog X.w) (keysV al vs) ∧ RepAll g vs (al.map (·.2))
def LV.tab (X : Cx) (al : Tab) : LV := .obj (tabP X al) fun _ _ _ _ k ⟨b, vs, e, r⟩ => ⟨b, vs, e, r.sub k⟩
section
variable {X : Cx} {k : Nat} {sc : Scope} {σ τ : Sto}
end
end Mine

namespace Mine
open PySem PySem.W PyProof.Rows PySem.Calls
set_option Elab.async false
set_option maxRecDepth 100000
set_option linter.unusedVariables false
section
variable {X : Cx} {k : Nat} {sc : Scope} {σ τ : Sto}
end
end Mine

namespace Mine
open PySem PySem.W PyProof.Rows PySem.Calls
set_option Elab.async false
set_option maxRecDepth 100000
set_option linter.unusedVariables false

/-- g without one object -/
def without (g : Heap) (a : Addr) : Heap := keepOnly (fun b => b != a) g
theorem without_ne {g : Heap} {a b : Addr} (h : b ≠ a) : (without g a).get? b = g.get? b := by
  unfold without; rw [keepOnly_get]
  have : (b != a) = true := by simpa using h
  rw [this, if_pos rfl]
theorem without_self {g : Heap} {a : Addr} : (without g a).get? a = none := by
  unfold without; rw [keepOnly_get]
  simp
theorem without_sub {g : Heap} {a : Addr} : Sub (without g a) g := fun b o e => by
  by_cases h : b = a
  · subst h; rw [without_self] at e; cases e
  · rwa [without_ne h] at e
/-- an object that is no row -/
def NoSeq (o : Obj) : Prop := ∀ xs n, o.data ≠ .seq xs n
mutual
theorem Rep.without {g : Heap} {a : Addr} {o : Obj} (ho : g.get? a = some o) (hn : NoSeq o) : ∀ {v d}, Rep g v d → Rep (without g a) v d
  | _, _, .none => .none
  | _, _, .bool b => .bool b
  | _, _, .int i t => .int i t
  | _, _, .str x t => .str x t
  | _, _, .bytes b t => .bytes b t
  | _, _, .tuple (a := c) ⟨n, i⟩ r => .tuple ⟨n, by
      have : c ≠ a := fun q => by rw [q, ho] at i; cases i; exact hn _ _ rfl
      rw [without_ne this]; exact i⟩ (RepAll.without ho hn r)
  | _, _, .list (a := c) ⟨n, i⟩ r => .list ⟨n, by
      have : c ≠ a := fun q => by rw [q, ho] at i; cases i; exact hn _ _ rfl
      rw [without_ne this]; exact i⟩ (RepAll.without ho hn r)
theorem RepAll.without {g : Heap} {a : Addr} {o : Obj} (ho : g.get? a = some o) (hn : NoSeq o) : ∀ {vs ds}, RepAll g vs ds → RepAll (without g a) vs ds
  | _, _, .nil => .nil
  | _, _, .cons x r => .cons (Rep.without ho hn x) (RepAll.without ho hn r)
end

/-- an own object that stands still for a while -/
def frzP (P : Addr → Obj → Heap → Prop) (a : Addr) (o : Obj) (g : Heap) : Prop := P a o g ∧ g.get? a = some o
theorem frzP_mono {P : Addr → Obj → Heap → Prop} (mp : ∀ a o g g', Sub g g' → P a o g → P a o g') : ∀ a o g g', Sub g g' → frzP P a o g → frzP P a o g' := fun a o g g' k ⟨h1, h2⟩ => ⟨mp a o g g' k h1, k _ _ h2⟩
def LV.frz (P : Addr → Obj → Heap → Prop) (mp : ∀ a o g g', Sub g g' → P a o g → P a o g') : LV := .obj (frzP P) (frzP_mono mp)

section
variable {X : Cx} {k : Nat} {sc : Scope} {σ τ : Sto} {s₀ s s' : Shared} {g₀ g : Heap} {env : Env} {H : List (Addr × Obj)} {m cm : Str → Option Value}

theorem sto_frz {g' : Heap} {x : Str} {P : Addr → Obj → Heap → Prop} {mp} {a : Addr} {ob : Obj} (q : StoIn σ env g s) (hv : VarIs env s.heap x (.ref a)) (ho : s.heap.get? a = some ob) (hp : P a ob g) (h1 : Sub g g') (h2 : Sub g' s.heap) (h3 : g'.get? a = some ob) : StoIn (upd x (LV.frz P mp) σ) env g' s where
  sub := h2
  var := fun y d e => by
    rw [lookup_upd] at e
    by_cases w : y = x
    · rw [if_pos w] at e; cases e
    · rw [if_neg w] at e
      obtain ⟨v, a1, a2⟩ := q.var y d e
      exact ⟨v, a1, a2.sub h1⟩
  val := fun y u e => by
    rw [lookup_upd] at e
    by_cases w : y = x
    · rw [if_pos w] at e; cases e
    · rw [if_neg w] at e; exact q.val y u e
  obj := fun y P' mp' e => by
    rw [lookup_upd] at e
    by_cases w : y = x
    · rw [if_pos w] at e
      cases e
      subst w
      exact ⟨a, ob, hv, ho, mp _ _ _ _ h1 hp, h3⟩
    · rw [if_neg w] at e
      obtain ⟨b, o', a1, a2, a3⟩ := q.obj y P' mp' e
      exact ⟨b, o', a1, a2, mp' _ _ _ _ h1 a3⟩
theorem EvP.frz {x : Str} {e : Expr} {P : Addr → Obj → Heap → Prop} {mp} {Q : Heap → Value → Prop} (hx : σ.lookup x = some (.obj P mp)) (h : EvP X k sc (upd x (LV.frz P mp) σ) e Q)
    (hQ : ∀ g a o g0 v, P a o g0 → g.get? a = some o → Q g v → Q (without g a) v) : EvP X k sc σ e Q := by
  intro A env g s E rm o bs q
  obtain ⟨a, ob, hv, ho, hp⟩ := q.obj x P mp hx
  cases hg : g.get? a with
  | none =>
    have s1 : Sub g (withObj g s.heap a) := withObj_sub q.sub
    refine wpAny_mono (h A env (withObj g s.heap a) s E rm o (bs.trans s1) (sto_frz q hv ho hp s1 withObj_in (withObj_self ho))) (fun v s' ⟨k1, g2, x2, p2⟩ => ?_) fun _ _ y => y
    have e2 := x2.gg _ _ (withObj_self ho)
    refine ⟨k1, without g2 a, ⟨fun b o' e => ?_, x2.hh, without_sub.trans x2.gh, fun b o' e => ?_⟩, hQ _ _ _ _ _ hp e2 p2⟩
    · rw [without_ne (fun q => by rw [q, hg] at e; cases e)]
      exact x2.gg _ _ (s1 _ _ e)
    · by_cases w : b = a
      · subst w; rw [without_self] at e; cases e
      · rw [without_ne w] at e
        rcases x2.new b o' e with z | z
        · left
          cases y : g.get? b with
          | none => rw [withObj_other y w] at z; cases z
          | some o2 => have := s1 _ _ y; rw [z] at this; exact this.symm
        · exact .inr z
  | some o' =>
    have e := q.sub _ _ hg
    rw [ho] at e
    cases e
    exact h A env g s E rm o bs (sto_frz q hv ho hp .rfl q.sub hg)
theorem Ev.frz {x : Str} {e : Expr} {P : Addr → Obj → Heap → Prop} {mp} {d : Dat} (hx : σ.lookup x = some (.obj P mp)) (h : Ev X k sc (upd x (LV.frz P mp) σ) e d) (hP : ∀ a o g, P a o g → NoSeq o) : Ev X k sc σ e d :=
  EvP.frz hx h fun g a o g0 v hp ho r => r.without ho (hP _ _ _ hp)

/-- a new object gets its name -/
theorem wp_ownNew {A : Around} {E : Value → Shared → Prop} {x : Str} {a : Addr} {ob : Obj} {P : Addr → Obj → Heap → Prop} {mp} {Q : Unit → Shared → Prop} (F : FS s₀ g₀ env H τ g m cm s) (o : EnvOk env sc) (hx : canStore sc x = true) (kk : Keeps s s') (ho : s'.heap.get? a = some ob) (hn : s.heap.get? a = none) (hP : P a ob g)
    (h : ∀ m' cm' s', FS s₀ g₀ env H (upd x (.obj P mp) τ) g m' cm' s' → Q () s') : wpAny X.M A (storeName env x (.ref a)) Q E s' := by
  have x1 : Step g s.heap g s'.heap := ⟨.rfl, kp_sub kk, F.st.gh.trans (kp_sub kk), fun _ _ e => .inl e⟩
  have none_of : ∀ {h : Heap}, Sub h s.heap → h.get? a = none := by
    intro h hs
    cases z : h.get? a with
    | none => rfl
    | some o => have := hs _ _ z; rw [hn] at this; cases this
  have ne_of : ∀ {b : Addr} {ob : Obj}, s.heap.get? b = some ob → b ≠ a := fun e q => by rw [q, hn] at e; cases e
  refine wp_store (lv := .obj P mp) (F.ev kk x1) o hx (o.cells x) ?_ ?_ fun m' cm' s'' F' => h _ _ _ F'
  · refine ⟨_, _, rfl, ho, hP, none_of F.st.gh, none_of F.st.hh, ?_, ?_, ?_⟩
    · obtain ⟨ob, _, _, ho, _⟩ := F.call.toInCall.ns
      exact (ne_of ho).symm
    · intro n c hc
      obtain ⟨ob, ho, _⟩ := F.call.cell n c hc
      exact ne_of ho
    · intro p hp
      exact ne_of (F.hold p hp).1
  · intro y P' mp' hy e hh
    obtain ⟨v, hv, lv⟩ := F.var y _ e
    obtain ⟨b, ob', rfl, ho', _⟩ := lv
    have := hv.fun hh
    cases this
    rw [hn] at ho'; cases ho'

theorem few_ok (pos : Pos) (env : Env) : ∀ {es : List Expr}, es.all plainE = true → (backTo pos (starEach es env)).all (fun x => !x.1) = true
  | [], _ => rfl
  | e :: es, h => by
    rw [List.all_cons, Bool.and_eq_true] at h
    rw [starEach_plain h.1]
    show (true && (backTo pos (starEach es env)).all (fun x => !x.1)) = true
    rw [few_ok pos env h.2]; rfl
theorem few_form {pos : Pos} {env : Env} {es : List Expr} (h : es.all plainE = true) (hl : es.length < 30) :
    ((backTo pos (starEach es env)).all (fun x => !x.1) && (backToKw pos (keywordEach [] env)).all (fun x => x.1.isSome) && decide (es.length + ([] : List Keyword).length + (if ([] : List Keyword).isEmpty then 0 else 1) < 30)) = true := by
  rw [few_ok pos env h]
  show (true && decide (es.length + 0 + 0 < 30)) = true
  simpa using hl

/-- x.name(..), x an object of the frame's own that is turned by it -/
theorem Ex.methO {x name : Str} {px apos cpos pos : Pos} {e : Expr} {es : List Expr} {ds : List Dat} {T id : String} {P P' : Addr → Obj → Heap → Prop} {mp mp'} {R : Out → Prop} (hx : τ.lookup x = some (.obj P mp)) (he : EvL X k sc τ (e :: es) ds)
    (pa : PlainAttrs T) (slot : Slot T name id) (hty : typeOf (.builtin id) = pure (.type "method_descriptor")) (hT : ∀ a o g, P a o g → o.cls = .type T ∧ o.dict = none)
    (hop : ∀ (g : Heap) (s : Shared) (a : Addr) (ob : Obj) (vs : List Value) (A : Around) (E : Value → Shared → Prop), Sub X.h0 g → Sub g s.heap → s.heap.get? a = some ob → P a ob g → RepAll g vs ds → Room A k →
      wpAny X.M A (call (.builtin id) (.ref a :: vs)) (fun v s' => v = .none ∧ ∃ h' tk ob', s' = { s with heap := h', toks := tk } ∧ Heap.ExtBut a s.heap h' ∧ h'.get? a = some ob' ∧ P' a ob' g) E s)
    (hr : R (.next (upd x (.obj P' mp') τ))) (hline : (apos.endLine == cpos.line) = true := by decide) (hl : (e :: es).length < 30 := by simp) (hd : (x == ("__debug__" : Str)) = false := by decide)
    (hbase : ∀ env, attributeBase (.Name x px) name env (eval (.Name x px) env) = eval (.Name x px) env := by intro _; rfl)
    (hs : ∀ env, swapsWith (.Call (.Attribute (.Name x px) name apos) (e :: es) [] cpos) none pos.line env = pure false := by intro _; rfl) :
    Ex X k sc τ (exec (.Expr (.Call (.Attribute (.Name x px) name apos) (e :: es) [] cpos) pos)) R := by
  intro A env s₀ g₀ H g m cm s E r o b F
  obtain ⟨v, hv, ad, ob, ev, h1, hp, h3, h4, h5, h6, h7⟩ := F.var x _ hx
  subst ev
  obtain ⟨t1, t2⟩ := hT _ _ _ hp
  refine wpAny_Expr ?_ o.quiet (hs env)
  refine wpAny_Call_method (hbase env) (few_form he.1 hl) hline pa slot hty (holds_name F o hv ⟨⟨ob, h1, t1⟩, fun a e => by cases e; exact ⟨ob, h1, t2⟩, ?_⟩ hd)
  refine Calls.callWith_builtin (plain_any _ _ he.1) (evalArgs_evs he r o (b.trans F.st.gg) F.sto fun vs g1 s1 k1 x1 p1 => ?_)
  have F1 := F.ev k1 x1
  refine wpAny_mono (hop g1 s1 ad ob vs A E (b.trans F1.st.gg) x1.gh (x1.hh _ _ h1) (mp _ _ _ _ x1.gg hp) p1 r) (fun v s' ⟨ev, h', tk, ob', es', hE, ho', hP'⟩ => ?_) fun _ _ y => y
  subst ev; subst es'
  exact ⟨_, g1, m, cm, hr, F1.mutate (lv := .obj P' mp') hx hv hE ⟨ob', ho', hP'⟩⟩

/-- f(x), x an own object, f of the language's -/
theorem EvP.callBO {f x : Str} {p px pos : Pos} {id : String} {P : Addr → Obj → Heap → Prop} {mp} {Q : Heap → Value → Prop} (hf : EvP X k sc σ (.Name f p) fun _ u => u = .builtin id) (hx : σ.lookup x = some (.obj P mp))
    (hop : ∀ (g : Heap) (s : Shared) (a : Addr) (ob : Obj), Sub X.h0 g → Sub g s.heap → s.heap.get? a = some ob → P a ob g → Does X k (call (.builtin id) [.ref a]) g s Q)
    (hd1 : (x == ("__debug__" : Str)) = false := by decide) (hn : (x == ("__classdict__" : Str)) = false := by decide) : EvP X k sc σ (.Call (.Name f p) [.Name x px] [] pos) Q := by
  intro A env g s E rm o bs q
  refine wpAny_Call_NameR (wp_ev (hf A env g s E rm o bs q) fun u g1 s1 k1 x1 p1 => ?_)
  subst p1
  refine Calls.callWith_builtin (by rfl) (evalArgs_plain (spliced_cons (wp_nameO o (q.step x1) hx (fun a ob ho hp => wpAny_items_nil ?_) hd1 hn)))
  exact wp_fin k1 x1 (hop g1 s1 a ob (bs.trans x1.gg) x1.gh ho hp A E rm)

/-- x = f(e), f a kind of the language's, the new object the frame's own -/
theorem Ex.assignNew1 {x f : Str} {px pf pc pos : Pos} {T : String} {e : Expr} {d : Dat} {P : Addr → Obj → Heap → Prop} {mp} {R : Out → Prop} (hf : EvP X k sc τ (.Name f pf) fun _ u => u = .type T) (he : Ev X k sc τ e d)
    (hop : ∀ (g : Heap) (s : Shared) (v : Value) (A : Around) (E : Value → Shared → Prop), Sub X.h0 g → Sub g s.heap → Rep g v d → Room A k → wpAny X.M A (call (.type T) [v]) (fun v s' => Keeps s s' ∧ ∃ a ob, v = .ref a ∧ s'.heap.get? a = some ob ∧ s.heap.get? a = none ∧ P a ob g) E s)
    (hr : R (.next (upd x (.obj P mp) τ))) (hx : canStore sc x = true := by rfl) (hp : plainE e = true := by rfl) (hs : ∀ env, swapsWith (.Call (.Name f pf) [e] [] pc) (some (.Name x px)) pos.line env = pure false := by intro _; rfl) :
    Ex X k sc τ (exec (.Assign [.Name x px] (.Call (.Name f pf) [e] [] pc) pos)) R := by
  intro A env s₀ g₀ H g m cm s E r o b F
  refine wpAny_Assign_Name (wpAny_Call_NameR (wp_ev (hf A env g s E r o (b.trans F.st.gg) F.sto) fun u g1 s1 k1 x1 p1 => ?_)) (hs env)
  subst p1
  have F1 := F.ev k1 x1
  refine callWith_of (P := fun h => True) (by rw [plain_any pc env (es := [e]) (by rw [List.all_cons, hp]; rfl)]; rfl) (fun h _ => ⟨.machine, .inr (.inl rfl), Looks.of_pure rfl⟩) ?_
  rw [starEach_plain hp]
  refine evalArgs_plain (spliced_cons (wp_ev (he A env g1 s1 E r o (b.trans F1.st.gg) F1.sto) fun v g2 s2 k2 x2 p2 => wpAny_items_nil ⟨trivial, ?_⟩))
  have F2 := F1.ev k2 x2
  refine wpAny_mono (hop g2 s2 v A E (b.trans F2.st.gg) F2.st.gh p2 r) (fun v s' ⟨k3, a, ob, ev, ho, hn, hP⟩ => ?_) fun _ _ y => y
  subst ev
  exact wp_ownNew F2 o hx k3 ho hn hP fun m' cm' s'' F' => ⟨_, g2, m', cm', hr, F'⟩
end
end Mine

namespace Mine
open PySem PySem.W PyProof.Rows PySem.Calls
set_option Elab.async false
set_option maxRecDepth 100000
set_option linter.unusedVariables false

section
variable {K : Type} [DecidableEq K]
/-- keys, one behind the other, each once -/
def addK (ks : List K) (k : K) : List K := if k ∈ ks then ks else ks ++ [k]
theorem mem_addK {ks : List K} {k j : K} : j ∈ addK ks k ↔ j ∈ ks ∨ j = k := by
  unfold addK
  split
  · rename_i h
    exact ⟨.inl, fun q => q.elim id fun e => e ▸ h⟩
  · simp
theorem addK_nodup {ks : List K} {k : K} (h : ks.Nodup) : (addK ks k).Nodup := by
  unfold addK
  split
  · exact h
  · rename_i hk
    rw [List.nodup_append]
    exact ⟨h, by simp, fun a ha b hb => by rw [List.mem_singleton.mp hb]; exact fun q => hk (q ▸ ha)⟩
theorem addK_length {ks : List K} {k : K} : (addK ks k).length = if k ∈ ks then ks.length else ks.length + 1 := by
  unfold addK; split <;> simp
theorem addK_length_le {ks : List K} {k : K} : (addK ks k).length ≤ ks.length + 1 := by
  rw [addK_length]; split <;> omega
def keysOf (xs : List K) : List K := xs.foldl addK []
theorem keysOf_snoc (xs : List K) (x : K) : keysOf (xs ++ [x]) = addK (keysOf xs) x := by
  unfold keysOf; rw [List.foldl_append]; rfl
theorem keysOf_spec : ∀ n (xs : List K), xs.length = n → (∀ k, k ∈ keysOf xs ↔ k ∈ xs) ∧ (keysOf xs).Nodup ∧ (keysOf xs).length ≤ xs.length := by
  intro n
  induction n with
  | zero =>
    intro xs h
    have : xs = [] := List.length_eq_zero_iff.mp h
    subst this
    exact ⟨fun k => by simp [keysOf], by simp [keysOf], by simp [keysOf]⟩
  | succ n ih =>
    intro xs h
    rcases List.eq_nil_or_concat xs with e | ⟨ys, y, e⟩
    · subst e; simp at h
    · subst e
      rw [List.concat_eq_append] at *
      obtain ⟨h1, h2, h3⟩ := ih ys (by simpa using h)
      rw [keysOf_snoc]
      refine ⟨fun k => ?_, addK_nodup h2, ?_⟩
      · rw [mem_addK, h1]; simp
      · have := addK_length_le (ks := keysOf ys) (k := y)
        simp; omega
theorem mem_keysOf {xs : List K} {k : K} : k ∈ keysOf xs ↔ k ∈ xs := (keysOf_spec _ xs rfl).1 k
theorem keysOf_nodup {xs : List K} : (keysOf xs).Nodup := (keysOf_spec _ xs rfl).2.1
theorem keysOf_length_le {xs : List K} : (keysOf xs).length ≤ xs.length := (keysOf_spec _ xs rfl).2.2
end

def newSetObj (led : Bool) : Obj := { cls := .type "set", dict := none, data := .set #[] 0 (.fresh 0 0 led) }

/-- a kind of sets, and what is known of their objects -/
structure SetT {K : Type} [DecidableEq K] (X : Cx) (knd : KeyKind X.prog X.w K) (SP : List K → Obj → Prop) : Prop where
  exact : ∀ {ks o}, SP ks o → o.ExactSet ∧ NoSeq o
  fresh : SP [] (newSetObj (!X.w.params.followText "set-order"))
  add : ∀ {A : Around} {E : Value → Shared → Prop} {s : Shared} {a : Addr} {o : Obj} {ks : List K} {k : K} {x : Value} {Q : Bool → Shared → Prop}, knd.is k x = true → x.scannable = true → s.heap.get? a = some o → SP ks o → ks.length + 1 < scanBound →
    (∀ b h' o', Heap.SameBut a s.heap h' → h'.get? a = some o' → SP (addK ks k) o' → Q b { s with heap := h' }) → wpAny X.M A (setAddHashed a x (knd.hash k)) Q E s

section
variable {K : Type} [DecidableEq K] {X : Cx} {knd : KeyKind X.prog X.w K} {SP : List K → Obj → Prop} {k : Nat} {sc : Scope} {σ τ : Sto}

theorem newSet_led {A : Around} {E : Value → Shared → Prop} {s : Shared} {Q : Value → Shared → Prop} (h : Q (.ref s.heap.objs.size) { s with heap := s.heap.push (newSetObj (!X.w.params.followText "set-order")) }) :
    wpAny X.M A (newSet (.type "set")) Q E s := by
  unfold newSet setsByText
  refine wpAny_bind (wpAny_bind (wpAny_askSetting (wpAny_pure ?_)))
  dsimp only
  simp only [newObj]
  exact wpAny_bind (wpAny_alloc (wpAny_pure h))

theorem code_new1 {A : Around} {E : Value → Shared → Prop} {s : Shared} (a : Value) {Q₁ : Value → Shared → Prop} (h : Q₁ (.ref s.heap.objs.size) { s with heap := s.heap.push (newSetObj (!X.w.params.followText "set-order")) }) :
    codeAny X.M A (.call (.builtin "set.__new__") ⟨[.type "set", a], []⟩) (wants Q₁ E) s := by
  refine codeAny_of_tree ?_
  show wpAny _ A.in1 (do checkBuiltinCall "set.__new__" ⟨[.type "set", a], []⟩; again (.builtin "set.__new__" ⟨[.type "set", a], []⟩)) _ _ s
  refine wpAny_bind (wpAny_of_eq (F.newCall_set_1 a) (wpAny_pure ⟨plainId_quiet F.plain_set_new _, codeAny_builtin F.entry_set_new ?_⟩))
  rw [Around.under_plainId F.plain_set_new _]
  unfold Builtin.«set.__new__» Builtin.Frozenset.newClass
  have hsub := sub_set_self
  generalize hN : newSet = N
  obtain ⟨hp, g, d, tk, os⟩ := s
  dsimp only
  wp_walk
  subst hN
  exact newSet_led (wpAny_pure h)

theorem set_loop (T : SetT X knd SP) {A : Around} {R : Result → Shared → Prop} {I S : Addr} {fp wr : List Addr} {n : Nat} {P : Nat → Value → Prop} {St : Nat → Heap → Prop} (W : Walks X.prog X.w A.in1 I fp wr n P St) (hS : S ∉ fp) {xs : List K} (hn : xs.length = n)
    (hval : ∀ i v x, P i v → xs[i]? = some x → knd.is x v = true ∧ v.scannable = true) (hb : n + 1 < scanBound) :
    ∀ (j i : Nat) (s : Shared) (o : Obj), n - i = j → i ≤ n → St i s.heap → s.heap.get? S = some o → SP (keysOf (xs.take i)) o →
      (∀ h' tk o', (∀ b o, b ≠ S → b ∉ wr → s.heap.get? b = some o → h'.get? b = some o) → h'.get? S = some o' → SP (keysOf xs) o' → R (.ok (.ret .none)) { s with heap := h', toks := tk }) →
      codeAny X.M A (.builtin "set.update.loop" ⟨[.ref S, .ref I], []⟩) R s := by
  have Sw : S ∉ wr := fun q => hS (W.sub _ q)
  intro j
  induction j with
  | zero =>
    intro i s o hk hi hst ho hSP hR
    have hin : i = n := by omega
    subst hin
    refine codeAny_builtin F.entry_set_update_loop ?_
    rw [Around.under_plainId F.plain_set_update_loop _]
    show wpAny _ A.in1 (pyNext (.ref I) >>= _) _ _ s
    refine wpAny_bind (W.done s _ _ hst fun h' tk hk' => ?_)
    show wpAny _ A.in1 (ret Value.none) _ _ _
    refine wpAny_pure (hR h' tk o (fun b o hb hw e => hk' b o hw e) (hk' S o Sw ho) ?_)
    rw [List.take_of_length_le (by omega)] at hSP
    exact hSP
  | succ j ih =>
    intro i s o hk hi hst ho hSP hR
    have hlt : i < n := by omega
    refine codeAny_builtin F.entry_set_update_loop ?_
    rw [Around.under_plainId F.plain_set_update_loop _]
    show wpAny _ A.in1 (pyNext (.ref I) >>= _) _ _ s
    refine wpAny_bind (W.item i s _ _ hlt hst fun v h1 tk hP hst' hk1 => ?_)
    obtain ⟨x, hx⟩ : ∃ x, xs[i]? = some x := ⟨_, List.getElem?_eq_getElem (by omega)⟩
    obtain ⟨hkey, hsc⟩ := hval i v x hP hx
    show wpAny _ A.in1 (holding [v] (setAdd S v) >>= _) _ _ _
    refine wpAny_bind (wpAny_holding ?_)
    unfold setAdd
    refine wpAny_holding ?_
    refine wpAny_bind (knd.pyHash hkey ?_)
    have hroom : (keysOf (xs.take i)).length + 1 < scanBound := by
      have := keysOf_length_le (xs := xs.take i)
      rw [List.length_take] at this
      omega
    refine T.add (s := { s with heap := h1, toks := tk + 1 }) hkey hsc (hk1 S o Sw ho) hSP hroom fun b h' o' hsb ho' hSP' => ?_
    have e : xs.take (i + 1) = xs.take i ++ [x] := by rw [List.take_add_one, hx]; rfl
    refine wpAny_pure ⟨plainId_quiet F.plain_set_update_loop _, ih (i + 1) _ o' (by omega) hlt (W.frame _ _ _ hst' fun c hc o2 e2 => ?_) ho' (by rw [e, keysOf_snoc]; exact hSP') fun h2 tk2 o2 hk2 ho2 hSP2 => ?_⟩
    · have hne : c ≠ S := fun q => hS (q ▸ hc)
      exact (hsb.2 c hne).trans e2
    · exact hR h2 tk2 o2 (fun b o3 hb hw e3 => hk2 b o3 hb hw ((hsb.2 b hb).trans (hk1 b o3 hw e3))) ho2 hSP2

set_option maxHeartbeats 4000000 in
/-- set(xs) of a list -/
theorem call_set_of (T : SetT X knd SP) {A : Around} {E : Value → Shared → Prop} {s : Shared} {l : Addr} {vs : List Value} {xs : List K} {Q : Value → Shared → Prop} (hh : A.handled = none) (hl : s.heap.IsList l vs.toArray) (hn : xs.length = vs.length)
    (hval : ∀ (i : Nat) v x, vs[i]? = some v → xs[i]? = some x → knd.is x v = true ∧ v.scannable = true) (hb : vs.length + 1 < scanBound)
    (h : ∀ h' tk o', h'.get? s.heap.objs.size = some o' → SP (keysOf xs) o' → (∀ b o, s.heap.get? b = some o → h'.get? b = some o) → Q (.ref s.heap.objs.size) { s with heap := h', toks := tk }) :
    wpAny X.M A (call (.type "set") [.ref l]) Q E s := by
  obtain ⟨c, tl, hmro⟩ := F.called_set.mro
  have hmade := F.called_set.made
  have hsub := F.called_set.sub
  refine wpAny_call (codeAny_of_tree ?_)
  show wpAny _ _ (callAny (.type "set") _) _ _ _
  refine wpAny_pure ⟨Code.quiet_builtin _ (by decide +kernel), codeAny_builtin F.entry_type_call ?_⟩
  rw [Around.under_plain (weight_type_call_type "set" [.ref l] []) rfl]
  have h1 := F.called_set.notType
  have h2 := F.called_set.canCreate
  have hct := F.typeCall_set_1 (.ref l)
  repeat (any_goals (first | assumption | wp_step))
  generalize hled : (!X.w.params.followText "set-order") = led
  refine codeAny_mono (code_new1 (X := X) (.ref l) (E := E) (Q₁ := fun obj s₁ => obj = .ref s.heap.objs.size ∧ s₁ = { s with heap := s.heap.push (newSetObj led) }) (by rw [hled]; exact ⟨rfl, rfl⟩)) fun r s₁ hr => ?_
  cases r with
  | error e => exact hr
  | ok fl =>
    cases fl with
    | ret obj =>
      obtain ⟨rfl, rfl⟩ := hr
      have hS : (s.heap.push (newSetObj led)).get? s.heap.objs.size = some (newSetObj led) := Heap.get?_push_size _ rfl
      have hT : Shared.TypeIs { s with heap := s.heap.push (newSetObj led) } (.ref s.heap.objs.size) "set" := ⟨_, hS, rfl⟩
      have hli := F.called_set.init.lookup
      have hbi := F.called_set.init.bind (.ref s.heap.objs.size)
      repeat (any_goals (first | assumption | wp_step))
      refine codeAny_mono (codeAny_call_builtin (R := wants (fun r s₂ => r = .none ∧ ∃ h' tk o', s₂ = { s with heap := h', toks := tk } ∧ h'.get? s.heap.objs.size = some o' ∧ SP (keysOf xs) o' ∧ (∀ b o, s.heap.get? b = some o → h'.get? b = some o)) E)
        F.called_set.init.plain F.entry_set_init (check_set_init_1 hT ?_)) fun r₂ s₂ hr₂ => ?_
      · obtain ⟨ol, hol, hcl, nl, hdl⟩ := hl
        obtain ⟨ocls, odict, odata, oslots⟩ := ol
        simp only at hcl hdl
        subst hcl; subst hdl
        have hol' : (s.heap.push (newSetObj led)).get? l = some { cls := .type "list", dict := odict, data := .seq vs.toArray nl, slots := oslots } := Heap.get?_push_of_some _ hol
        have hsls := F.sub_list_set
        have hslf := F.sub_list_frozenset
        have hne : (Value.type "list" == Value.type "dict") = false := by decide
        have hl1 : (s.heap.push (newSetObj led)).IsList l vs.toArray := ⟨_, hol', rfl, nl, rfl⟩
        have hS' : (s.heap.push (newSetObj led)).get? s.heap.objs.size = some { cls := .type "set", dict := none, data := .set #[] 0 (.fresh 0 0 led) } := hS
        unfold Builtin.«set.__init__» noKeywords Builtin.Frozenset.updateFrom
        generalize hPI : pyIter = PI
        generalize hHp : s.heap.push (newSetObj led) = HH at *
        wp_walk
        subst hPI; subst hHp
        refine wpAny_pyIter_list hl1 ?_
        refine wpAny_bind (wpAny_runValue ?_)
        have hlS : l < s.heap.objs.size := Heap.lt_size hol
        have hh3 : A.in1.in1.in1.handled = none := by simp [hh]
        have hsz : (s.heap.push (newSetObj led)).objs.size = s.heap.objs.size + 1 := Heap.size_push ..
        have hneI : l ≠ (s.heap.push (newSetObj led)).objs.size := by
          rw [hsz]; exact Nat.ne_of_lt (Nat.lt_succ_of_lt hlS)
        have hSf : s.heap.objs.size ∉ [(s.heap.push (newSetObj led)).objs.size, l] := by
          rw [hsz]; simp only [List.mem_cons, List.not_mem_nil, or_false, not_or]
          exact ⟨Nat.ne_of_lt (Nat.lt_succ_self _), Nat.ne_of_gt hlS⟩
        have hvs : vs.toArray.size = vs.length := List.size_toArray
        refine set_loop T (Walks.list hh3 _ l hneI vs.toArray) hSf (xs := xs) (by rw [hvs]; exact hn) (fun i v x hv hx => hval i v x (by simpa using hv) hx) (by rw [hvs]; exact hb) (vs.toArray.size - 0) 0 _ (newSetObj led) rfl (Nat.zero_le _)
          ⟨⟨_, Heap.get?_push_size _ rfl, rfl, rfl⟩, (hl1.push _)⟩ (Heap.get?_push_of_some _ hS) (by rw [← hled]; exact T.fresh) fun h' tk' o' hk' ho' hSP' => ?_
        show wpAny _ _ _ _ _ _
        refine wpAny_pure ?_
        show wpAny _ _ (ret Value.none) _ _ _
        refine wpAny_pure ⟨rfl, h', tk', o', rfl, ho', hSP', fun b o e => ?_⟩
        have hb := Heap.lt_size e
        refine hk' b o (Nat.ne_of_lt hb) (fun q => ?_) (Heap.get?_push_of_some _ (Heap.get?_push_of_some _ e))
        rw [List.mem_singleton.mp q, hsz] at hb
        exact absurd hb (Nat.not_lt.mpr (Nat.le_succ _))
      · cases r₂ with
        | error e => exact hr₂
        | ok fl₂ =>
          cases fl₂ with
          | ret r =>
            obtain ⟨rfl, h', tk, o', rfl, ho', hSP', hk'⟩ := hr₂
            repeat (any_goals (first | assumption | wp_step))
            exact h _ _ _ ho' hSP' hk'
          | _ => exact hr₂.elim
    | _ => exact hr.elim
end
end Mine

namespace Mine
open PySem PySem.W PyProof.Rows PySem.Calls
set_option Elab.async false
set_option maxRecDepth 100000
set_option linter.unusedVariables false

section
variable {X : Cx} {k : Nat} {sc : Scope} {σ τ : Sto}

/-- x.get(e, f) of an own table -/
theorem keysV_at {al : Tab} {vs : List Value} {i : Nat} {y : Str} {v : Value} (h : (keysV al vs)[i]? = some (y, v)) : (al.map fun p => Dat.str p.1)[i]? = some (.str y) := by
  unfold keysV at h
  have h1 := List.getElem?_zip_eq_some.mp h
  have h2 := h1.1
  rw [List.getElem?_map] at h2 ⊢
  cases e : al[i]? with
  | none => rw [e] at h2; cases h2
  | some p => rw [e] at h2; cases h2; rfl
theorem keysV_length {al : Tab} {vs : List Value} (h : vs.length = al.length) : (keysV al vs).length = al.length := by
  unfold keysV; rw [List.length_zip, List.length_map]; omega

/-- going over an own table that stands still -/
theorem iterOf_tab {al : Tab} {a : Addr} {ob : Obj} {g : Heap} {s : Shared} (kk : Sub g s.heap) (hp : tabP X al a ob g) (hg : g.get? a = some ob) : IterOf X k g s (.ref a) (al.map fun p => Dat.str p.1) := by
  intro A E rm
  obtain ⟨hb, vs, hdi, hv⟩ := hp
  have hl : vs.length = al.length := by rw [hv.length, List.length_map]
  have ho := kk _ _ hg
  have dm : s.heap.DictOf (strKind X.prog X.w) a (keysV al vs) := Heap.dictOf_iff.mpr ⟨ob, ho, hdi⟩
  obtain ⟨ep, da⟩ := dm.dictAt
  have hlt : a < s.heap.objs.size := Heap.lt_size ho
  have hn : (al.map fun p => Dat.str p.1).length = (keysV al vs).length := by rw [List.length_map, keysV_length hl]
  refine wpAny_pyIter_dict (by simpa using Nat.ne_of_gt hb) da ⟨kp_mk (Sub.push .rfl _), s.heap.objs.size, [s.heap.objs.size, a], [s.heap.objs.size], (fun i v => ∃ k x, (keysV al vs)[i]? = some (k, x) ∧ (strKind X.prog X.w).is k v = true),
    (fun i h => h.IsKeyIter s.heap.objs.size a i (keysV al vs).length ep ∧ h.DictAt (strKind X.prog X.w) a (keysV al vs) ep), rfl, ?_⟩
  exact {
    walks := fun A' hA => by rw [hn]; exact Walks.dictKeys hA s.heap.objs.size a (Nat.ne_of_lt hlt) (keysV al vs) ep
    start := ⟨⟨_, Heap.get?_push_size _ rfl, rfl, rfl⟩, da.push _⟩
    low := fun b hb => by
      show b < (s.heap.push _).objs.size
      rw [Heap.size_push]
      rcases List.mem_cons.mp hb with rfl | hb
      · exact Nat.lt_succ_self _
      · rcases List.mem_cons.mp hb with rfl | hb
        · exact Nat.lt_succ_of_lt hlt
        · cases hb
    fresh := fun b hb => by rw [List.mem_singleton.mp hb]; exact fresh_size
    live := fun i h st b hb => by
      obtain ⟨⟨o, ho, _⟩, _⟩ := st
      rw [List.mem_singleton.mp hb, ho]; rfl
    foot := fun b hb => by
      rcases List.mem_cons.mp hb with rfl | hb
      · exact .inl (List.mem_singleton.mpr rfl)
      · rw [List.mem_singleton.mp hb, hg]
        exact .inr rfl
    item := fun i v hv => by
      obtain ⟨y, x, e, hk⟩ := hv
      obtain ⟨t, rfl⟩ := Value.isStrOf_shape hk
      exact ⟨_, keysV_at e, .str _ _⟩
    own := fun i A' E' target v s' Q st q => by
      obtain ⟨⟨o, ho, hc, _⟩, _⟩ := st
      exact letOwned_ok ho hc (by decide) q }
theorem Its.tab {x : Str} {px : Pos} {al : Tab} {mp} (hx : σ.lookup x = some (.obj (frzP (tabP X al)) mp)) (hd1 : (x == ("__debug__" : Str)) = false := by decide) (hn1 : (x == ("__classdict__" : Str)) = false := by decide)
    (hs : ∀ env v, foldedSetIterable (.Name x px) env v = pure v := by intro _ _; rfl) : Its X k sc σ (.Name x px) (al.map fun p => Dat.str p.1) := by
  refine ⟨fun A env g s E rm o bs q => wp_nameO o q hx (fun a ob ho ⟨hp, hg⟩ => ?_) hd1 hn1, hs⟩
  exact Post.here q.sub fun s' kk => iterOf_tab kk hp hg
end
end Mine

namespace Mine
open PySem PySem.W PyProof.Rows PySem.Calls
set_option Elab.async false
set_option maxRecDepth 100000
set_option linter.unusedVariables false

section
variable {X : Cx} {k : Nat} {sc : Scope} {σ τ : Sto}
end
end Mine

namespace Mine
open PySem PySem.W PyProof.Rows PySem.Calls
set_option Elab.async false
set_option maxRecDepth 100000
set_option linter.unusedVariables false
section
variable {X : Cx} {k : Nat} {sc : Scope} {σ τ : Sto}

/-- sum of a list of whole numbers -/
theorem op_sum {ns : List Int} : OpN X (k + 1) (fun vs => call (.builtin "sum") vs) [dList ns] fun g v => Rep g v (.int ns.sum) := by
  intro g s vs b0 kk r A E rm
  cases r with
  | cons r rn =>
    cases rn
    cases r with
    | list il rr =>
      rename_i l vs
      have hi := intsAre_of rr
      obtain ⟨xs, hxs⟩ := hi.allInts.items
      have hl := isList_sub kk il
      rw [hxs] at hl
      refine sum_intListG rm.hh hl fun h' tk t' hk => ?_
      have e : preSum (numAt xs) xs.size = ns.sum := by
        have e1 : numsOf (intItems xs).toList = ns := by rw [← hxs]; exact hi.numsOf
        rw [nums_intItems] at e1
        rw [← e1, preSum_eq, List.take_of_length_le (by simp)]
      rw [e]
      exact ⟨kp_mk hk, g, ⟨.rfl, hk, kk.trans hk, fun _ _ e => .inl e⟩, .int _ _⟩

section
variable {A : Around} {E : Value → Shared → Prop} {s : Shared} {a kS : Addr} {vs : List Value} {kz : List Int} {keys : Array Value} {e e1 : Nat} {P : PySem.Fin → Shared → Prop}
set_option maxHeartbeats 2000000 in
end

end
end Mine

namespace Mine
open PySem PySem.W PyProof.Rows PySem.Calls
set_option Elab.async false
set_option maxRecDepth 100000
set_option linter.unusedVariables false

/-- five times and one more, again and again -/
def it5 : Nat → Nat → Nat
  | 0, x => x
  | j + 1, x => 5 * it5 j x + 1
theorem it5_add (a b x : Nat) : it5 (a + b) x = it5 a (it5 b x) := by
  induction a with
  | zero => rw [Nat.zero_add]; rfl
  | succ a ih => rw [show a + 1 + b = a + b + 1 by omega, it5, it5, ih]
theorem it5_pow (m : Nat) : ∃ c d, ∀ x, it5 (2 ^ m) x = (1 + 4 * 2 ^ m * c) * x + 2 ^ m * (1 + 2 * d) := by
  induction m with
  | zero => exact ⟨1, 0, fun x => by simp [it5]⟩
  | succ m ih =>
    obtain ⟨c, d, h⟩ := ih
    refine ⟨c + 2 * 2 ^ m * (c * c), d + 2 ^ m * c * (1 + 2 * d), fun x => ?_⟩
    rw [show 2 ^ (m + 1) = 2 ^ m + 2 ^ m by rw [Nat.pow_succ]; omega, it5_add, h, h]
    generalize 2 ^ m = P
    grind
theorem it5_half (m x : Nat) : it5 (2 ^ m) x % 2 ^ (m + 1) = (x + 2 ^ m) % 2 ^ (m + 1) := by
  obtain ⟨c, d, h⟩ := it5_pow m
  rw [h, show 2 ^ (m + 1) = 2 * 2 ^ m by rw [Nat.pow_succ]; omega]
  generalize 2 ^ m = P
  rw [show (1 + 4 * P * c) * x + P * (1 + 2 * d) = (x + P) + 2 * P * (2 * c * x + d) by grind]
  exact Nat.add_mul_mod_self_left _ _ _
theorem mod_two {P y e : Nat} (hP : 0 < P) (h : y % P = e % P) (he : e < 2 * P) : y % (2 * P) = e ∨ (y + P) % (2 * P) = e := by
  have hr : y % (2 * P) < 2 * P := Nat.mod_lt _ (by omega)
  have h1 : y % (2 * P) % P = y % P := Nat.mod_mul_left_mod ..
  have h2 : (y + P) % (2 * P) = (y % (2 * P) + P) % (2 * P) := by rw [Nat.mod_add_mod]
  rw [h2]
  generalize y % (2 * P) = r at *
  rw [h] at h1
  have key : ∀ z, z < 2 * P → z % P = if z < P then z else z - P := fun z hz => by
    split
    · exact Nat.mod_eq_of_lt (by assumption)
    · rw [Nat.mod_eq_sub_mod (by omega), Nat.mod_eq_of_lt (by omega)]
  rw [key r hr, key e he] at h1
  by_cases q : r = e
  · exact .inl q
  · right
    by_cases q2 : r < P
    · rw [if_pos q2] at h1
      have : ¬ e < P := fun q3 => by rw [if_pos q3] at h1; exact q h1
      rw [if_neg this] at h1
      rw [Nat.mod_eq_of_lt (by omega)]; omega
    · rw [if_neg q2] at h1
      have : e < P := by
        refine Nat.lt_of_not_le fun q3 => ?_
        rw [if_neg (by omega)] at h1
        omega
      rw [if_pos this] at h1
      rw [Nat.mod_eq_sub_mod (by omega), Nat.mod_eq_of_lt (by omega)]; omega
/-- every place is reached -/
theorem it5_all : ∀ (m x e : Nat), e < 2 ^ m → ∃ j, j < 2 ^ m ∧ it5 j x % 2 ^ m = e
  | 0, x, e, h => ⟨0, by simp, by simp at h; subst h; rw [Nat.pow_zero, Nat.mod_one]⟩
  | m + 1, x, e, h => by
    have hP : 0 < 2 ^ m := Nat.two_pow_pos m
    have e2 : 2 ^ (m + 1) = 2 * 2 ^ m := by rw [Nat.pow_succ]; omega
    obtain ⟨j, h1, h2⟩ := it5_all m x (e % 2 ^ m) (Nat.mod_lt _ hP)
    have h3 := it5_half m (it5 j x)
    rw [e2] at h h3 ⊢
    rcases mod_two hP h2 h with q | q
    · exact ⟨j, by omega, q⟩
    · refine ⟨2 ^ m + j, by omega, ?_⟩
      rw [it5_add, h3, q]

/-- the turns of a search -/
def leaps (mask : Nat) : Nat → Nat × Nat → Nat × Nat
  | 0, p => p
  | k + 1, p => SetTable.leap mask (leaps mask k p).1 (leaps mask k p).2
theorem leaps_per {mask i q : Nat} : ∀ k, (leaps mask k (i, q)).2 = q / 32 ^ k
  | 0 => by simp [leaps]
  | k + 1 => by
    show (leaps mask k (i, q)).2 / 32 = _
    rw [leaps_per k, Nat.div_div_eq_div_mul, Nat.pow_succ]
theorem leaps_lcg {mask i : Nat} (hi : i < mask + 1) : ∀ j, (leaps mask j (i, 0)).1 = it5 j i % (mask + 1) ∧ (leaps mask j (i, 0)).2 = 0
  | 0 => ⟨(Nat.mod_eq_of_lt hi).symm, rfl⟩
  | j + 1 => by
    obtain ⟨h1, h2⟩ := leaps_lcg hi j
    refine ⟨?_, ?_⟩
    · show ((leaps mask j (i, 0)).1 * 5 + 1 + (leaps mask j (i, 0)).2 / 32) % (mask + 1) = _
      rw [h1, h2, Nat.zero_div, Nat.add_zero, it5]
      rw [Nat.add_mod, Nat.mul_mod, Nat.mod_mod, ← Nat.mul_mod, ← Nat.add_mod, Nat.mul_comm]
    · show (leaps mask j (i, 0)).2 / 32 = 0
      rw [h2]
theorem leaps_add {mask : Nat} {p : Nat × Nat} : ∀ a b, leaps mask (a + b) p = leaps mask a (leaps mask b p)
  | 0, b => by rw [Nat.zero_add]; rfl
  | a + 1, b => by
    rw [show a + 1 + b = a + b + 1 by omega]
    show SetTable.leap mask (leaps mask (a + b) p).1 (leaps mask (a + b) p).2 = SetTable.leap mask (leaps mask a (leaps mask b p)).1 (leaps mask a (leaps mask b p)).2
    rw [leaps_add a b]
theorem leaps_lt {mask : Nat} {p : Nat × Nat} : ∀ k, (leaps mask (k + 1) p).1 < mask + 1 := fun k => Nat.mod_lt _ (Nat.succ_pos _)
/-- a search comes to every place -/
theorem leaps_all {mask m : Nat} (hm : mask + 1 = 2 ^ m) {i q e : Nat} (hq : q < 2 ^ 64) (he : e < mask + 1) : ∃ k, k < mask + 14 ∧ (leaps mask k (i, q)).1 = e := by
  have h13 : (leaps mask 13 (i, q)).2 = 0 := by
    rw [leaps_per]
    exact Nat.div_eq_of_lt (Nat.lt_of_lt_of_le hq (by decide))
  have hlt : (leaps mask 13 (i, q)).1 < mask + 1 := leaps_lt 12
  obtain ⟨j, h1, h2⟩ := it5_all m (leaps mask 13 (i, q)).1 e (by omega)
  refine ⟨j + 13, by omega, ?_⟩
  rw [leaps_add]
  have e1 : leaps mask 13 (i, q) = ((leaps mask 13 (i, q)).1, 0) := by rw [← h13]
  rw [e1, (leaps_lcg hlt j).1, hm]
  exact h2

theorem runEnd_le {mask i : Nat} : SetTable.runEnd mask i - i ≤ 9 ∧ i ≤ SetTable.runEnd mask i := by
  unfold SetTable.runEnd; split <;> omega

/-- the search in a table -/
def adv (t : SetTable) : Nat → SetTable.Probe → SetTable.Probe
  | 0, p => p
  | s + 1, p => adv t s (t.advance p)
def sameBut (p q : SetTable.Probe) : Prop := p.j = q.j ∧ p.more = q.more ∧ p.i = q.i ∧ p.perturb = q.perturb
theorem same_adv {t : SetTable} {p q : SetTable.Probe} (h : sameBut p q) : sameBut (t.advance p) (t.advance q) := by
  obtain ⟨h1, h2, h3, h4⟩ := h
  unfold SetTable.advance
  rw [h2, h3, h4]
  split
  · exact ⟨by show p.j + 1 = q.j + 1; rw [h1], rfl, rfl, rfl⟩
  · exact ⟨rfl, rfl, rfl, rfl⟩
theorem adv_same {t : SetTable} : ∀ (s : Nat) {p q : SetTable.Probe}, sameBut p q → (adv t s p).j = (adv t s q).j
  | 0, p, q, h => h.1
  | s + 1, p, q, h => adv_same s (same_adv h)
theorem go_some {t : SetTable} {h : Int} : ∀ (fuel : Nat) (p : SetTable.Probe), (∀ d, p.dummy = some d → t.slot d = .dummy) → (∃ s, s < fuel ∧ t.slot (adv t s p).j = .empty) →
    ∃ j d, SetTable.probe.go t (fun _ => h + 1) h fuel p = some (.empty j d) ∧ t.slot j = .empty ∧ ∀ x, d = some x → t.slot x = .dummy
  | 0, p, _, ⟨s, hs, _⟩ => absurd hs (Nat.not_lt_zero _)
  | fuel + 1, p, hd, ⟨s, hs, he⟩ => by
    unfold SetTable.probe.go
    cases hsl : t.slot p.j with
    | empty => exact ⟨p.j, p.dummy, rfl, hsl, hd⟩
    | dummy =>
      cases s with
      | zero => rw [show (adv t 0 p).j = p.j from rfl, hsl] at he; cases he
      | succ s =>
        refine go_some fuel _ (fun d e => ?_) ⟨s, by omega, ?_⟩
        · have e1 : (t.advance { p with dummy := some p.j }).dummy = some p.j := by unfold SetTable.advance; split <;> rfl
          rw [e1] at e
          cases e
          exact hsl
        · rw [adv_same s (same_adv (q := p) (p := { p with dummy := some p.j }) ⟨rfl, rfl, rfl, rfl⟩)]
          exact he
    | live i =>
      cases s with
      | zero => rw [show (adv t 0 p).j = p.j from rfl, hsl] at he; cases he
      | succ s =>
        dsimp only
        rw [if_neg (by simp; omega)]
        refine go_some fuel _ (fun d e => hd d ?_) ⟨s, by omega, he⟩
        have e1 : (t.advance p).dummy = p.dummy := by unfold SetTable.advance; split <;> rfl
        rw [e1] at e; exact e
theorem adv_add {t : SetTable} : ∀ (a b : Nat) (p : SetTable.Probe), adv t (a + b) p = adv t b (adv t a p)
  | 0, b, p => by rw [Nat.zero_add]; rfl
  | a + 1, b, p => by rw [show a + 1 + b = a + b + 1 by omega]; exact adv_add a b _
/-- at the head of a turn -/
structure AtTurn (t : SetTable) (iq : Nat × Nat) (p : SetTable.Probe) : Prop where
  j : p.j = iq.1
  more : p.more = SetTable.runEnd t.mask iq.1 - iq.1
  i : p.i = iq.1
  per : p.perturb = iq.2
theorem run_out {t : SetTable} : ∀ (n : Nat) (p : SetTable.Probe), p.more = n → AtTurn t (SetTable.leap t.mask p.i p.perturb) (adv t (n + 1) p)
  | 0, p, h => by
    show AtTurn t _ (t.advance p)
    unfold SetTable.advance
    rw [h, if_neg (by omega)]
    exact ⟨rfl, rfl, rfl, rfl⟩
  | n + 1, p, h => by
    have e : t.advance p = { p with j := p.j + 1, more := p.more - 1 } := by
      unfold SetTable.advance
      rw [if_pos (by omega)]
    have := run_out (t := t) n (t.advance p) (by rw [e]; show p.more - 1 = n; omega)
    have e2 : (t.advance p).i = p.i ∧ (t.advance p).perturb = p.perturb := by rw [e]; exact ⟨rfl, rfl⟩
    rw [e2.1, e2.2] at this
    exact this
theorem turn_at {t : SetTable} {iq : Nat × Nat} {p : SetTable.Probe} (h : AtTurn t iq p) : ∀ k, ∃ s, s ≤ 10 * k ∧ AtTurn t (leaps t.mask k iq) (adv t s p)
  | 0 => ⟨0, Nat.le_refl _, h⟩
  | k + 1 => by
    obtain ⟨s, h1, h2⟩ := turn_at h k
    have h3 := run_out (t := t) _ (adv t s p) rfl
    rw [h2.i, h2.per] at h3
    have h4 := (runEnd_le (mask := t.mask) (i := (leaps t.mask k iq).1)).1
    have h5 := h2.more
    refine ⟨s + ((adv t s p).more + 1), by omega, ?_⟩
    rw [adv_add]
    exact h3

/-- places in rising order -/
def Up1 (xs : Array Nat) : Prop := xs.toList.Pairwise (· < ·)
theorem below_spec {xs : Array Nat} (h : Up1 xs) (j : Nat) : SetTable.below xs j ≤ xs.size ∧ (∀ i (hi : i < xs.size), i < SetTable.below xs j → xs[i] < j) ∧ (∀ i (hi : i < xs.size), SetTable.below xs j ≤ i → j ≤ xs[i]) := by
  have mono : ∀ a b (ha : a < xs.size) (hb : b < xs.size), a ≤ b → xs[a] ≤ xs[b] := fun a b ha hb hab => by
    rcases Nat.eq_or_lt_of_le hab with q | q
    · subst q; exact Nat.le_refl _
    · have := List.pairwise_iff_getElem.mp h a b (by simpa using ha) (by simpa using hb) q
      simpa using Nat.le_of_lt this
  have gen : ∀ (fuel lo hi : Nat), hi - lo ≤ fuel → lo ≤ hi → hi ≤ xs.size → (∀ i (hx : i < xs.size), i < lo → xs[i] < j) → (∀ i (hx : i < xs.size), hi ≤ i → j ≤ xs[i]) →
      SetTable.below.go xs j fuel lo hi ≤ xs.size ∧ (∀ i (hx : i < xs.size), i < SetTable.below.go xs j fuel lo hi → xs[i] < j) ∧ (∀ i (hx : i < xs.size), SetTable.below.go xs j fuel lo hi ≤ i → j ≤ xs[i]) := by
    intro fuel
    induction fuel with
    | zero =>
      intro lo hi h1 h2 h3 h4 h5
      have : lo = hi := by omega
      subst this
      exact ⟨h3, h4, h5⟩
    | succ fuel ih =>
      intro lo hi h1 h2 h3 h4 h5
      unfold SetTable.below.go
      split
      · rename_i hlt
        have hmid : (lo + hi) / 2 < xs.size := by omega
        have e : xs.getD ((lo + hi) / 2) j = xs[(lo + hi) / 2] := by simp [Array.getD, hmid]
        dsimp only
        rw [e]
        split
        · rename_i hx
          exact ih _ _ (by omega) (by omega) h3 (fun i hi2 hl => Nat.lt_of_le_of_lt (mono _ _ hi2 hmid (by omega)) hx) h5
        · rename_i hx
          exact ih _ _ (by omega) (by omega) (by omega) h4 (fun i hi2 hl => Nat.le_trans (by omega) (mono _ _ hmid hi2 hl))
      · have : lo = hi := by omega
        subst this
        exact ⟨h3, h4, h5⟩
  exact gen xs.size 0 xs.size (by omega) (Nat.zero_le _) (Nat.le_refl _) (fun i _ h => absurd h (Nat.not_lt_zero _)) (fun i hi h => absurd hi (by omega))
theorem not_mem_of_below {xs : Array Nat} (h : Up1 xs) {j : Nat} (hn : xs[SetTable.below xs j]? ≠ some j) : j ∉ xs.toList := by
  intro hm
  obtain ⟨i, hi, e⟩ := List.getElem_of_mem hm
  have hi' : i < xs.size := by simpa using hi
  have e' : xs[i] = j := by simpa using e
  obtain ⟨h1, h2, h3⟩ := below_spec h j
  rcases Nat.lt_or_ge i (SetTable.below xs j) with q | q
  · have := h2 i hi' q; omega
  · rcases Nat.eq_or_lt_of_le q with q2 | q2
    · apply hn
      rw [q2]
      simp [hi', e']
    · have hb : SetTable.below xs j < xs.size := by omega
      have := List.pairwise_iff_getElem.mp h (SetTable.below xs j) i (by simpa using hb) hi q2
      have h4 := h3 _ hb (Nat.le_refl _)
      simp at this
      omega
theorem mem_of_has {xs : Array Nat} {j : Nat} (h : SetTable.has xs j = true) : j ∈ xs.toList := by
  unfold SetTable.has at h
  have : xs[SetTable.below xs j]? = some j := by simpa using h
  obtain ⟨hi, e⟩ := Array.getElem?_eq_some_iff.mp this
  rw [← e]
  simp
theorem insert_up {xs : Array Nat} (h : Up1 xs) {j : Nat} (hn : j ∉ xs.toList) : Up1 (SetTable.insertAt xs (SetTable.below xs j) j) := by
  obtain ⟨h1, h2, h3⟩ := below_spec h j
  unfold Up1
  rw [SetTable.toList_insertAt]
  generalize SetTable.below xs j = b at *
  refine List.pairwise_append.mpr ⟨h.sublist (List.take_sublist _ _), List.pairwise_cons.mpr ⟨fun y hy => ?_, h.sublist (List.drop_sublist _ _)⟩, fun x hx y hy => ?_⟩
  · obtain ⟨i, hi, e⟩ := List.getElem_of_mem hy
    rw [List.getElem_drop] at e
    rw [List.length_drop, Array.length_toList] at hi
    have := h3 (b + i) (by omega) (by omega)
    have e' : xs[b + i] = y := by simpa using e
    have hne : j ≠ y := fun q => hn (q ▸ List.mem_of_mem_drop hy)
    omega
  · have hx' : x < j := by
      obtain ⟨i, hi, e⟩ := List.getElem_of_mem hx
      rw [List.getElem_take] at e
      rw [List.length_take, Array.length_toList] at hi
      have := h2 i (by omega) (by omega)
      have e' : xs[i] = x := by simpa using e
      omega
    rcases List.mem_cons.mp hy with q | hy
    · omega
    · obtain ⟨i, hi, e⟩ := List.getElem_of_mem hy
      rw [List.getElem_drop] at e
      rw [List.length_drop, Array.length_toList] at hi
      have := h3 (b + i) (by omega) (by omega)
      have e' : xs[b + i] = y := by simpa using e
      omega
theorem toList_eraseAt {α : Type} (xs : Array α) (p : Nat) : (SetTable.eraseAt xs p).toList = xs.toList.take p ++ xs.toList.drop (p + 1) := by
  unfold SetTable.eraseAt
  simp [List.extract_eq_take_drop, List.take_of_length_le]
theorem erase_sublist {α : Type} (xs : List α) (p : Nat) : (xs.take p ++ xs.drop (p + 1)).Sublist xs := by
  have : xs = xs.take p ++ xs.drop p := (List.take_append_drop p xs).symm
  conv => rhs; rw [this]
  refine List.Sublist.append (List.Sublist.refl _) ?_
  have e : xs.drop (p + 1) = (xs.drop p).drop 1 := by rw [List.drop_drop]
  rw [e]
  exact List.drop_sublist _ _
theorem size_eraseAt {α : Type} {xs : Array α} {p : Nat} (h : p < xs.size) : (SetTable.eraseAt xs p).size + 1 = xs.size := by
  have := congrArg List.length (toList_eraseAt xs p)
  rw [List.length_append, List.length_take, List.length_drop, Array.length_toList, Array.length_toList] at this
  omega
theorem size_insertAt {α : Type} {xs : Array α} {p : Nat} {x : α} : (SetTable.insertAt xs p x).size = xs.size + 1 := by
  have := (SetTable.insertAt_perm xs p x).length_eq
  rw [Array.length_toList, Array.length_toList, Array.size_push] at this
  exact this
end Mine

namespace Mine
open PySem PySem.W PyProof.Rows PySem.Calls
set_option Elab.async false
set_option maxRecDepth 100000
set_option linter.unusedVariables false

/-- a table that has room and never gave way -/
structure TabOk (t : SetTable) (n : Nat) : Prop where
  pow : ∃ m, t.mask + 1 = 2 ^ m
  up : Up1 t.place
  size : t.place.size = n
  room : t.fill * 5 < t.mask * 3
  plain : t.plain = true
theorem TabOk.fits {t : SetTable} {n : Nat} (h : TabOk t n) : t.fits n = true := by
  unfold SetTable.fits
  have := h.room
  simp only [Bool.and_eq_true, beq_iff_eq, decide_eq_true_eq]
  exact ⟨h.size, by omega⟩
theorem tabOk_fresh (led : Bool) : TabOk (.fresh 0 0 led) 0 := ⟨⟨3, rfl⟩, List.Pairwise.nil, rfl, by cases led <;> decide, rfl⟩

theorem slot_empty {t : SetTable} {e : Nat} (h1 : e ∉ t.place.toList) (h2 : e ∉ t.dummies.toList) : t.slot e = .empty := by
  unfold SetTable.slot
  have e1 : (t.place[SetTable.below t.place e]? == some e) = false := by
    rw [beq_eq_false_iff_ne]
    intro q
    obtain ⟨hi, e'⟩ := Array.getElem?_eq_some_iff.mp q
    exact h1 (by rw [← e']; simp)
  have e2 : SetTable.has t.dummies e = false := by
    cases q : SetTable.has t.dummies e with
    | false => rfl
    | true => exact absurd (mem_of_has q) h2
  simp only [e1, e2, Bool.false_eq_true, if_false]
theorem slot_free {t : SetTable} {e : Nat} (h : t.slot e = .empty ∨ t.slot e = .dummy) : t.place[SetTable.below t.place e]? ≠ some e := by
  intro q
  unfold SetTable.slot at h
  have e1 : (t.place[SetTable.below t.place e]? == some e) = true := by simpa using q
  simp only [e1, if_true] at h
  rcases h with h | h <;> cases h
theorem slot_dummy {t : SetTable} {e : Nat} (h : t.slot e = .dummy) : SetTable.has t.dummies e = true := by
  have := slot_free (.inr h)
  unfold SetTable.slot at h
  have e1 : (t.place[SetTable.below t.place e]? == some e) = false := by rw [beq_eq_false_iff_ne]; exact this
  simp only [e1, Bool.false_eq_true, if_false] at h
  cases q : SetTable.has t.dummies e with
  | true => rfl
  | false => rw [q] at h; simp at h
theorem bits_lt (h : Int) : SetTable.bits h < 2 ^ 64 := by
  unfold SetTable.bits
  have h1 := Int.emod_lt_of_pos h (show (0 : Int) < 2 ^ 64 by decide)
  have h2 := Int.emod_nonneg h (show (2 ^ 64 : Int) ≠ 0 by decide)
  omega
theorem freeSlot_ok {t : SetTable} {n : Nat} (ok : TabOk t n) (h : Int) : ∃ slot wd, t.freeSlot h = some (slot, wd) ∧ slot ∉ t.place.toList ∧ (wd = true → SetTable.has t.dummies slot = true) := by
  obtain ⟨m, hm⟩ := ok.pow
  have hroom := ok.room
  obtain ⟨e, he1, he2⟩ : ∃ e, e < t.mask + 1 ∧ e ∉ t.place.toList ++ t.dummies.toList := by
    refine Classical.byContradiction fun hno => ?_
    have hsub : List.range (t.mask + 1) ⊆ t.place.toList ++ t.dummies.toList := fun e he => by
      refine Classical.byContradiction fun q => hno ⟨e, List.mem_range.mp he, q⟩
    have := List.Nodup.length_le_of_subset List.nodup_range hsub
    rw [List.length_range, List.length_append, Array.length_toList, Array.length_toList] at this
    have hf : t.fill = t.place.size + t.dummies.size := rfl
    omega
  have hse : t.slot e = .empty := slot_empty (fun q => he2 (List.mem_append_left _ q)) (fun q => he2 (List.mem_append_right _ q))
  obtain ⟨K, hK, hKe⟩ := leaps_all (i := SetTable.bits h % (t.mask + 1)) hm (bits_lt h) he1
  have h0 : AtTurn t (SetTable.bits h % (t.mask + 1), SetTable.bits h) (t.probeStart h) := ⟨rfl, rfl, rfl, rfl⟩
  obtain ⟨s, hs, hat⟩ := turn_at h0 K
  obtain ⟨j, d, hg, hj, hd⟩ := go_some (h := h) (10 * SetTable.turns t.mask) (t.probeStart h) (fun d e => nomatch e) ⟨s, by unfold SetTable.turns; omega, by rw [hat.j, hKe]; exact hse⟩
  unfold SetTable.freeSlot SetTable.probe
  rw [hg]
  refine ⟨d.getD j, d.isSome, rfl, ?_, fun hw => ?_⟩
  · cases d with
    | none => exact not_mem_of_below ok.up (slot_free (.inl hj))
    | some x => exact not_mem_of_below ok.up (slot_free (.inr (hd x rfl)))
  · cases d with
    | none => cases hw
    | some x => exact slot_dummy (hd x rfl)
/-- one more key in a table -/
theorem layNew_ok {t : SetTable} {es : Array (Int × Value)} (ok : TabOk t es.size) (h : Int) (x : Value) :
    ∃ es' t' wd g, layNew t es h x = (es', t', wd, g) ∧ es'.toList.Perm (es.push (h, x)).toList ∧ Up1 t'.place ∧ t'.place.size = es'.size ∧ t'.mask = t.mask ∧ t'.plain = t.plain ∧ t'.led = t.led ∧ t'.fill ≤ t.mask ∧ (wd = true → t'.fill * 5 < t'.mask * 3) := by
  obtain ⟨slot, wd, hf, hn, hw⟩ := freeSlot_ok ok h
  have hroom := ok.room
  have hperm := layNew_perm t es h x
  have hb := below_spec ok.up slot
  have hsz : (SetTable.insertAt t.place (SetTable.below t.place slot) slot).size = t.place.size + 1 := size_insertAt
  have hes : (SetTable.insertAt es (SetTable.below t.place slot) (h, x)).size = es.size + 1 := size_insertAt
  have hd : (if SetTable.has t.dummies slot = true then SetTable.eraseAt t.dummies (SetTable.below t.dummies slot) else t.dummies).size + (if SetTable.has t.dummies slot = true then 1 else 0) = t.dummies.size := by
    split
    · rename_i hh
      unfold SetTable.has at hh
      have : t.dummies[SetTable.below t.dummies slot]? = some slot := by simpa using hh
      exact size_eraseAt (Array.getElem?_eq_some_iff.mp this).1
    · rfl
  have hfl : t.fill = t.place.size + t.dummies.size := rfl
  have hfill : (t.put slot).1.fill + (if SetTable.has t.dummies slot = true then 1 else 0) = t.fill + 1 := by
    show (SetTable.insertAt t.place (SetTable.below t.place slot) slot).size + (if SetTable.has t.dummies slot = true then SetTable.eraseAt t.dummies (SetTable.below t.dummies slot) else t.dummies).size + _ = _
    omega
  have hfits : (t.put slot).1.fits (SetTable.insertAt es (t.put slot).2 (h, x)).size = true := by
    unfold SetTable.fits
    simp only [Bool.and_eq_true, beq_iff_eq, decide_eq_true_eq]
    refine ⟨?_, ?_⟩
    · show (SetTable.insertAt t.place (SetTable.below t.place slot) slot).size = (SetTable.insertAt es (SetTable.below t.place slot) (h, x)).size
      rw [hsz, hes, ok.size]
    · show (t.put slot).1.fill ≤ t.mask
      omega
  have hlay : layNew t es h x = (SetTable.insertAt es (t.put slot).2 (h, x), (t.put slot).1, wd, false) := by
    unfold layNew
    rw [hf]
    dsimp only
    unfold SetTable.orStandIn
    rw [if_pos hfits, hfits]; rfl
  rw [hlay] at hperm
  refine ⟨_, _, _, _, hlay, hperm, insert_up ok.up hn, ?_, rfl, rfl, rfl, by omega, fun q => ?_⟩
  · show (SetTable.insertAt t.place (SetTable.below t.place slot) slot).size = (SetTable.insertAt es (SetTable.below t.place slot) (h, x)).size
    rw [hsz, hes, ok.size]
  · rw [if_pos (hw q)] at hfill
    show (t.put slot).1.fill * 5 < t.mask * 3
    omega

/-- what stands in a table laid anew -/
def liveL (mask : Nat) (owner : Array (Option Nat)) : List (Nat × Nat) := (List.range (mask + 1)).filterMap fun j => (owner.getD j none).map (j, ·)
theorem live_fst {mask : Nat} {owner : Array (Option Nat)} : ((liveL mask owner).map (·.1)).Sublist (List.range (mask + 1)) := by
  unfold liveL
  generalize List.range (mask + 1) = l
  induction l with
  | nil => exact List.Sublist.refl _
  | cons a l ih =>
    rw [List.filterMap_cons]
    cases owner.getD a none with
    | none => exact ih.cons a
    | some k => exact ih.cons_cons a
theorem fm_congr {α β : Type} {f g : α → Option β} : ∀ {l : List α}, (∀ a ∈ l, g a = f a) → l.filterMap g = l.filterMap f
  | [], _ => rfl
  | a :: l, h => by rw [List.filterMap_cons, List.filterMap_cons, h a (by simp), fm_congr fun b hb => h b (List.mem_cons_of_mem _ hb)]
theorem filterMap_one {α β : Type} {f g : α → Option β} {j : α} {x : β} : ∀ {l : List α}, l.Nodup → j ∈ l → f j = none → g j = some x → (∀ a, a ≠ j → g a = f a) → (l.filterMap g).Perm (l.filterMap f ++ [x])
  | [], _, h, _, _, _ => absurd h (List.not_mem_nil)
  | a :: l, nd, h, hf, hg, ho => by
    have nd' := List.nodup_cons.mp nd
    by_cases e : a = j
    · subst e
      have same : l.filterMap g = l.filterMap f := fm_congr fun b hb => ho b fun q => nd'.1 (q ▸ hb)
      rw [List.filterMap_cons_some hg, List.filterMap_cons_none hf, same]
      exact (List.perm_append_singleton _ _).symm
    · have hm : j ∈ l := by
        rcases List.mem_cons.mp h with q | q
        · exact absurd q.symm e
        · exact q
      have ih := filterMap_one nd'.2 hm hf hg ho
      cases q : f a with
      | none =>
        rw [List.filterMap_cons_none ((ho a e).trans q), List.filterMap_cons_none q]
        exact ih
      | some y =>
        rw [List.filterMap_cons_some ((ho a e).trans q), List.filterMap_cons_some q]
        exact ih.cons y
theorem live_set {mask : Nat} {owner : Array (Option Nat)} {j k : Nat} (hs : owner.size = mask + 1) (hj : j < mask + 1) (hn : owner.getD j none = none) : (liveL mask (owner.setIfInBounds j (some k))).Perm (liveL mask owner ++ [(j, k)]) := by
  unfold liveL
  refine filterMap_one (j := j) List.nodup_range (List.mem_range.mpr hj) (by rw [hn]; rfl) ?_ fun a ha => ?_
  · have : (owner.setIfInBounds j (some k)).getD j none = some k := by
      rw [Array.getD_eq_getD_getElem?, Array.getElem?_setIfInBounds_self_of_lt (by omega)]; rfl
    rw [this]; rfl
  · have : (owner.setIfInBounds j (some k)).getD a none = owner.getD a none := by
      rw [Array.getD_eq_getD_getElem?, Array.getD_eq_getD_getElem?, Array.getElem?_setIfInBounds_ne (fun q => ha q.symm)]
    rw [this]
theorem free_some {mask : Nat} {owner : Array (Option Nat)} {e : Nat} (he : (owner.getD e (some 0)).isNone = true) : ∀ (fuel i q : Nat), (∃ K, K < fuel ∧ (leaps mask K (i, q)).1 = e) → ∃ j, SetTable.layClean.free mask owner fuel i q = some j ∧ (owner.getD j (some 0)).isNone = true
  | 0, i, q, ⟨K, hK, _⟩ => absurd hK (Nat.not_lt_zero _)
  | fuel + 1, i, q, ⟨K, hK, hKe⟩ => by
    unfold SetTable.layClean.free
    cases hf : (List.range (SetTable.runEnd mask i + 1 - i)).find? fun k => (owner.getD (i + k) (some 0)).isNone with
    | some k => exact ⟨i + k, rfl, List.find?_some (p := fun k => (owner.getD (i + k) (some 0)).isNone) hf⟩
    | none =>
      cases K with
      | zero =>
        have h0 : i = e := hKe
        have := List.find?_eq_none.mp hf 0 (List.mem_range.mpr (by have := (runEnd_le (mask := mask) (i := i)).2; omega))
        rw [Nat.add_zero, h0] at this
        exact absurd he this
      | succ K =>
        dsimp only
        refine free_some he fuel _ _ ⟨K, by omega, ?_⟩
        have := leaps_add (mask := mask) (p := (i, q)) K 1
        rw [this] at hKe
        exact hKe
theorem clean_ok {mask m : Nat} (hm : mask + 1 = 2 ^ m) : ∀ (l : List Int) (owner : Array (Option Nat)) (k : Nat), owner.size = mask + 1 → ((liveL mask owner).map (·.2)).Perm (List.range k) → k + l.length ≤ mask →
    ∃ owner', (l.foldl (init := some (owner, k)) fun acc h => do
      let (owner, k) ← acc
      let j ← SetTable.layClean.free mask owner (SetTable.turns mask) (SetTable.bits h % (mask + 1)) (SetTable.bits h)
      pure (owner.setIfInBounds j (some k), k + 1)) = some (owner', k + l.length) ∧ owner'.size = mask + 1 ∧ ((liveL mask owner').map (·.2)).Perm (List.range (k + l.length))
  | [], owner, k, hs, hp, hl => ⟨owner, rfl, hs, hp⟩
  | h :: l, owner, k, hs, hp, hl => by
    rw [List.length_cons] at hl
    obtain ⟨e, he1, he2⟩ : ∃ e, e < mask + 1 ∧ owner.getD e none = none := by
      refine Classical.byContradiction fun hno => ?_
      have hsub : List.range (mask + 1) ⊆ (liveL mask owner).map (·.1) := fun e he => by
        cases q : owner.getD e none with
        | none => exact absurd ⟨e, List.mem_range.mp he, q⟩ hno
        | some k' =>
          refine List.mem_map.mpr ⟨(e, k'), ?_, rfl⟩
          unfold liveL
          refine List.mem_filterMap.mpr ⟨e, he, ?_⟩
          rw [q]; rfl
      have h1 := List.Nodup.length_le_of_subset List.nodup_range hsub
      have h2 := hp.length_eq
      rw [List.length_map] at h1 h2
      rw [List.length_range] at h1 h2
      omega
    have he3 : (owner.getD e (some 0)).isNone = true := by
      have : e < owner.size := by omega
      simp [Array.getD, this] at he2 ⊢
      exact he2
    obtain ⟨K, hK, hKe⟩ := leaps_all (i := SetTable.bits h % (mask + 1)) hm (bits_lt h) he1
    obtain ⟨j, hj1, hj2⟩ := free_some (mask := mask) he3 (SetTable.turns mask) _ _ ⟨K, by unfold SetTable.turns; omega, hKe⟩
    have hjs : j < owner.size := by
      refine Nat.lt_of_not_le fun q => ?_
      have : ¬ j < owner.size := Nat.not_lt.mpr q
      simp [Array.getD, this] at hj2
    have hjn : owner.getD j none = none := by
      simp [Array.getD, hjs] at hj2 ⊢
      exact hj2
    have hp2 : ((liveL mask (owner.setIfInBounds j (some k))).map (·.2)).Perm (List.range (k + 1)) := by
      have := (live_set (k := k) hs (by omega) hjn).map (·.2)
      rw [List.map_append] at this
      rw [List.range_succ]
      exact this.trans (hp.append_right _)
    obtain ⟨owner', g1, g2, g3⟩ := clean_ok hm l (owner.setIfInBounds j (some k)) (k + 1) (by simpa using hs) hp2 (by omega)
    refine ⟨owner', ?_, g2, by rw [List.length_cons, show k + (l.length + 1) = k + 1 + l.length by omega]; exact g3⟩
    rw [List.foldl_cons, List.length_cons, show k + (l.length + 1) = k + 1 + l.length by omega, ← g1]
    congr 1
    show (do let j ← SetTable.layClean.free mask owner (SetTable.turns mask) (SetTable.bits h % (mask + 1)) (SetTable.bits h); pure (owner.setIfInBounds j (some k), k + 1)) = _
    rw [hj1]; rfl
theorem live_none {mask : Nat} : liveL mask (Array.replicate (mask + 1) none) = [] := by
  unfold liveL
  rw [List.filterMap_eq_nil_iff]
  intro j hj
  have : (Array.replicate (mask + 1) (none : Option Nat)).getD j none = none := by
    have hj' := List.mem_range.mp hj
    simp [Array.getD, hj']
  rw [this]; rfl
theorem sizeAbove_ok {n : Nat} (h : n < 2 ^ 60) : ∃ m, SetTable.sizeAbove n = 2 ^ m ∧ n < 2 ^ m := by
  have gen : ∀ (fuel m : Nat), 67 ≤ fuel + m → n < 2 ^ 60 → ∃ m', SetTable.sizeAbove.go n fuel (2 ^ m) = 2 ^ m' ∧ n < 2 ^ m' := by
    intro fuel
    induction fuel with
    | zero =>
      intro m hm hn
      exact ⟨m, rfl, Nat.lt_of_lt_of_le hn (Nat.pow_le_pow_right (by decide) (by omega))⟩
    | succ fuel ih =>
      intro m hm hn
      unfold SetTable.sizeAbove.go
      split
      · rw [← Nat.pow_succ]
        exact ih (m + 1) (by omega) hn
      · exact ⟨m, rfl, by omega⟩
  exact gen 64 3 (by decide) h
/-- a table laid anew -/
theorem relay_ok {t : SetTable} {es : Array (Int × Value)} (hpl : t.plain = true) {wanted : Nat} (hw : 2 * es.size < wanted) (hb : wanted < 2 ^ 60) :
    ∃ es' t', relayAll t es wanted = (es', t', false) ∧ es'.toList.Perm es.toList ∧ TabOk t' es'.size ∧ t'.led = t.led := by
  obtain ⟨m, hm, hlt⟩ := sizeAbove_ok hb
  have hpos : 0 < 2 ^ m := Nat.two_pow_pos m
  have hmask : SetTable.sizeAbove wanted - 1 + 1 = 2 ^ m := by omega
  generalize hM : SetTable.sizeAbove wanted - 1 = mask at *
  obtain ⟨owner, g1, g2, g3⟩ := clean_ok hmask (es.map (·.1)).toList (Array.replicate (mask + 1) none) 0 (by simp) (by rw [live_none]; exact .refl _) (by rw [Array.length_toList, Array.size_map]; omega)
  rw [Nat.zero_add, Array.length_toList, Array.size_map] at g1 g3
  have hlen : (liveL mask owner).length = es.size := by
    have := g3.length_eq
    rwa [List.length_map, List.length_range] at this
  have hclean : SetTable.layClean mask (es.map (·.1)) = some owner := by
    unfold SetTable.layClean
    rw [← Array.foldl_toList]
    have := congrArg (Option.map (·.1)) g1
    exact this
  have hrel : t.relaid (es.map (·.1)) wanted = some ({ mask, place := ((liveL mask owner).map (·.1)).toArray, dummies := #[], finger := t.finger, led := t.led, moves := t.movedTo mask, plain := t.plain }, ((liveL mask owner).map (·.2)).toArray) := by
    unfold SetTable.relaid SetTable.laid
    rw [hM, hclean]
    rfl
  have hperm := relayAll_perm t es wanted
  have hcov : coversAll ((liveL mask owner).map (·.2)).toArray es.size = true := by
    unfold coversAll
    rw [List.isPerm_iff]
    exact g3
  have hes : (((liveL mask owner).map (·.2)).toArray.filterMap (es[·]?)).size = es.size := by
    have h1 := g3.filterMap (es[·]?)
    rw [filterMap_getElem?_range] at h1
    have h2 := h1.length_eq
    have a : (((liveL mask owner).map (·.2)).toArray.filterMap (es[·]?)).size = (((liveL mask owner).map (·.2)).toArray.filterMap (es[·]?)).toList.length := (Array.length_toList ..).symm
    rw [a, Array.toList_filterMap, List.toList_toArray, h2]
    exact Array.length_toList
  have hfits : SetTable.fits { mask, place := ((liveL mask owner).map (·.1)).toArray, dummies := #[], finger := t.finger, led := t.led, moves := t.movedTo mask, plain := t.plain } (((liveL mask owner).map (·.2)).toArray.filterMap (es[·]?)).size = true := by
    unfold SetTable.fits SetTable.fill
    simp only [Bool.and_eq_true, beq_iff_eq, decide_eq_true_eq]
    rw [hes, List.size_toArray, List.length_map, hlen]
    exact ⟨rfl, by simp; omega⟩
  have hall : relayAll t es wanted = (((liveL mask owner).map (·.2)).toArray.filterMap (es[·]?), { mask, place := ((liveL mask owner).map (·.1)).toArray, dummies := #[], finger := t.finger, led := t.led, moves := t.movedTo mask, plain := t.plain }, false) := by
    unfold relayAll
    rw [hrel]
    dsimp only
    rw [hcov, hfits]
    rfl
  rw [hall] at hperm
  refine ⟨_, _, hall, hperm, ⟨⟨m, hmask⟩, ?_, ?_, ?_, hpl⟩, rfl⟩
  · unfold Up1
    rw [List.toList_toArray]
    exact List.pairwise_lt_range.sublist live_fst
  · rw [hes, List.size_toArray, List.length_map, hlen]
  · show (((liveL mask owner).map (·.1)).toArray.size + (#[] : Array Nat).size) * 5 < mask * 3
    rw [List.size_toArray, List.length_map, hlen]
    simp
    omega
/-- one key less -/
theorem drop_ok {t : SetTable} {n i : Nat} (ok : TabOk t (n + 1)) (hi : i < n + 1) : TabOk (t.drop i) n ∧ (t.drop i).led = t.led := by
  have hs := ok.size
  have hroom := ok.room
  have e : t.place[i]? = some t.place[i] := by simp [show i < t.place.size by omega]
  unfold SetTable.drop
  rw [e]
  dsimp only
  have h1 := size_eraseAt (xs := t.place) (p := i) (by omega)
  have h2 : (SetTable.insertAt t.dummies (SetTable.below t.dummies t.place[i]) t.place[i]).size = t.dummies.size + 1 := size_insertAt
  have hf : t.fill = t.place.size + t.dummies.size := rfl
  refine ⟨⟨ok.pow, ?_, by show (SetTable.eraseAt t.place i).size = n; omega, ?_, ok.plain⟩, rfl⟩
  · show ((SetTable.eraseAt t.place i).toList).Pairwise (· < ·)
    rw [toList_eraseAt]
    exact ok.up.sublist (erase_sublist _ _)
  · show ((SetTable.eraseAt t.place i).size + (SetTable.insertAt t.dummies (SetTable.below t.dummies t.place[i]) t.place[i]).size) * 5 < t.mask * 3
    omega
end Mine

namespace Mine
open PySem PySem.W PyProof.Rows PySem.Calls
set_option Elab.async false
set_option maxRecDepth 100000
set_option linter.unusedVariables false

/-- two elements bear no key in common -/
def NoSame {prog : Program} {w : World} (a b : Int × Value) : Prop := ¬ ∃ k, (intKind prog w).is k a.2 = true ∧ (intKind prog w).is k b.2 = true
theorem noSame_symm {prog : Program} {w : World} {a b : Int × Value} (h : NoSame (prog := prog) (w := w) a b) : NoSame (prog := prog) (w := w) b a := fun ⟨k, h1, h2⟩ => h ⟨k, h2, h1⟩
def byText (X : Cx) : Bool := X.w.params.followText "set-order"
structure ISd (X : Cx) (ks : List Int) (es : Array (Int × Value)) (t : SetTable) : Prop where
  el : ElemsOf (intKind X.prog X.w) es.toList
  mem : ∀ k, k ∈ ks ↔ ∃ e ∈ es.toList, (intKind X.prog X.w).is k e.2 = true
  apart : es.toList.Pairwise (NoSame (prog := X.prog) (w := X.w))
  size : es.size = ks.length
  tab : TabOk t es.size
  led : byText X = true ∨ t.led = true
/-- sets of whole numbers -/
def IS (X : Cx) (ks : List Int) (o : Obj) : Prop := o.ExactSet ∧ ks.Nodup ∧ ∃ es ep t, o.data = .set es ep t ∧ ISd X ks es t
theorem is_noseq {X : Cx} {ks : List Int} {o : Obj} (h : IS X ks o) : NoSeq o := by
  obtain ⟨_, _, es, ep, t, hd, _⟩ := h
  intro xs n e
  rw [hd] at e; cases e

section
variable {X : Cx} {A : Around} {E : Value → Shared → Prop} {s : Shared}

theorem store_at {a : Addr} {o : Obj} {es es' : Array (Int × Value)} {ep : Nat} {t t' : SetTable} {Q : Unit → Shared → Prop} (ho : s.heap.get? a = some o) (hex : o.ExactSet) (hd : o.data = .set es ep t) (hz : es'.size < scanBound)
    (h : ∀ h' o', Heap.SameBut a s.heap h' → h'.get? a = some o' → o'.ExactSet → o'.data = .set es' (ep + 1) t' → Q () { s with heap := h' }) : wpAny X.M A (storeSet a es' t') Q E s := by
  refine wpAny_storeSet_of ho hd (h _ { o with data := .set es' (ep + 1) t' } (Heap.SameBut.update ..) ?_ hex rfl) (fits_of_scanBound hz)
  have := Heap.get?_update_self (Obj.putSet es' t') ho (by rw [putSet_of es' t' hd]; rfl)
  rw [putSet_of es' t' hd] at this
  exact this

theorem setT_int (X : Cx) : SetT X (intKind X.prog X.w) (IS X) where
  exact := fun h => ⟨h.1, is_noseq h⟩
  fresh := ⟨⟨rfl, rfl, rfl⟩, List.nodup_nil, #[], 0, _, rfl, ⟨fun e he => by simp at he, fun k => by simp, List.Pairwise.nil, rfl, tabOk_fresh _, by
    show byText X = true ∨ (!X.w.params.followText "set-order") = true
    unfold byText
    cases X.w.params.followText "set-order"
    · exact .inr rfl
    · exact .inl rfl⟩⟩
  add := by
    intro A E s a o ks k x Q hkey hsc ho hS hroom h
    obtain ⟨hex, hnd, es, ep, t, hd, D⟩ := hS
    have hf := D.tab.fits
    have hb : es.size < scanBound := by rw [D.size]; omega
    unfold setAddHashed setAddHashedIn
    refine wpAny_holding (wpAny_bind (wpAny_setState_of ho hd hf ?_))
    dsimp only
    rw [byScan_of hsc hb D.el]
    simp only [↓reduceIte]
    unfold setAddByScan
    refine wpAny_bind ?_
    refine wpAny_bind (wpAny_rule ?_)
    refine wpAny_bind (wpAny_setScan_of hkey ho hd hf D.el ?_)
    cases hr : List.findIdx? (fun e => (intKind X.prog X.w).is k e.2) es.toList with
    | some j =>
      dsimp only
      obtain ⟨hj, hpj, _⟩ := List.findIdx?_eq_some_iff_getElem.mp hr
      have hk : k ∈ ks := (D.mem k).mpr ⟨es.toList[j], List.getElem_mem hj, hpj⟩
      refine wpAny_pure (wpAny_pure ?_)
      have e1 : addK ks k = ks := by unfold addK; rw [if_pos hk]
      exact h _ s.heap o (Heap.SameBut.refl a s.heap) ho (by rw [e1]; exact ⟨hex, hnd, es, ep, t, hd, D⟩)
    | none =>
      dsimp only
      have hnone := List.findIdx?_eq_none_iff.mp hr
      have hk : k ∉ ks := fun q => by
        obtain ⟨e, he, hp⟩ := (D.mem k).mp q
        have := hnone e he
        rw [hp] at this; cases this
      have e1 : addK ks k = ks ++ [k] := by unfold addK; rw [if_neg hk]
      obtain ⟨es1, t1, wd, g, hL, hperm, hup, hsz, hmask, hpl, hled, hfill, hwd⟩ := layNew_ok D.tab ((intKind X.prog X.w).hash k) x
      rw [hL]
      dsimp only
      rw [Array.toList_push] at hperm
      have hsz1 : es1.size = ks.length + 1 := by
        have := hperm.length_eq
        rw [Array.length_toList, List.length_append, Array.length_toList, D.size] at this
        simpa using this
      have hb1 : es1.size < scanBound := by omega
      have hgw : ∀ (b : Bool) {s₁ : Shared} {Q' : Unit → Shared → Prop}, Q' () s₁ → wpAny X.M A (match b with | true => rule "set.scan.the-table-gave-way" | false => pure ()) Q' E s₁ :=
        fun b s₁ Q' hq => by cases b <;> first | exact wpAny_pure hq | exact wpAny_rule hq
      have hel1 : ElemsOf (intKind X.prog X.w) es1.toList := (D.el.push hkey hsc).perm hperm
      have hmem1 : ∀ k', k' ∈ addK ks k ↔ ∃ e ∈ es1.toList, (intKind X.prog X.w).is k' e.2 = true := fun k' => by
        rw [mem_addK, D.mem k']
        constructor
        · rintro (⟨e, he, hp⟩ | rfl)
          · exact ⟨e, hperm.mem_iff.mpr (List.mem_append_left _ he), hp⟩
          · exact ⟨_, hperm.mem_iff.mpr (List.mem_append_right _ (List.mem_singleton.mpr rfl)), hkey⟩
        · rintro ⟨e, he, hp⟩
          rcases List.mem_append.mp (hperm.mem_iff.mp he) with he | he
          · exact .inl ⟨e, he, hp⟩
          · rw [List.mem_singleton.mp he] at hp
            exact .inr ((intKind X.prog X.w).inj x k' k hp hkey)
      have hap1 : es1.toList.Pairwise (NoSame (prog := X.prog) (w := X.w)) := by
        refine (List.Perm.pairwise_iff (fun h => noSame_symm h) hperm).mpr (List.pairwise_append.mpr ⟨D.apart, by simp, fun e he e' he' => ?_⟩)
        rw [List.mem_singleton.mp he']
        rintro ⟨k', h1, h2⟩
        have := (intKind X.prog X.w).inj x k' k h2 hkey
        subst this
        exact absurd h1 (by rw [hnone e he]; decide)
      have hnd1 := addK_nodup (k := k) hnd
      have hlen1 : es1.size = (addK ks k).length := by rw [e1, List.length_append]; simpa using hsz1
      have hled1 : byText X = true ∨ t1.led = true := by rw [hled]; exact D.led
      have hplain1 : t1.plain = true := by rw [hpl]; exact D.tab.plain
      refine wpAny_bind (hgw g ?_)
      rw [hplain1]
      simp only [if_true]
      have hpk : plainKind x = true := by
        obtain ⟨tk, rfl⟩ := Value.isInt_shape hkey
        rfl
      rw [hashByValue_scannable 8 hsc, hpk]
      refine wpAny_bind (wpAny_pure ?_)
      simp only [if_true]
      refine wpAny_bind (store_at ho hex hd hb1 fun h1 o1 sb1 ho1 hex1 hd1 => ?_)
      by_cases hc : (!wd && t1.tooFull) = true
      · rw [if_pos hc]
        have hgr : SetTable.grown es1.size = es1.size * 4 := by
          unfold SetTable.grown
          unfold scanBound at hb1
          rw [if_neg (by omega)]
        obtain ⟨es2, t2, hR, hp2, ok2, hled2⟩ := relay_ok (es := es1) (t := t1) hplain1 (wanted := SetTable.grown es1.size) (by rw [hgr]; omega) (by rw [hgr]; unfold scanBound at hb1; omega)
        rw [hR]
        dsimp only
        have hsz2 : es2.size = es1.size := by rw [← Array.length_toList, hp2.length_eq, Array.length_toList]
        refine wpAny_bind (hgw false ?_)
        refine wpAny_bind (store_at (s := { s with heap := h1 }) ho1 hex1 hd1 (by omega) fun h2 o2 sb2 ho2 hex2 hd2 => ?_)
        refine wpAny_pure (wpAny_pure ?_)
        refine h _ h2 o2 (sb1.trans sb2) ho2 ⟨hex2, hnd1, es2, _, t2, hd2, ⟨hel1.perm hp2, fun k' => (hmem1 k').trans ⟨fun ⟨e, he, q⟩ => ⟨e, hp2.mem_iff.mpr he, q⟩, fun ⟨e, he, q⟩ => ⟨e, hp2.mem_iff.mp he, q⟩⟩, (List.Perm.pairwise_iff (fun h => noSame_symm h) hp2).mpr hap1, by omega, ok2, by rw [hled2]; exact hled1⟩⟩
      · rw [if_neg hc]
        refine wpAny_pure (wpAny_pure ?_)
        have hroom1 : t1.fill * 5 < t1.mask * 3 := by
          cases wd with
          | true => exact hwd rfl
          | false =>
            have : t1.tooFull = false := by simpa using hc
            unfold SetTable.tooFull at this
            simp at this
            omega
        exact h _ h1 o1 sb1 ho1 ⟨hex1, hnd1, es1, _, t1, hd1, ⟨hel1, hmem1, hap1, hlen1, ⟨by rw [hmask]; exact D.tab.pow, hup, hsz, hroom1, hplain1⟩, hled1⟩⟩

/-- a key is taken out -/
theorem discard_at {a : Addr} {o : Obj} {ks : List Int} {k : Int} {x : Value} {Q : Bool → Shared → Prop} (hkey : (intKind X.prog X.w).is k x = true) (hsc : x.scannable = true) (ho : s.heap.get? a = some o) (hS : IS X ks o) (hz : ks.length < scanBound) (hk : k ∈ ks)
    (h : ∀ h' o', Heap.SameBut a s.heap h' → h'.get? a = some o' → IS X (ks.erase k) o' → Q true { s with heap := h' }) : wpAny X.M A (setDiscardHashed a x ((intKind X.prog X.w).hash k)) Q E s := by
  obtain ⟨hex, hnd, es, ep, t, hd, D⟩ := hS
  have hf := D.tab.fits
  have hb : es.size < scanBound := by rw [D.size]; exact hz
  unfold setDiscardHashed setFind setFindIn
  refine wpAny_bind (wpAny_bind (wpAny_setState_of ho hd hf ?_))
  dsimp only
  rw [byScan_of hsc hb D.el]
  simp only [↓reduceIte]
  refine wpAny_bind (wpAny_rule ?_)
  refine wpAny_bind (wpAny_setScan_of hkey ho hd hf D.el ?_)
  cases hr : List.findIdx? (fun e => (intKind X.prog X.w).is k e.2) es.toList with
  | none =>
    obtain ⟨e, he, hp⟩ := (D.mem k).mp hk
    have := List.findIdx?_eq_none_iff.mp hr e he
    rw [hp] at this; cases this
  | some j =>
    dsimp only
    obtain ⟨hj, hpj, _⟩ := List.findIdx?_eq_some_iff_getElem.mp hr
    have hj' : j < es.size := by simpa using hj
    rw [Nat.zero_add]
    refine wpAny_pure ?_
    dsimp only
    refine wpAny_bind (wpAny_setState_of ho hd hf ?_)
    dsimp only
    have hse := size_eraseAt hj'
    have hte := toList_eraseAt es j
    obtain ⟨n, hn⟩ : ∃ n, es.size = n + 1 := ⟨es.size - 1, by omega⟩
    have htab := D.tab
    rw [hn] at htab
    obtain ⟨ok, hled⟩ := drop_ok htab (i := j) (by omega)
    have hsub : (SetTable.eraseAt es j).toList.Sublist es.toList := by rw [hte]; exact erase_sublist _ _
    refine wpAny_bind (store_at ho hex hd (by omega) fun h1 o1 sb1 ho1 hex1 hd1 => ?_)
    refine wpAny_bind (wpAny_point (wpAny_pure (h h1 o1 sb1 ho1 ⟨hex1, hnd.erase k, _, _, _, hd1, ⟨fun e he => D.el e (hsub.subset he), fun k' => ?_, D.apart.sublist hsub, ?_, ?_, by rw [hled]; exact D.led⟩⟩)))
    · rw [hnd.mem_erase_iff, D.mem k', hte]
      constructor
      · rintro ⟨hne, e, he, hp⟩
        obtain ⟨i, hi, rfl⟩ := List.getElem_of_mem he
        have hij : i ≠ j := fun q => by
          subst q
          exact hne ((intKind X.prog X.w).inj _ _ _ hp hpj)
        refine ⟨_, ?_, hp⟩
        rcases Nat.lt_or_gt_of_ne hij with q | q
        · exact List.mem_append_left _ (List.mem_iff_getElem.mpr ⟨i, by rw [List.length_take]; omega, by rw [List.getElem_take]⟩)
        · refine List.mem_append_right _ (List.mem_iff_getElem.mpr ⟨i - (j + 1), by rw [List.length_drop]; omega, ?_⟩)
          rw [List.getElem_drop]
          congr 1
          omega
      · rintro ⟨e, he, hp⟩
        refine ⟨fun q => ?_, e, hsub.subset (by rw [hte]; exact he), hp⟩
        subst q
        rcases List.mem_append.mp he with he | he
        · obtain ⟨i, hi, rfl⟩ := List.getElem_of_mem he
          rw [List.length_take] at hi
          rw [List.getElem_take] at hp
          exact List.pairwise_iff_getElem.mp D.apart i j (by omega) hj (by omega) ⟨_, hp, hpj⟩
        · obtain ⟨i, hi, rfl⟩ := List.getElem_of_mem he
          rw [List.length_drop] at hi
          rw [List.getElem_drop] at hp
          exact List.pairwise_iff_getElem.mp D.apart j (j + 1 + i) hj (by omega) (by omega) ⟨_, hpj, hp⟩
    · rw [List.length_erase_of_mem hk, ← D.size]; omega
    · have e2 : (SetTable.eraseAt es j).size = n := by omega
      rw [e2]; exact ok
end
end Mine

namespace Mine
open PySem PySem.W PyProof.Rows PySem.Calls
set_option Elab.async false
set_option maxRecDepth 100000
set_option linter.unusedVariables false
theorem entry_set_iter : entryFor table "set.__iter__" = some Builtin.«frozenset.__iter__» :=
  entryFor_alias (id' := "frozenset.__iter__") (by kernel_rfl) rfl (by decide +kernel) (by kernel_rfl)
theorem owner_set_iterator : Manifest.owners.lookup (String.ofList ['r', 'o', 't', 'a', 'r', 'e', 't', 'i', '_', 't', 'e', 's'].reverse) = some Manifest.sig_set_iterator := by kernel_rfl
theorem slot_set_iterator_next : Slot "set_iterator" "__next__" "set_iterator.__next__" :=
  .of (owner := "set_iterator") (n := "__next__") (by rw [typeLookup_type, builtinLookup_eq_fast]; kernel_rfl) (by decide +kernel) (by decide +kernel) (by decide +kernel)
    (by first | exact .inl (by decide +kernel) | exact .inr (by decide +kernel)) (by rw [isSubtype_type]; kernel_rfl)
theorem entry_set_iterator_next : entryFor table "set_iterator.__next__" = some Builtin.«set_iterator.__next__» := entryFor_of_tree (by kernel_rfl)
theorem args_set_iterator_next_1 (a : Value) : argsOk "set_iterator.__next__" ⟨[a], []⟩ := by
  unfold argsOk; rw [signature?_of (id := "set_iterator.__next__") (n := ['_', '_', 't', 'x', 'e', 'n', '_', '_']) (o := ['r', 'o', 't', 'a', 'r', 'e', 't', 'i', '_', 't', 'e', 's']) (by kernel_rfl) owner_set_iterator]; kernel_rfl
theorem slot_set_iterator_iter : Slot "set_iterator" "__iter__" "set_iterator.__iter__" :=
  .of (owner := "set_iterator") (n := "__iter__") (by rw [typeLookup_type, builtinLookup_eq_fast]; kernel_rfl) (by decide +kernel) (by decide +kernel) (by decide +kernel)
    (by first | exact .inl (by decide +kernel) | exact .inr (by decide +kernel)) (by rw [isSubtype_type]; kernel_rfl)
theorem entry_set_iterator_iter : entryFor table "set_iterator.__iter__" = some Builtin.«dict_keyiterator.__iter__» :=
  entryFor_alias (id' := "dict_keyiterator.__iter__") (by kernel_rfl) rfl (by decide +kernel) (by kernel_rfl)
theorem args_set_iterator_iter_1 (a : Value) : argsOk "set_iterator.__iter__" ⟨[a], []⟩ := by
  unfold argsOk; rw [signature?_of (id := "set_iterator.__iter__") (n := ['_', '_', 'r', 'e', 't', 'i', '_', '_']) (o := ['r', 'o', 't', 'a', 'r', 'e', 't', 'i', '_', 't', 'e', 's']) (by kernel_rfl) owner_set_iterator]; kernel_rfl

theorem pick_perm {α : Type} (next : Nat → Nat) : ∀ (fuel k : Nat) (left : List α) (out : Array α), left.length ≤ fuel → (pickOrder.go next fuel k left out).toList.Perm (out.toList ++ left)
  | 0, k, left, out, h => by
    have : left = [] := List.length_eq_zero_iff.mp (by omega)
    subst this
    unfold pickOrder.go
    rw [List.append_nil]
  | fuel + 1, k, left, out, h => by
    unfold pickOrder.go
    cases left with
    | nil => simp
    | cons a l =>
      have hi : next k % (a :: l).length < (a :: l).length := Nat.mod_lt _ (by simp)
      generalize hidx : next k % (a :: l).length = i at *
      have e : (a :: l)[i]? = some (a :: l)[i] := List.getElem?_eq_getElem hi
      rw [e]
      dsimp only
      refine (pick_perm next fuel (k + 1) _ _ (by rw [List.length_eraseIdx_of_lt hi]; omega)).trans ?_
      rw [Array.toList_push, List.append_assoc]
      refine List.Perm.append_left _ ?_
      show ((a :: l)[i] :: (a :: l).eraseIdx i).Perm (a :: l)
      have h1 : (a :: l).eraseIdx i = (a :: l).take i ++ (a :: l).drop (i + 1) := List.eraseIdx_eq_take_drop_succ ..
      rw [h1]
      have h2 : (a :: l) = (a :: l).take i ++ (a :: l)[i] :: (a :: l).drop (i + 1) := by
        rw [← List.drop_eq_getElem_cons hi, List.take_append_drop]
      conv => rhs; rw [h2]
      exact List.perm_middle.symm

/-- the order in which a set is gone over -/
def ordOf (X : Cx) (a : Addr) (es : Array (Int × Value)) (ep : Nat) : Array (Int × Value) := if byText X = true then pickOrder (X.w.params.setOrder a ep) es else es
theorem ord_perm {X : Cx} {a : Addr} {es : Array (Int × Value)} {ep : Nat} : (ordOf X a es ep).toList.Perm es.toList := by
  unfold ordOf
  split
  · unfold pickOrder
    have := pick_perm (X.w.params.setOrder a ep) es.size 0 es.toList #[] (by rw [Array.length_toList]; exact Nat.le_refl _)
    simpa using this
  · exact .refl _
theorem ord_size {X : Cx} {a : Addr} {es : Array (Int × Value)} {ep : Nat} : (ordOf X a es ep).size = es.size := by
  rw [← Array.length_toList, ord_perm.length_eq, Array.length_toList]

/-- the place of the search stands for the turn -/
def SlotAt (X : Cx) (t : SetTable) (i : Nat) (slot : Nat) : Prop := byText X = true ∨ SetTable.below t.place slot = i
theorem slotAt_zero {X : Cx} {t : SetTable} (h : Up1 t.place) : SlotAt X t 0 0 := by
  right
  obtain ⟨h1, h2, _⟩ := below_spec h 0
  rcases Nat.eq_zero_or_pos (SetTable.below t.place 0) with q | q
  · exact q
  · exact absurd (h2 0 (by omega) q) (Nat.not_lt_zero _)
theorem slotAt_succ {X : Cx} {t : SetTable} (h : Up1 t.place) {i : Nat} (hi : i < t.place.size) : SlotAt X t (i + 1) (t.place[i] + 1) := by
  right
  obtain ⟨h1, h2, h3⟩ := below_spec h (t.place[i] + 1)
  have a1 : i < SetTable.below t.place (t.place[i] + 1) := by
    refine Nat.lt_of_not_le fun q => ?_
    have := h3 i hi q
    omega
  refine Nat.le_antisymm (Nat.le_of_not_lt fun q => ?_) a1
  have hlt : i + 1 < t.place.size := by omega
  have h4 := h2 (i + 1) hlt q
  have h5 := List.pairwise_iff_getElem.mp h i (i + 1) (by simpa using hi) (by simpa using hlt) (Nat.lt_succ_self i)
  simp at h5
  omega

/-- an iterator of a set -/
def IsSetIt (X : Cx) (h : Heap) (I a : Addr) (i n ep : Nat) (t : SetTable) : Prop :=
  ∃ slot : Nat, SlotAt X t i slot ∧ ∃ o, h.get? I = some o ∧ o.cls = .type "set_iterator" ∧ o.data = .fields #[.int slot 0, .int i 0, .ref a, .int n 0, .int ep 0]

section
variable {X : Cx} {A : Around} {E : Value → Shared → Prop} {s : Shared} {I a : Addr} {ob : Obj} {es : Array (Int × Value)} {ep : Nat} {t : SetTable}

theorem iter_set {Q : Value → Shared → Prop} (ho : s.heap.get? a = some ob) (hc : ob.cls = .type "set") (hd : ob.data = .set es ep t) (ok : TabOk t es.size)
    (h : Q (.ref s.heap.objs.size) { s with heap := s.heap.push { cls := .type "set_iterator", data := .fields #[.int 0 0, .int 0 0, .ref a, .int es.size 0, .int ep 0] } }) : wpAny X.M A (pyIter (.ref a)) Q E s := by
  have hT : s.TypeIs (.ref a) "set" := ⟨ob, ho, hc⟩
  refine wpAny_pyIter_slot hT F.slot_set_iter (wpAny_call_entry F.slot_set_iter hT entry_set_iter ?_ (F.args_set_iter_1 _))
  unfold Builtin.«frozenset.__iter__»
  refine wpAny_bind (wpAny_of_eq (show Builtin.Frozenset.slot0 "__iter__" ⟨[.ref a], []⟩ = pure a from rfl) ?_)
  unfold Builtin.Frozenset.sizeOf
  refine wpAny_bind (wpAny_bind (wpAny_setEntries_of ho hd ok.fits (wpAny_pure ?_)))
  unfold setDrawn setsByText
  refine wpAny_bind (wpAny_bind (wpAny_setState_of ho hd ok.fits ?_))
  dsimp only
  refine wpAny_bind (wpAny_bind (wpAny_askSetting (wpAny_pure ?_)))
  refine wpAny_pure ?_
  have e : (!X.w.params.followText "set-order" && (!t.plain && decide (es.size > 1))) = false := by rw [ok.plain]; cases X.w.params.followText "set-order" <;> rfl
  show wpAny _ _ (if (!X.w.params.followText "set-order" && (!t.plain && decide (es.size > 1))) = true then _ else _) _ _ _
  rw [e, if_neg (by decide)]
  refine wpAny_bind (wpAny_pure ?_)
  refine wpAny_bind (wpAny_setEpoch_of ho hd ok.fits ?_)
  refine wpAny_bind (wpAny_newObj_type (wpAny_pure ⟨_, rfl, "set_iterator", _, ⟨_, Heap.get?_push_size _ rfl, rfl⟩, slot_set_iterator_next.lookup, ?_⟩))
  exact h

theorem next_set (D : ob.data = .set es ep t) (ok : TabOk t es.size) (hled : byText X = true ∨ t.led = true) {i slot : Nat} {Q : Option (Value × Nat) → Shared → Prop} (ho : s.heap.get? a = some ob) (hs : SlotAt X t i slot)
    (h1 : ∀ e j, (ordOf X a es ep)[i]? = some e → SlotAt X t (i + 1) j → Q (some (e.2, j)) s) (h2 : (ordOf X a es ep)[i]? = none → Q none s) : wpAny X.M A (setNext a slot i ep) Q E s := by
  have hf := ok.fits
  unfold setNext setsByText
  refine wpAny_bind (wpAny_setState_of ho D hf ?_)
  dsimp only
  refine wpAny_bind (wpAny_bind (wpAny_askSetting (wpAny_pure ?_)))
  cases hb : X.w.params.followText "set-order" with
  | true =>
    have hb' : byText X = true := hb
    have hord : ordOf X a es ep = pickOrder (X.w.params.setOrder a ep) es := by unfold ordOf; rw [if_pos hb']
    show wpAny _ _ (if X.w.params.followText "set-order" = true then _ else _) _ _ _
    rw [hb, if_pos rfl, if_neg (by simp)]
    unfold setWalk setsByText
    refine wpAny_bind (wpAny_bind (wpAny_setState_of ho D hf ?_))
    dsimp only
    refine wpAny_bind (wpAny_bind (wpAny_askSetting (wpAny_pure ?_)))
    show wpAny _ _ (if X.w.params.followText "set-order" = true then _ else _) _ _ _
    rw [hb, if_pos rfl]
    refine wpAny_bind (wpAny_askSetting (wpAny_pure ?_))
    show wpAny _ _ (pure (((pickOrder (X.w.params.setOrder a ep) es)[i]?).map fun e => (e.2, slot))) _ _ _
    rw [← hord]
    refine wpAny_pure ?_
    cases he : (ordOf X a es ep)[i]? with
    | none => exact h2 he
    | some e => exact h1 e slot he (.inl hb')
  | false =>
    have hb' : byText X = false := hb
    have hord : ordOf X a es ep = es := by unfold ordOf; rw [hb']; rfl
    have hl : t.led = true := by
      rcases hled with q | q
      · rw [hb'] at q; cases q
      · exact q
    have hsl : SetTable.below t.place slot = i := by
      rcases hs with q | q
      · rw [hb'] at q; cases q
      · exact q
    show wpAny _ _ (if X.w.params.followText "set-order" = true then _ else _) _ _ _
    rw [hb, if_neg (by decide)]
    show wpAny _ _ (if (!t.plain && decide (es.size > 1)) = true then _ else _) _ _ _
    rw [ok.plain, if_neg (by simp)]
    show wpAny _ _ ((if (!t.led && !es.isEmpty) = true then _ else _) >>= _) _ _ _
    rw [hl, if_neg (by simp)]
    refine wpAny_bind (wpAny_pure ?_)
    rw [hsl]
    refine wpAny_pure ?_
    rw [hord] at h1 h2
    cases he : es[i]? with
    | none => exact h2 he
    | some e =>
      have hi : i < es.size := (Array.getElem?_eq_some_iff.mp he).1
      have hp : t.place[i]? = some (t.place[i]'(by rw [ok.size]; exact hi)) := by simp [ok.size, hi]
      rw [hp]
      exact h1 e _ he (slotAt_succ ok.up (by rw [ok.size]; exact hi))

theorem Walks.set (hh : A.handled = none) (hne : a ≠ I) (hc : ob.cls = .type "set") (hd : ob.data = .set es ep t) (ok : TabOk t es.size) (hled : byText X = true ∨ t.led = true) :
    Walks X.prog X.w A I [I, a] [I] es.size (fun i v => ∃ e, (ordOf X a es ep)[i]? = some e ∧ v = e.2) (fun i h => IsSetIt X h I a i es.size ep t ∧ h.get? a = some ob) where
  sub := fun b hb => by simp at hb; simp [hb]
  frame := fun i h h' st hk => by
    obtain ⟨⟨slot, hs, o, ho, r⟩, ha⟩ := st
    exact ⟨⟨slot, hs, o, hk I (by simp) o ho, r⟩, hk a (by simp) ob ha⟩
  item := fun i s Q E hi st hQ => by
    obtain ⟨⟨slot, hs, o, ho, hoc, hod⟩, ha⟩ := st
    have hT : s.TypeIs (.ref I) "set_iterator" := ⟨o, ho, hoc⟩
    unfold pyNext
    refine wpAny_bind (wpAny_attempt (wpAny_callSpecial?_slot (name := Str.ofString "__next__") hT slot_set_iterator_next (wpAny_call_entry slot_set_iterator_next hT entry_set_iterator_next ?_ (args_set_iterator_next_1 _))))
    unfold Builtin.«set_iterator.__next__»
    refine wpAny_bind (wpAny_of_eq (show slotArgs "__next__" 0 ⟨[.ref I], []⟩ = pure (.ref I, []) from rfl) ?_)
    refine wpAny_bind (wpAny_fieldsOf ho hod ?_)
    dsimp only
    refine wpAny_bind (wpAny_setEntries_of ha hd ok.fits ?_)
    rw [if_neg (by simp)]
    simp only [Int.toNat_natCast]
    refine wpAny_bind (next_set hd ok hled ha hs (fun e j he hj => ?_) fun he => ?_)
    · dsimp only
      refine wpAny_bind (wpAny_setField ho hod (by simp) ?_)
      have g1 : (s.heap.update I (Obj.mapFields (·.setIfInBounds 0 (rawInt (j : Nat))))).get? I = some (o.mapFields (·.setIfInBounds 0 (rawInt (j : Nat)))) := Heap.get?_update_self _ ho (Obj.isFreed_of_fields (Obj.data_mapFields hod _))
      have d1 : (o.mapFields (·.setIfInBounds 0 (rawInt (j : Nat)))).data = .fields #[.int (j : Nat) 0, .int (i : Nat) 0, .ref a, .int (es.size : Nat) 0, .int (ep : Nat) 0] := by
        rw [Obj.data_mapFields hod]; simp [rawInt]
      refine wpAny_bind (wpAny_setField g1 d1 (by simp) (wpAny_pure ⟨_, rfl, wpAny_pure ?_⟩))
      have s1 := Heap.SameBut.update s.heap I (Obj.mapFields (·.setIfInBounds 0 (rawInt (j : Nat))))
      have s2 := Heap.SameBut.update (s.heap.update I (Obj.mapFields (·.setIfInBounds 0 (rawInt (j : Nat))))) I (Obj.mapFields (·.setIfInBounds 1 (rawInt ((i : Int) + 1))))
      refine hQ _ _ s.toks ⟨e, he, rfl⟩ ⟨⟨j, hj, _, Heap.get?_update_self _ g1 (Obj.isFreed_of_fields (Obj.data_mapFields d1 _)), ?_, ?_⟩, ?_⟩ fun b o hb e => (s1.trans s2).extBut b o (fun q => hb (by simp [q])) e
      · exact (Obj.cls_mapFields ..).trans ((Obj.cls_mapFields ..).trans hoc)
      · rw [Obj.data_mapFields d1]; simp [rawInt]
      · exact ((s1.trans s2).2 a hne).trans ha
    · have hlt : i < (ordOf X a es ep).size := by rw [ord_size]; exact hi
      rw [Array.getElem?_eq_getElem hlt] at he
      cases he
  done := fun s Q E st hQ => by
    obtain ⟨⟨slot, hs, o, ho, hoc, hod⟩, ha⟩ := st
    have hT : s.TypeIs (.ref I) "set_iterator" := ⟨o, ho, hoc⟩
    unfold pyNext
    refine wpAny_bind (wpAny_attempt (wpAny_callSpecial?_slot (name := Str.ofString "__next__") hT slot_set_iterator_next (wpAny_call_entry slot_set_iterator_next hT entry_set_iterator_next ?_ (args_set_iterator_next_1 _))))
    unfold Builtin.«set_iterator.__next__»
    refine wpAny_bind (wpAny_of_eq (show slotArgs "__next__" 0 ⟨[.ref I], []⟩ = pure (.ref I, []) from rfl) ?_)
    refine wpAny_bind (wpAny_fieldsOf ho hod ?_)
    dsimp only
    refine wpAny_bind (wpAny_setEntries_of ha hd ok.fits ?_)
    rw [if_neg (by simp)]
    simp only [Int.toNat_natCast]
    refine wpAny_bind (next_set hd ok hled ha hs (fun e j he hj => ?_) fun he => ?_)
    · have : ¬ es.size < (ordOf X a es ep).size := by rw [ord_size]; omega
      rw [Array.getElem?_eq_none (Nat.le_of_not_lt this)] at he
      cases he
    · dsimp only
      refine wpAny_bind (wpAny_setField ho hod (by simp) ?_)
      show wpAny _ _ (newExc (.type "StopIteration") [] >>= _) _ _ _
      refine wpAny_bind ?_
      simp only [newExc, newTuple]
      refine wpAny_bind (wpAny_newObj_type ?_ (by size_fits))
      refine wpAny_bind (m := firstArgMember _ _) (wpAny_of_eq (a := Value.none) (by first | rfl | (simp only [firstArgMember]; rfl)) ?_)
      refine wpAny_newObj_type ?_ (by size_fits)
      simp only [raiseNew]
      refine wpAny_bind (wpAny_handled ?_)
      rw [show A.in1.handled = none from hh]
      refine wpAny_bind (wpAny_pure (wpAny_throw ?_))
      refine wpAny_bind (wpAny_isInstance (T := "StopIteration") (b := true) ⟨_, Heap.get?_push_size _ rfl, rfl⟩ isSubtype_stop ?_)
      exact wpAny_pure (hQ _ _ fun b o hb e => (((Heap.SameBut.update ..).extBut.push _).push _) b o (fun q => hb (by simp [q])) e)
  self := fun i s Q E st h => by
    obtain ⟨⟨slot, hs, o, ho, hoc, hod⟩, ha⟩ := st
    have hT : s.TypeIs (.ref I) "set_iterator" := ⟨o, ho, hoc⟩
    refine wpAny_pyIter_slot hT slot_set_iterator_iter (wpAny_call_entry slot_set_iterator_iter hT entry_set_iterator_iter ?_ (args_set_iterator_iter_1 _))
    show wpAny _ _ (ret (.ref I)) _ _ s
    exact wpAny_pure ⟨_, rfl, "set_iterator", _, hT, slot_set_iterator_next.lookup, h⟩
end
end Mine

namespace Mine
open PySem PySem.W PyProof.Rows PySem.Calls
set_option Elab.async false
set_option maxRecDepth 100000
set_option linter.unusedVariables false
def isP (X : Cx) (ks : List Int) (_ : Addr) (o : Obj) (_ : Heap) : Prop := IS X ks o
def LV.iset (X : Cx) (ks : List Int) : LV := .obj (isP X ks) fun _ _ _ _ _ h => h
def intOf : Value → Int
  | .int k _ => k
  | _ => 0

section
variable {X : Cx} {k : Nat} {sc : Scope} {σ τ : Sto}

/-- going over a set of whole numbers that stands still -/
theorem iterOf_iset {ks : List Int} {a : Addr} {ob : Obj} {g : Heap} (hS : IS X ks ob) (hg : g.get? a = some ob) : ∃ ns : List Int, (∀ x, x ∈ ns ↔ x ∈ ks) ∧ ∀ (k : Nat) (s : Shared), Sub g s.heap → IterOf X k g s (.ref a) (dInts ns) := by
  obtain ⟨hex, hnd, es, ep, t, hd, D⟩ := hS
  have hkey : ∀ e ∈ (ordOf X a es ep).toList, ∃ t, e.2 = .int (intOf e.2) t := fun e he => by
    obtain ⟨⟨k, hk, _⟩, _⟩ := D.el e (ord_perm.mem_iff.mp he)
    obtain ⟨t, ht⟩ := Value.isInt_shape hk
    rw [ht]
    exact ⟨t, rfl⟩
  refine ⟨(ordOf X a es ep).toList.map fun e => intOf e.2, fun x => ?_, fun k s kk A E rm => ?_⟩
  · rw [D.mem x, List.mem_map]
    constructor
    · rintro ⟨e, he, rfl⟩
      obtain ⟨t, ht⟩ := hkey e he
      exact ⟨e, ord_perm.mem_iff.mp he, by rw [ht]; exact intKind_is _ _ _ _⟩
    · rintro ⟨e, he, hk⟩
      obtain ⟨t, ht⟩ := Value.isInt_shape hk
      exact ⟨e, ord_perm.mem_iff.mpr he, by rw [ht]; rfl⟩
  · have ho := kk _ _ hg
    have hlt : a < s.heap.objs.size := Heap.lt_size ho
    have hn : (dInts ((ordOf X a es ep).toList.map fun e => intOf e.2)).length = es.size := by
      rw [dInts_length, List.length_map, Array.length_toList, ord_size]
    refine iter_set ho hex.1 hd D.tab ⟨kp_mk (Sub.push .rfl _), s.heap.objs.size, [s.heap.objs.size, a], [s.heap.objs.size], (fun i v => ∃ e, (ordOf X a es ep)[i]? = some e ∧ v = e.2), (fun i h => IsSetIt X h s.heap.objs.size a i es.size ep t ∧ h.get? a = some ob), rfl, ?_⟩
    exact {
      walks := fun A' hA => by rw [hn]; exact Walks.set hA (Nat.ne_of_lt hlt) hex.1 hd D.tab D.led
      start := ⟨⟨0, slotAt_zero D.tab.up, _, Heap.get?_push_size _ rfl, rfl, rfl⟩, Heap.get?_push_of_some _ ho⟩
      low := fun b hb => by
        show b < (s.heap.push _).objs.size
        rw [Heap.size_push]
        rcases List.mem_cons.mp hb with rfl | hb
        · exact Nat.lt_succ_self _
        · rcases List.mem_cons.mp hb with rfl | hb
          · exact Nat.lt_succ_of_lt hlt
          · cases hb
      fresh := fun b hb => by rw [List.mem_singleton.mp hb]; exact fresh_size
      live := fun i h st b hb => by
        obtain ⟨⟨_, _, o, ho, _⟩, _⟩ := st
        rw [List.mem_singleton.mp hb, ho]; rfl
      foot := fun b hb => by
        rcases List.mem_cons.mp hb with rfl | hb
        · exact .inl (List.mem_singleton.mpr rfl)
        · rw [List.mem_singleton.mp hb, hg]
          exact .inr rfl
      item := fun i v hv => by
        obtain ⟨e, he, rfl⟩ := hv
        obtain ⟨t, ht⟩ := hkey e (by
          obtain ⟨hi, he'⟩ := Array.getElem?_eq_some_iff.mp he
          rw [← he']; simp)
        refine ⟨.int (intOf e.2), ?_, by rw [ht]; exact .int _ _⟩
        unfold dInts
        rw [List.map_map, List.getElem?_map, Array.getElem?_toList, he]; rfl
      own := fun i A' E' target v s' Q st q => by
        obtain ⟨⟨_, _, o, ho, hc, _⟩, _⟩ := st
        exact letOwned_ok ho hc (by decide) q }
theorem maxI_congr {ns ks : List Int} (h : ∀ x, x ∈ ns ↔ x ∈ ks) (hk : ks ≠ []) : maxI ns = maxI ks :=
  maxI_is ((h _).mpr (maxI_mem hk)) fun x hx => maxI_ge ((h x).mp hx)
/-- max(x) of an own set -/
theorem Ev.maxIset {f x : Str} {p px pos : Pos} {ks : List Int} (hf : EvP X (k + 2) sc σ (.Name f p) fun _ u => u = .builtin "max") (hx : σ.lookup x = some (LV.iset X ks)) (hk : ks ≠ []) (hfx : x ≠ f)
    (hf' : ∀ mp, EvP X (k + 2) sc (upd x (LV.frz (isP X ks) mp) σ) (.Name f p) fun _ u => u = .builtin "max")
    (hd1 : (x == ("__debug__" : Str)) = false := by decide) (hn : (x == ("__classdict__" : Str)) = false := by decide) : Ev X (k + 2) sc σ (.Call (.Name f p) [.Name x px] [] pos) (.int (maxI ks)) := by
  refine Ev.frz (P := isP X ks) hx ?_ fun a o g h => is_noseq h
  refine EvP.callBO (P := frzP (isP X ks)) (hf' _) (upd_same rfl) (fun g s a ob b0 kk ho hP A E rm => ?_) hd1 hn
  obtain ⟨hS, hg⟩ := hP
  obtain ⟨ns, h1, h2⟩ := iterOf_iset hS hg
  have hne : ns ≠ [] := fun q => by
    obtain ⟨y, ys, e⟩ := List.exists_cons_of_ne_nil hk
    have := (h1 y).mpr (by rw [e]; simp)
    rw [q] at this; cases this
  refine wpAny_mono (maxI_iter rm kk (h2 k s kk) hne) (fun v s' x => ?_) fun _ _ y => y
  rw [maxI_congr h1 hk] at x
  exact x
/-- len(x) of an own set -/
theorem Ev.lenIset {f x : Str} {p px pos : Pos} {ks : List Int} (hf : EvP X k sc σ (.Name f p) fun _ u => u = .builtin "len") (hx : σ.lookup x = some (LV.iset X ks)) (hz : ks.length < 2 ^ 62)
    (hd1 : (x == ("__debug__" : Str)) = false := by decide) (hn : (x == ("__classdict__" : Str)) = false := by decide) : Ev X k sc σ (.Call (.Name f p) [.Name x px] [] pos) (.int (ks.length : Nat)) := by
  refine EvP.callBO hf hx (fun g s a ob b0 kk ho hP A E rm => ?_) hd1 hn
  obtain ⟨hex, hnd, es, ep, t, hd, D⟩ := (show IS X ks ob from hP)
  refine call_len_set ho hex hd D.tab.fits (by rw [D.size]; omega) ?_
  rw [D.size]
  exact Post.tok kk (.int _ _)
/-- x = set(e), e a list of whole numbers -/
theorem Ex.assignIset {x f : Str} {px pf pc pos : Pos} {e : Expr} {ns : List Int} {R : Out → Prop} (hf : EvP X k sc τ (.Name f pf) fun _ u => u = .type "set") (he : Ev X k sc τ e (dList ns)) (hz : ns.length + 1 < scanBound) (hr : R (.next (upd x (LV.iset X (keysOf ns)) τ))) (hx : canStore sc x = true := by rfl)
    (hp : plainE e = true := by rfl) (hs : ∀ env, swapsWith (.Call (.Name f pf) [e] [] pc) (some (.Name x px)) pos.line env = pure false := by intro _; rfl) : Ex X k sc τ (exec (.Assign [.Name x px] (.Call (.Name f pf) [e] [] pc) pos)) R := by
  refine Ex.assignNew1 (P := isP X (keysOf ns)) hf he (fun g s v A E b0 kk r rm => ?_) hr hx hp hs
  cases r with
  | list il rr =>
    rename_i l vs
    have hlen : vs.length = ns.length := by rw [rr.length, dInts_length]
    refine call_set_of (setT_int X) rm.hh (isList_sub kk il) hlen.symm (fun i v x hv hx => ?_) (by omega) fun h' tk o' ho' hS hk => ⟨kp_mk hk, _, o', rfl, ho', fresh_size, hS⟩
    obtain ⟨d, e1, e2⟩ := rr.get' hv
    unfold dInts at e1
    rw [List.getElem?_map, hx] at e1
    cases e1
    cases e2
    exact ⟨intKind_is _ _ _ _, rfl⟩
/-- x.remove(e) of an own set -/
theorem Ex.removeIset {x : Str} {px apos cpos pos : Pos} {e : Expr} {ks : List Int} {y : Int} {R : Out → Prop} (hx : τ.lookup x = some (LV.iset X ks)) (he : Ev X k sc τ e (.int y)) (hy : y ∈ ks) (hz : ks.length < scanBound)
    (hr : R (.next (upd x (LV.iset X (ks.erase y)) τ))) (hline : (apos.endLine == cpos.line) = true := by decide) (hp : plainE e = true := by rfl) (hd : (x == ("__debug__" : Str)) = false := by decide)
    (hbase : ∀ env, attributeBase (.Name x px) "remove" env (eval (.Name x px) env) = eval (.Name x px) env := by intro _; rfl)
    (hs : ∀ env, swapsWith (.Call (.Attribute (.Name x px) "remove" apos) [e] [] cpos) none pos.line env = pure false := by intro _; rfl) :
    Ex X k sc τ (exec (.Expr (.Call (.Attribute (.Name x px) "remove" apos) [e] [] cpos) pos)) R := by
  refine Ex.methO (T := "set") (id := "set.remove") (P' := isP X (ks.erase y)) hx (.cons he .nil hp) F.plainAttrs_set F.slot_set_remove F.type_set_remove (fun a o g h => ⟨h.1.1, h.1.2.1⟩) (fun g s a ob vs A E b0 kk ho hP hv rm => ?_) hr hline (by simp) hd hbase hs
  cases hv with
  | cons hv hn =>
    cases hn
    cases hv
    rename_i tk
    have hS : IS X ks ob := hP
    refine wpAny_call_entry F.slot_set_remove ⟨ob, ho, hS.1.1⟩ F.entry_set_remove ?_ (F.args_set_remove_2 _ _)
    unfold Builtin.«set.remove» Builtin.Frozenset.oneOther
    simp only [List.isEmpty_nil, bind_assoc]
    unfold Builtin.Frozenset.addrOf
    refine wpAny_bind (wpAny_pure ?_)
    refine wpAny_bind (wpAny_pure ?_)
    dsimp only
    unfold Builtin.Frozenset.withSetAsKey setDiscard
    refine wpAny_bind (wpAny_tryCatch ?_)
    refine wpAny_holding ?_
    refine wpAny_bind ((intKind X.prog X.w).pyHash (intKind_is _ _ y tk) ?_)
    refine discard_at (s := { s with toks := s.toks + 1 }) (intKind_is _ _ _ _) rfl ho hS hz hy fun h' o' hsb ho' hS' => ?_
    show wpAny _ _ (if (!true) = true then _ else _) _ _ _
    rw [if_neg (by decide)]
    exact wpAny_pure ⟨_, rfl, rfl, h', _, o', rfl, hsb.extBut, ho', hS'⟩
/-- x.add(e) of an own set -/
theorem Ex.addIset {x : Str} {px apos cpos pos : Pos} {e : Expr} {ks : List Int} {y : Int} {R : Out → Prop} (hx : τ.lookup x = some (LV.iset X ks)) (he : Ev X k sc τ e (.int y)) (hz : ks.length + 1 < scanBound)
    (hr : R (.next (upd x (LV.iset X (addK ks y)) τ))) (hline : (apos.endLine == cpos.line) = true := by decide) (hp : plainE e = true := by rfl) (hd : (x == ("__debug__" : Str)) = false := by decide)
    (hbase : ∀ env, attributeBase (.Name x px) "add" env (eval (.Name x px) env) = eval (.Name x px) env := by intro _; rfl)
    (hs : ∀ env, swapsWith (.Call (.Attribute (.Name x px) "add" apos) [e] [] cpos) none pos.line env = pure false := by intro _; rfl) :
    Ex X k sc τ (exec (.Expr (.Call (.Attribute (.Name x px) "add" apos) [e] [] cpos) pos)) R := by
  refine Ex.methO (T := "set") (id := "set.add") (P' := isP X (addK ks y)) hx (.cons he .nil hp) F.plainAttrs_set F.slot_set_add F.type_set_add (fun a o g h => ⟨h.1.1, h.1.2.1⟩) (fun g s a ob vs A E b0 kk ho hP hv rm => ?_) hr hline (by simp) hd hbase hs
  cases hv with
  | cons hv hn =>
    cases hn
    cases hv
    rename_i tk
    have hS : IS X ks ob := hP
    refine wpAny_call_entry F.slot_set_add ⟨ob, ho, hS.1.1⟩ F.entry_set_add ?_ (F.args_set_add_2 _ _)
    unfold Builtin.«set.add» Builtin.Frozenset.oneOther
    simp only [List.isEmpty_nil, bind_assoc]
    unfold Builtin.Frozenset.addrOf setAdd
    refine wpAny_bind (wpAny_pure ?_)
    refine wpAny_bind (wpAny_pure ?_)
    dsimp only
    refine wpAny_bind ?_
    refine wpAny_holding ?_
    refine wpAny_bind ((intKind X.prog X.w).pyHash (intKind_is _ _ y tk) ?_)
    refine (setT_int X).add (s := { s with toks := s.toks + 1 }) (intKind_is _ _ _ _) rfl ho hS hz fun b h' o' hsb ho' hS' => ?_
    exact wpAny_pure ⟨_, rfl, rfl, h', _, o', rfl, hsb.extBut, ho', hS'⟩
/-- x.insert(0, e) of an own list -/
theorem Ex.insert0 {x : Str} {px apos cpos pos : Pos} {e0 e : Expr} {ds : List Dat} {d : Dat} {R : Out → Prop} (hx : τ.lookup x = some (LV.list ds)) (h0 : Ev X k sc τ e0 (.int 0)) (he : Ev X k sc τ e d) (hz : ds.length ≤ 4096)
    (hr : R (.next (upd x (LV.list (d :: ds)) τ))) (hline : (apos.endLine == cpos.line) = true := by decide) (hp0 : plainE e0 = true := by rfl) (hp : plainE e = true := by rfl) (hd : (x == ("__debug__" : Str)) = false := by decide)
    (hbase : ∀ env, attributeBase (.Name x px) "insert" env (eval (.Name x px) env) = eval (.Name x px) env := by intro _; rfl)
    (hs : ∀ env, swapsWith (.Call (.Attribute (.Name x px) "insert" apos) [e0, e] [] cpos) none pos.line env = pure false := by intro _; rfl) :
    Ex X k sc τ (exec (.Expr (.Call (.Attribute (.Name x px) "insert" apos) [e0, e] [] cpos) pos)) R := by
  refine Ex.methO (T := "list") (id := "list.insert") (P := listP ds) (P' := listP (d :: ds)) hx (.cons h0 (.cons he .nil hp) hp0) F.plainAttrs_list F.slot_list_insert F.type_list_insert (fun a o g ⟨vs, n, e, _⟩ => by subst e; exact ⟨rfl, rfl⟩) (fun g s a ob vs A E b0 kk ho hP hv rm => ?_) hr hline (by simp) hd hbase hs
  cases hv with
  | cons hv hn =>
    cases hn with
    | cons hv2 hn =>
      cases hn
      cases hv
      rename_i y tk
      obtain ⟨us, n, rfl, rr⟩ := hP
      have hlen := rr.length
      refine call_meets PySem.F.slot_list_insert ⟨_, ho, rfl⟩ PySem.F.entry_list_insert (PySem.F.args_list_insert_3 _ _ _) (PySem.AutoSeq1.list_insert_list_int_val_1 a _ n 0 tk y (by decide) (by rw [List.size_toArray, hlen]; exact small _ hz)) ⟨ho, rfl, ?_⟩
      refine ⟨_, _, _, rfl, (Heap.SameBut.update ..).extBut, get?_update_seq ho _, ?_⟩
      have key : (us.toArray.extract 0 (min 0 us.toArray.size)).push y ++ us.toArray.extract (min 0 us.toArray.size) = (y :: us).toArray := by
        rw [kl_ins_eq]
        simp
      exact ⟨y :: us, _, congrArg (fun z => seqObj "list" z _) key, .cons hv2 rr⟩
end
end Mine

namespace Mine
open PySem PySem.W PyProof.Rows PySem.Calls
set_option Elab.async false
set_option maxRecDepth 100000
set_option linter.unusedVariables false

abbrev body : List Stmt := PySem.Challenge.rw_kq0014_07.prog.main.body
abbrev cpS : Stmt := stAt body 11
section
variable {X : Cx} {k : Nat}

theorem cp_tail (N : Free X) {mr : List (Str × Const)} {τ : Sto} {mk : List Int → Dat} {it : Int → Dat} {ok : List Int → Prop} (K : SeqK X mk it ok) {rows : List (List Int)} {d : Dat} (hm : τ.lookup ("m" : Str) = some (.dat d)) (hc : Cont mk rows d) (hn : rows ≠ []) (ho : ∀ r ∈ rows, ok r) (hl : ∀ r ∈ rows, r.length < 2 ^ 61) :
    Ex X (k + 2) (fnS cpS mr) τ (execs (List.drop 2 (fnB cpS))) (FnOut (· = mk (lcp2 (minRow rows) (maxRow rows)))) := by
  have m1 : minRow rows ∈ rows := argBest_mem _ hn
  have m2 : maxRow rows ∈ rows := argBest_mem _ hn
  have hle : ¬ maxRow rows < minRow rows := maxRow_spec m1
  refine Ex.cons (Ex.assign (EvP.callB (EvP.builtin rfl N.min rfl (by decide)) (.cons (.local hm) .nil) (op_min K hc hn ho)) ?_)
  refine Ex.cons (Ex.assign (EvP.callB (EvP.builtin rfl N.max rfl (by decide)) (.cons (.local (upd_other (by decide) hm)) .nil) (op_max K hc hn ho)) ?_)
  generalize minRow rows = a at *
  generalize maxRow rows = b at *
  refine Ex.cons (Ex.forEnum (EvP.builtin rfl N.enumerate rfl (by decide)) (.local (upd_other (by decide) (upd_same rfl))) (fun g s v kk r => K.enum _ g s v a (ho a m1) kk r)
    (fun i τ' => τ'.lookup ("s1" : Str) = some (.dat (mk a)) ∧ τ'.lookup ("s2" : Str) = some (.dat (mk b)) ∧ a.take i = b.take i)
    ⟨upd_other (by decide) (upd_same rfl), upd_same rfl, by simp⟩ (fun i τ' d hd ⟨h1, h2, h3⟩ => ?_) (fun τ' ⟨h1, h2, h3⟩ => ?_))
  · obtain ⟨x, hx, rfl⟩ : ∃ x, a[i]? = some x ∧ d = it x := by
      rw [List.getElem?_map] at hd
      cases e : a[i]? with
      | none => rw [e] at hd; cases hd
      | some x => rw [e] at hd; exact ⟨x, rfl, by cases hd; rfl⟩
    obtain ⟨hi, hx'⟩ := List.getElem?_eq_some_iff.mp hx
    have hib : i < b.length := in_bounds h3 hi hle
    have hib' : b[i]? = some b[i] := by simp [hib]
    have hlb := hl b m2
    have l1 := upd_other (x := ("c" : Str)) (lv := .dat (it x)) (by decide) (upd_other (x := ("i" : Str)) (lv := .dat (.int i)) (by decide) h1)
    have l2 := upd_other (x := ("c" : Str)) (lv := .dat (it x)) (by decide) (upd_other (x := ("i" : Str)) (lv := .dat (.int i)) (by decide) h2)
    have li := upd_other (x := ("c" : Str)) (lv := .dat (it x)) (by decide) (upd_same (x := ("i" : Str)) (y := ("i" : Str)) (lv := .dat (.int i)) (τ := τ') rfl)
    refine Ex.last (Ex.if (EvT.cmp (.local (upd_same rfl)) (K.item (ho b m2) (.local l2) (.local li) hib' (by omega)) (K.ne _ a b _ _ (ho a m1) (ho b m2) (List.mem_of_getElem? hx) (List.mem_of_getElem? hib'))) (fun hc => ?_) fun hc => ?_)
    · refine Ex.last (Ex.return (K.slice (ho a m1) (.local l1) (.local li)) ?_)
      have hne : x ≠ b[i] := by simpa using hc
      show _ = mk (lcp2 a b)
      rw [lcp2_stop h3 hi hib (by rw [hx']; exact hne)]
    · refine Ex.nil ⟨l1, l2, ?_⟩
      have he : x = b[i] := by simpa using hc
      rw [List.take_add_one, List.take_add_one, h3, hx, hib', he]
  · refine Ex.last (Ex.return (.local h1) ?_)
    have hp : a <+: b := by
      rw [List.length_map] at h3
      rw [List.take_of_length_le (Nat.le_refl _)] at h3
      rw [h3]; exact List.take_prefix _ _
    show _ = mk (lcp2 a b)
    rw [lcp2_whole hp]

theorem cp_empty (N : Free X) {mr : List (Str × Const)} (D : IsDef X "commonprefix" (fnP cpS) (fnB cpS) (fnS cpS mr)) : FnD X (k + 1) "commonprefix" [.list []] (.str "") := by
  refine FnD.intro D ["m"] rfl (fun pm code doc vs hv => ?_) (by decide) (by rfl) ?_
  · match vs, hv with
    | [v], _ => rfl
  refine Ex.cons (Ex.if (EvT.not (EvT.val (.local rfl) (by show ((0:Nat):Int) < 2 ^ 63; decide))) (fun _ => Ex.last (Ex.return .str rfl)) fun hc => ?_)
  cases hc

theorem cp_rows (N : Free X) {mr : List (Str × Const)} (D : IsDef X "commonprefix" (fnP cpS) (fnB cpS) (fnS cpS mr)) {rows : List (List Int)} (hn : rows ≠ []) (ho : ∀ r ∈ rows, r.length ≤ sizeLine) (hz : rows.length < 2 ^ 62) :
    FnD X (k + 3) "commonprefix" [.list (rows.map dList)] (dList (lcp2 (minRow rows) (maxRow rows))) := by
  refine FnD.intro D ["m"] rfl (fun pm code doc vs hv => ?_) (by decide) (by rfl) ?_
  · match vs, hv with
    | [v], _ => rfl
  obtain ⟨r, rs, rfl⟩ := List.exists_cons_of_ne_nil hn
  refine Ex.cons (Ex.if (EvT.not (EvT.val (.local rfl) (by show ((List.map dList (r :: rs)).length : Int) < 2 ^ 63; rw [List.length_map]; omega))) (fun hc => ?_) fun hc => ?_)
  · cases hc
  refine Ex.nil ?_
  refine Ex.cons (Ex.if (EvT.not (EvT.val (Ev.isin (Tx := "list") (d := dList r) (b1 := true) (b2 := false) (EvP.builtin rfl N.isinstance rfl (by decide)) (Ev.item (.local rfl) .int (by decide) (by decide) rfl) (EvP.builtin rfl N.list rfl (by decide)) (EvP.builtin rfl N.tuple rfl (by decide)) ?_ (fun g x hr => ?_)) trivial)) (fun hc => ?_) fun hc => ?_)
  · intro g v s hr kk
    cases hr with
    | list i _ => exact (isList_sub kk i).typeIs
  · cases hr
    exact .cons (Answers.of_true F.isi_meta_list F.sub_list_list) (.cons (Answers.of_false_list (by decide +kernel) F.isi_meta_tuple F.sub_list_tuple) .nil)
  · cases hc
  refine Ex.nil ?_
  exact cp_tail N (seqK_list X) rfl (.inl rfl) hn ho fun x hx => Nat.lt_of_le_of_lt (ho x hx) (by decide)

end
end Mine

namespace Mine
open PySem PySem.W PyProof.Rows PySem.Calls
set_option Elab.async false
set_option maxRecDepth 100000
set_option linter.unusedVariables false

/-- the way down to a node -/
def wayOf (k n : Nat) : List Int := if h : n = 0 then [] else wayOf k ((n - 1) / k) ++ [(((n - 1) % k : Nat) : Int)]
termination_by n
decreasing_by
  have := Nat.div_le_self (n - 1) k
  omega
theorem wayOf_zero {k : Nat} : wayOf k 0 = [] := by rw [wayOf]; rfl
theorem wayOf_pos {k n : Nat} (h : n ≠ 0) : wayOf k n = wayOf k ((n - 1) / k) ++ [(((n - 1) % k : Nat) : Int)] := by
  conv => lhs; rw [wayOf]
  rw [dif_neg h]
theorem par_lt {k n : Nat} (h : n ≠ 0) : (n - 1) / k < n := by
  have := Nat.div_le_self (n - 1) k
  omega
theorem wayOf_len {k : Nat} (hk : 2 ≤ k) : ∀ n, 2 ^ (wayOf k n).length ≤ n + 1 := by
  intro n
  induction n using Nat.strongRecOn with
  | _ n ih =>
    by_cases h : n = 0
    · subst h; rw [wayOf_zero]; exact Nat.le_refl _
    · have h1 := ih _ (par_lt (k := k) h)
      rw [wayOf_pos h, List.length_append, List.length_singleton, Nat.pow_succ]
      have h2 : (n - 1) / k * k ≤ n - 1 := Nat.div_mul_le_self _ _
      have h3 : (n - 1) / k * 2 ≤ (n - 1) / k * k := Nat.mul_le_mul_left _ hk
      omega
theorem wayOf_short {k n : Nat} (hk : 2 ≤ k) (hn : n ≤ 5000010) : (wayOf k n).length ≤ 30 := by
  refine Nat.le_of_not_lt fun q => ?_
  have h1 := wayOf_len hk n
  have h2 : 2 ^ 31 ≤ 2 ^ (wayOf k n).length := Nat.pow_le_pow_right (by decide) (by omega)
  have h3 : (2 : Nat) ^ 31 = 2147483648 := by decide
  omega
/-- the node at the end of a way -/
def nodeAt (k : Nat) (l : List Int) : Int := l.foldl (fun n p => (k : Int) * n + 1 + p) 0
theorem nodeAt_way {k : Nat} : ∀ n, nodeAt k (wayOf k n) = n := by
  intro n
  induction n using Nat.strongRecOn with
  | _ n ih =>
    by_cases h : n = 0
    · subst h; rw [wayOf_zero]; rfl
    · rw [wayOf_pos h]
      have h1 := ih _ (par_lt (k := k) h)
      unfold nodeAt at h1 ⊢
      rw [List.foldl_append, h1]
      show (k : Int) * (((n - 1) / k : Nat) : Int) + 1 + (((n - 1) % k : Nat) : Int) = n
      have h2 := Nat.div_add_mod (n - 1) k
      have h3 : ((k * ((n - 1) / k) + (n - 1) % k : Nat) : Int) = ((n - 1 : Nat) : Int) := by rw [h2]
      rw [Int.natCast_add, Int.natCast_mul] at h3
      omega
theorem wayOf_nonneg {k : Nat} : ∀ n, ∀ p ∈ wayOf k n, 0 ≤ p := by
  intro n
  induction n using Nat.strongRecOn with
  | _ n ih =>
    intro p hp
    by_cases h : n = 0
    · subst h; rw [wayOf_zero] at hp; cases hp
    · rw [wayOf_pos h] at hp
      rcases List.mem_append.mp hp with hp | hp
      · exact ih _ (par_lt (k := k) h) p hp
      · rw [List.mem_singleton.mp hp]; omega
theorem foldl_grows {k : Nat} (hk : 1 ≤ k) : ∀ (l : List Int) (n : Int), 0 ≤ n → (∀ p ∈ l, 0 ≤ p) → n ≤ l.foldl (fun n p => (k : Int) * n + 1 + p) n
  | [], n, _, _ => Int.le_refl _
  | p :: l, n, hn, h => by
    rw [List.foldl_cons]
    have hp := h p (by simp)
    have h1 : n ≤ (k : Int) * n := by
      have : (1 : Int) * n ≤ (k : Int) * n := Int.mul_le_mul_of_nonneg_right (by omega) hn
      omega
    have := foldl_grows hk l ((k : Int) * n + 1 + p) (by omega) fun q hq => h q (List.mem_cons_of_mem _ hq)
    omega
/-- a way that goes on leads to a greater node -/
theorem way_le {k : Nat} (hk : 1 ≤ k) {a b : Nat} (h : wayOf k a <+: wayOf k b) : a ≤ b := by
  obtain ⟨t, e⟩ := h
  have h1 := nodeAt_way (k := k) a
  have h2 := nodeAt_way (k := k) b
  rw [← e] at h2
  unfold nodeAt at h1 h2
  rw [List.foldl_append, h1] at h2
  have := foldl_grows hk t (a : Int) (by omega) fun p hp => wayOf_nonneg b p (by rw [← e]; exact List.mem_append_right _ hp)
  omega
/-- where of more than one node the greatest goes back to its parent, the common heads are the same -/
theorem back_same {k : Nat} (hk : 2 ≤ k) {top other : Nat} (ho : other < top) {p : List Int} (h : p <+: wayOf k other) : p <+: wayOf k top ↔ p <+: wayOf k ((top - 1) / k) := by
  have h0 : top ≠ 0 := by omega
  have e := wayOf_pos (k := k) h0
  constructor
  · intro h1
    rw [e] at h1
    rcases List.prefix_concat_iff.mp h1 with q | q
    · rw [← e] at q
      rw [q] at h
      have := way_le (by omega) h
      omega
    · exact q
  · intro h1
    rw [e]
    exact h1.trans (List.prefix_append _ _)

/-- the nodes that are left -/
structure Left (k : Nat) (ns ks : List Int) : Prop where
  nodup : ks.Nodup
  ne : ks ≠ []
  ok : ∀ x ∈ ks, 0 ≤ x ∧ x ≤ 5000010
  heads : ∀ p, (∀ x ∈ ks, p <+: wayOf k x.toNat) ↔ ∀ x ∈ ns, p <+: wayOf k x.toNat
theorem left_start {k : Nat} {ns : List Int} (hn : ns ≠ []) (h : ∀ x ∈ ns, 0 ≤ x ∧ x ≤ 5000010) : Left k ns (keysOf ns) :=
  ⟨keysOf_nodup, (fun q => by
    obtain ⟨y, ys, e⟩ := List.exists_cons_of_ne_nil hn
    have : y ∈ keysOf ns := mem_keysOf.mpr (by rw [e]; simp)
    rw [q] at this; cases this), fun x hx => h x (mem_keysOf.mp hx), fun p => ⟨fun q x hx => q x (mem_keysOf.mpr hx), fun q x hx => q x (mem_keysOf.mp hx)⟩⟩
theorem two_of {ks : List Int} (hn : ks.Nodup) (h : 1 < ks.length) (m : Int) : ∃ x ∈ ks, x ≠ m := by
  match ks, h, hn with
  | a :: b :: r, _, hn =>
    have := (List.nodup_cons.mp hn).1
    by_cases q : a = m
    · refine ⟨b, by simp, fun q2 => this (by rw [q, ← q2]; simp)⟩
    · exact ⟨a, by simp, q⟩
theorem left_turn {k : Nat} (hk : 2 ≤ k) {ns ks : List Int} (h : Left k ns ks) (hl : 1 < ks.length) :
    1 ≤ maxI ks ∧ maxI ks ∈ ks ∧ Left k ns (addK (ks.erase (maxI ks)) (((maxI ks).toNat - 1) / k : Nat)) ∧ (addK (ks.erase (maxI ks)) ((((maxI ks).toNat - 1) / k : Nat) : Int)).sum < ks.sum ∧ (addK (ks.erase (maxI ks)) ((((maxI ks).toNat - 1) / k : Nat) : Int)).length ≤ ks.length := by
  have hm := maxI_mem h.ne
  obtain ⟨x, hx, hxm⟩ := two_of h.nodup hl (maxI ks)
  have hle := maxI_ge hx
  have hx0 := (h.ok x hx).1
  have hmo := (h.ok _ hm).2
  generalize maxI ks = m at *
  have h1 : 1 ≤ m := by omega
  have hpar : (m.toNat - 1) / k < m.toNat := par_lt (by omega)
  have hperm : ks.Perm (m :: ks.erase m) := List.perm_cons_erase hm
  have hsum : ks.sum = m + (ks.erase m).sum := by
    have : ∀ {a b : List Int}, a.Perm b → a.sum = b.sum := by
      intro a b hp
      induction hp with
      | nil => rfl
      | cons x _ ih => rw [List.sum_cons, List.sum_cons, ih]
      | swap x y l => rw [List.sum_cons, List.sum_cons, List.sum_cons, List.sum_cons]; omega
      | trans _ _ i1 i2 => rw [i1, i2]
    rw [this hperm, List.sum_cons]
  have hlen : (ks.erase m).length + 1 = ks.length := by
    rw [List.length_erase_of_mem hm]; omega
  have hback : ∀ p, p <+: wayOf k x.toNat → (p <+: wayOf k m.toNat ↔ p <+: wayOf k ((m.toNat - 1) / k)) := fun p => back_same hk (by omega)
  generalize (m.toNat - 1) / k = par at *
  refine ⟨h1, hm, ⟨addK_nodup (h.nodup.erase m), fun q => ?_, fun y hy => ?_, fun p => ?_⟩, ?_, ?_⟩
  · have : (par : Int) ∈ addK (ks.erase m) (par : Int) := mem_addK.mpr (.inr rfl)
    rw [q] at this; cases this
  · rcases mem_addK.mp hy with q | q
    · exact h.ok y (List.mem_of_mem_erase q)
    · rw [q]; omega
  · rw [← h.heads p]
    have hxe : x ∈ ks.erase m := h.nodup.mem_erase_iff.mpr ⟨hxm, hx⟩
    constructor
    · intro q y hy
      by_cases e : y = m
      · subst e
        have a1 := q x (mem_addK.mpr (.inl hxe))
        have a2 := q _ (mem_addK.mpr (.inr rfl))
        rw [Int.toNat_natCast] at a2
        exact (hback p a1).mpr a2
      · exact q y (mem_addK.mpr (.inl (h.nodup.mem_erase_iff.mpr ⟨e, hy⟩)))
    · intro q y hy
      rcases mem_addK.mp hy with e | e
      · exact q y (List.mem_of_mem_erase e)
      · subst e
        rw [Int.toNat_natCast]
        exact (hback p (q x hx)).mp (q m hm)
  · unfold addK
    split
    · rw [hsum]; omega
    · rw [hsum, List.sum_append]
      simp
      omega
  · have := addK_length_le (ks := ks.erase m) (k := (par : Int))
    omega
/-- the law -/
theorem left_done {k : Nat} {ns ks : List Int} (h : Left k ns ks) (hl : ¬ 1 < ks.length) (hn : ns ≠ []) : 0 ≤ maxI ks ∧ maxI ks ≤ 5000010 ∧ lcp2 (minRow (ns.map fun x => wayOf k x.toNat)) (maxRow (ns.map fun x => wayOf k x.toNat)) = wayOf k (maxI ks).toNat := by
  obtain ⟨m, hm⟩ : ∃ m, ks = [m] := by
    match ks, h.ne, hl with
    | [a], _, _ => exact ⟨a, rfl⟩
    | a :: b :: r, _, hl => exact absurd (by simp) hl
  subst hm
  have e : maxI [m] = m := maxI_is (by simp) (by simp)
  rw [e]
  obtain ⟨a1, a2⟩ := h.ok m (by simp)
  refine ⟨a1, a2, ?_⟩
  have hne : (ns.map fun x => wayOf k x.toNat) ≠ [] := fun q => hn (List.map_eq_nil_iff.mp q)
  refine (isCp_minMax hne).uniq ⟨fun r hr => ?_, fun p hp => ?_⟩
  · obtain ⟨x, hx, rfl⟩ := List.mem_map.mp hr
    exact (h.heads _).mp (fun y hy => by rw [List.mem_singleton.mp hy]; exact List.prefix_rfl) x hx
  · have := (h.heads p).mpr (fun x hx => hp _ (List.mem_map.mpr ⟨x, hx, rfl⟩)) m (by simp)
    exact this
end Mine

namespace Mine
open PySem PySem.W PyProof.Rows PySem.Calls
set_option Elab.async false
set_option maxRecDepth 100000
set_option linter.unusedVariables false
abbrev nodesS : Stmt := stAt body 13
abbrev wayS : Stmt := stAt body 14
abbrev lawS : Stmt := stAt body 15
theorem Ex.mid {X : Cx} {k : Nat} {sc : Scope} {τ : Sto} {st : Stmt} {rest : List Stmt} {R : Out → Prop} (Mid : Sto → Prop) (h : Ex X k sc τ (exec st) (fun o => ∃ τ', o = .next τ' ∧ Mid τ')) (r : ∀ τ', Mid τ' → Ex X k sc τ' (execs rest) R) : Ex X k sc τ (execs (st :: rest)) R :=
  Ex.cons (h.mono fun o ⟨τ', e, q⟩ => by subst e; exact r τ' q)
section
variable {X : Cx} {k : Nat}
theorem nodes_fn (N : Free X) (S : Stands X "_law_nodes" nodesS) {ns : List Int} (hn : ns.length ≤ 63) {kk : Nat} (hk : 2 ≤ kk ∧ kk ≤ 5) :
    Fn X (k + 5) "_law_nodes" [dList ns, .int (kk : Nat)] fun g v => ∃ d, (∃ ms : List Int, d = dList ms ∧ ms.length ≤ 63 ∧ ∀ x ∈ ms, 0 ≤ x ∧ x ≤ 5000010) ∧ Rep g v d := by
  obtain ⟨mm, D⟩ := S
  refine Fn.intro D ["script", "k"] rfl (fun pm code doc vs hv => ?_) (by decide) (by rfl) ?_
  · match vs, hv with
    | [v, u], _ => rfl
  refine Ex.cons (Ex.assignNil ?_)
  refine Ex.cons (Ex.assign .int ?_)
  refine Ex.mid (fun τ => ∃ ms : List Int, τ.lookup ("nodes" : Str) = some (LV.list (dInts ms)) ∧ ms.length ≤ 63 ∧ ∀ x ∈ ms, 0 ≤ x ∧ x ≤ 5000010)
    (Ex.for_ (ds := dInts ns) (Its.list (.local rfl)) (fun i τ => ∃ (ms : List Int) (n : Nat), τ.lookup ("nodes" : Str) = some (LV.list (dInts ms)) ∧ ms.length ≤ i ∧ (∀ x ∈ ms, 0 ≤ x ∧ x ≤ 5000010) ∧ n ≤ 5000010 ∧ τ.lookup ("n" : Str) = some (.dat (.int (n : Nat))) ∧ τ.lookup ("k" : Str) = some (.dat (.int (kk : Nat))))
      ⟨[], 0, rfl, Nat.zero_le _, by simp, by decide, rfl, rfl⟩ (fun i τ' d hd ⟨ms, n, a1, a2, a3, a4, a5, a6⟩ => ?_) (fun τ' ⟨ms, n, a1, a2, a3, a4, a5, a6⟩ => ⟨τ', rfl, ms, a1, ?_, a3⟩)) (fun τ ⟨ms, a1, a2, a3⟩ => ?_)
  · have hi : i < ns.length := by have := (List.getElem?_eq_some_iff.mp hd).1; rwa [dInts_length] at this
    have ed := dInts_get hd
    subst ed
    generalize ns.getD i 0 = x at *
    have b1 := upd_other (x := ("x" : Str)) (lv := .dat (.int x)) (by decide) a1
    have b5 := upd_other (x := ("x" : Str)) (lv := .dat (.int x)) (by decide) a5
    have b6 := upd_other (x := ("x" : Str)) (lv := .dat (.int x)) (by decide) a6
    have bx := upd_same (x := ("x" : Str)) (y := ("x" : Str)) (lv := .dat (.int x)) (τ := τ') rfl
    generalize upd ("x" : Str) (.dat (.int x)) τ' = τ at *
    refine Ex.cons (Ex.assignT2 (d0 := .int ((x.natAbs / 4 : Nat) : Int)) (d1 := .int ((x.natAbs % 4 : Nat) : Int)) (Ev.to (EvP.callB (EvP.builtin rfl N.divmod rfl (by decide)) (.cons (EvP.callB (EvP.builtin rfl N.abs rfl (by decide)) (.cons (.local bx) .nil) op_abs) (.cons .int .nil)) (op_divmod (by decide) (by decide))) ?_) ?_)
    · have h1 := fdivNat x.natAbs 4
      have h2 := fmodNat x.natAbs 4
      show Dat.tuple [.int ((x.natAbs : Int).fdiv ((4 : Nat) : Int)), .int ((x.natAbs : Int).fmod ((4 : Nat) : Int))] = _
      rw [h1, h2]
    have hlv : x.natAbs % 4 < 4 := Nat.mod_lt _ (by decide)
    generalize x.natAbs % 4 = lv at *
    generalize x.natAbs / 4 = lf at *
    have c1 := upd_other (x := ("levels" : Str)) (lv := .dat (.int (lv : Nat))) (by decide) (upd_other (x := ("left" : Str)) (lv := .dat (.int (lf : Nat))) (by decide) b1)
    have c5 := upd_other (x := ("levels" : Str)) (lv := .dat (.int (lv : Nat))) (by decide) (upd_other (x := ("left" : Str)) (lv := .dat (.int (lf : Nat))) (by decide) b5)
    have c6 := upd_other (x := ("levels" : Str)) (lv := .dat (.int (lv : Nat))) (by decide) (upd_other (x := ("left" : Str)) (lv := .dat (.int (lf : Nat))) (by decide) b6)
    have cl := upd_other (x := ("levels" : Str)) (lv := .dat (.int (lv : Nat))) (by decide) (upd_same (x := ("left" : Str)) (y := ("left" : Str)) (lv := .dat (.int (lf : Nat))) (τ := τ) rfl)
    have cv := upd_same (x := ("levels" : Str)) (y := ("levels" : Str)) (lv := .dat (.int (lv : Nat))) (τ := upd ("left" : Str) (.dat (.int (lf : Nat))) τ) rfl
    generalize upd ("levels" : Str) (.dat (.int (lv : Nat))) (upd ("left" : Str) (.dat (.int (lf : Nat))) τ) = τ2 at *
    refine Ex.mid (fun τ => ∃ n : Nat, n ≤ 5000010 ∧ τ.lookup ("nodes" : Str) = some (LV.list (dInts ms)) ∧ τ.lookup ("n" : Str) = some (.dat (.int (n : Nat))) ∧ τ.lookup ("k" : Str) = some (.dat (.int (kk : Nat))) ∧ τ.lookup ("left" : Str) = some (.dat (.int (lf : Nat))))
      (Ex.for_ (Its.range1 (EvP.builtin rfl N.range rfl (by decide)) (.local cv) (by omega) (by omega)) (fun j τ => ∃ n : Nat, n ≤ 5000010 ∧ τ.lookup ("nodes" : Str) = some (LV.list (dInts ms)) ∧ τ.lookup ("n" : Str) = some (.dat (.int (n : Nat))) ∧ τ.lookup ("k" : Str) = some (.dat (.int (kk : Nat))) ∧ τ.lookup ("left" : Str) = some (.dat (.int (lf : Nat))))
        ⟨n, a4, c1, c5, c6, cl⟩ (fun j τ3 d hd ⟨n, e1, e2, e3, e4, e5⟩ => ?_) (fun τ3 h => ⟨τ3, rfl, h⟩)) (fun τ3 ⟨n, e1, e2, e3, e4, e5⟩ => ?_)
    · have hval : ((max (0 : Int) ((n : Int) - 1)).fdiv (kk : Int)) = (((n - 1) / kk : Nat) : Int) := by
        rw [show max (0 : Int) ((n : Int) - 1) = ((n - 1 : Nat) : Int) by omega]
        exact fdivNat _ _
      have hle := Nat.div_le_self (n - 1) kk
      refine Ex.last (Ex.assign (d := .int (((n - 1) / kk : Nat) : Int)) (Ev.to (Ev.bin (EvP.callB (EvP.builtin rfl N.max rfl (by decide)) (.cons .int (.cons (Ev.bin (.local (upd_other (by decide) e3)) .int op_sub) .nil)) op_max2) (.local (upd_other (by decide) e4)) (op_div (by omega) (PyProof.noPylong_small (by omega)))) (by rw [hval])) ⟨(n - 1) / kk, by omega, upd_other (by decide) (upd_other (by decide) e2), upd_same rfl, upd_other (by decide) (upd_other (by decide) e4), upd_other (by decide) (upd_other (by decide) e5)⟩)
    refine Ex.mid (fun τ => ∃ n : Nat, n ≤ 5000010 ∧ τ.lookup ("nodes" : Str) = some (LV.list (dInts ms)) ∧ τ.lookup ("n" : Str) = some (.dat (.int (n : Nat))) ∧ τ.lookup ("k" : Str) = some (.dat (.int (kk : Nat))))
      (Ex.while_ (fun m τ => ∃ n : Nat, n ≤ 5000010 ∧ τ.lookup ("nodes" : Str) = some (LV.list (dInts ms)) ∧ τ.lookup ("n" : Str) = some (.dat (.int (n : Nat))) ∧ τ.lookup ("k" : Str) = some (.dat (.int (kk : Nat))) ∧ τ.lookup ("left" : Str) = some (.dat (.int (m : Nat)))) lf
        ⟨n, e1, e2, e3, e4, e5⟩ (fun m τ4 ⟨n, f1, f2, f3, f4, f5⟩ => ⟨_, EvT.and (EvT.cmp (.local f5) .int op_gt) fun _ => EvT.cmp (.local f3) .int op_lt, fun hc => ?_, fun hc => ⟨τ4, rfl, n, f1, f2, f3, f4⟩⟩)) (fun τ4 ⟨n, f1, f2, f3, f4⟩ => ?_)
    · have h1 : 0 < m ∧ n < 1000000 := by
        simp only [Bool.and_eq_true, decide_eq_true_eq] at hc
        omega
      have hdv : Dat.tuple [.int (((m : Int) - 1).fdiv (kk : Int)), .int (((m : Int) - 1).fmod (kk : Int))] = .tuple [.int (((m - 1) / kk : Nat) : Int), .int (((m - 1) % kk : Nat) : Int)] := by
        rw [show (m : Int) - 1 = ((m - 1 : Nat) : Int) by omega, fdivNat, fmodNat]
      have hle := Nat.div_le_self (m - 1) kk
      have hmod : (m - 1) % kk < kk := Nat.mod_lt _ (by omega)
      have hkn : kk * n ≤ 5 * n := Nat.mul_le_mul_right _ hk.2
      refine Ex.cons (Ex.assignT2 (d0 := .int (((m - 1) / kk : Nat) : Int)) (d1 := .int (((m - 1) % kk : Nat) : Int)) (Ev.to (EvP.callB (EvP.builtin rfl N.divmod rfl (by decide)) (.cons (Ev.bin (.local f5) .int op_sub) (.cons (.local f4) .nil)) (op_divmod (by omega) (by omega))) hdv) ?_)
      refine Ex.last (Ex.assign (d := .int ((kk * n + 1 + (m - 1) % kk : Nat) : Int)) (Ev.to (Ev.bin (Ev.bin (Ev.bin (.local (upd_other (by decide) (upd_other (by decide) f4))) (.local (upd_other (by decide) (upd_other (by decide) f3))) (op_mul (mulOk (by omega)))) .int op_add) (.local (upd_same rfl)) op_add) (by congr 1)) ⟨(m - 1) / kk, by omega, _, ?_, upd_other (by decide) (upd_other (by decide) (upd_other (by decide) f2)), upd_same rfl, upd_other (by decide) (upd_other (by decide) (upd_other (by decide) f4)), upd_other (by decide) (upd_other (by decide) (upd_same rfl))⟩)
      omega
    refine Ex.last (Ex.append f2 (.local f3) ⟨ms ++ [(n : Int)], n, ?_, by simp; omega, fun y hy => ?_, f1, upd_other (by decide) f3, upd_other (by decide) f4⟩ (by rw [dInts_length]; exact small _ (by omega)))
    · rw [upd_same rfl]
      unfold dInts
      rw [List.map_append]; rfl
    · rcases List.mem_append.mp hy with hy | hy
      · exact a3 y hy
      · rw [List.mem_singleton.mp hy]; omega
  · rw [dInts_length] at a2; omega
  exact Ex.freeze a1 (Ex.last (Ex.return (.local (upd_same rfl)) ⟨ms, rfl, a2, a3⟩))
theorem way_fn (N : Free X) (S : Stands X "_law_way" wayS) {kk : Nat} (hk : 2 ≤ kk ∧ kk ≤ 5) {n : Nat} (hn : n ≤ 5000010) : FnD X (k + 4) "_law_way" [.int (n : Nat), .int (kk : Nat)] (dList (wayOf kk n)) := by
  obtain ⟨mm, D⟩ := S
  have hsh := wayOf_short hk.1 hn
  refine FnD.intro D ["n", "k"] rfl (fun pm code doc vs hv => ?_) (by decide) (by rfl) ?_
  · match vs, hv with
    | [v, u], _ => rfl
  refine Ex.cons (Ex.assignNil ?_)
  refine Ex.mid (fun τ => τ.lookup ("way" : Str) = some (LV.list (dInts (wayOf kk n))))
    (Ex.while_ (fun m τ => ∃ rest, wayOf kk n = wayOf kk m ++ rest ∧ τ.lookup ("way" : Str) = some (LV.list (dInts rest)) ∧ τ.lookup ("n" : Str) = some (.dat (.int (m : Nat))) ∧ τ.lookup ("k" : Str) = some (.dat (.int (kk : Nat)))) n
      ⟨[], (List.append_nil _).symm, rfl, rfl, rfl⟩ (fun m τ ⟨rest, a1, a2, a3, a4⟩ => ⟨_, EvT.cmp (.local a3) .int op_gt, fun hc => ?_, fun hc => ⟨τ, rfl, ?_⟩⟩)) (fun τ a1 => ?_)
  · have h0 : m ≠ 0 := by
      have : (0 : Int) < (m : Int) := by simpa using hc
      omega
    have hdv : Dat.tuple [.int (((m : Int) - 1).fdiv (kk : Int)), .int (((m : Int) - 1).fmod (kk : Int))] = .tuple [.int (((m - 1) / kk : Nat) : Int), .int (((m - 1) % kk : Nat) : Int)] := by
      rw [show (m : Int) - 1 = ((m - 1 : Nat) : Int) by omega, fdivNat, fmodNat]
    have hlen := congrArg List.length a1
    rw [List.length_append] at hlen
    refine Ex.cons (Ex.assignT2 (d0 := .int (((m - 1) / kk : Nat) : Int)) (d1 := .int (((m - 1) % kk : Nat) : Int)) (Ev.to (EvP.callB (EvP.builtin rfl N.divmod rfl (by decide)) (.cons (Ev.bin (.local a3) .int op_sub) (.cons (.local a4) .nil)) (op_divmod (by omega) (by omega))) hdv) ?_)
    refine Ex.last (Ex.insert0 (upd_other (by decide) (upd_other (by decide) a2)) .int (.local (upd_same rfl)) (by rw [dInts_length]; omega) ⟨(m - 1) / kk, par_lt h0, (((m - 1) % kk : Nat) : Int) :: rest, ?_, ?_, upd_other (by decide) (upd_other (by decide) (upd_same rfl)), upd_other (by decide) (upd_other (by decide) (upd_other (by decide) a4))⟩)
    · rw [a1, wayOf_pos h0, List.append_assoc]; rfl
    · rw [upd_same rfl]; rfl
  · have h0 : m = 0 := by
      have : ¬ (0 : Int) < (m : Int) := by simpa using hc
      omega
    subst h0
    rw [wayOf_zero, List.nil_append] at a1
    rw [a1]; exact a2
  exact Ex.freeze a1 (Ex.last (Ex.return (.local (upd_same rfl)) rfl))
theorem law_fn (N : Free X) (Sc : Stands X "commonprefix" cpS) (Sn : Stands X "_law_nodes" nodesS) (Sw : Stands X "_law_way" wayS) (Sl : Stands X "law" lawS) {ns : List Int} (hn : ns.length ≤ 63) : FnD X (k + 8) "law" [dList ns] (.bool true) := by
  obtain ⟨m1, Dc⟩ := Sc
  obtain ⟨m4, D⟩ := Sl
  refine FnD.intro D ["script"] rfl (fun pm code doc vs hv => ?_) (by decide) (by rfl) ?_
  · match vs, hv with
    | [v], _ => rfl
  obtain ⟨kk, hk, hkv⟩ : ∃ kk : Nat, (2 ≤ kk ∧ kk ≤ 5) ∧ 2 + ns.sum.fmod 4 = (kk : Int) := by
    have h1 := Int.fmod_nonneg_of_pos ns.sum (show (0 : Int) < 4 by decide)
    have h2 := Int.fmod_lt_of_pos ns.sum (show (0 : Int) < 4 by decide)
    exact ⟨(2 + ns.sum.fmod 4).toNat, by omega, by omega⟩
  refine Ex.cons (Ex.assign (d := .int (kk : Nat)) (Ev.to (Ev.bin .int (Ev.bin (EvP.callB (EvP.builtin rfl N.sum rfl (by decide)) (.cons (.local rfl) .nil) (op_sum (k := k + 6))) .int (op_mod (by decide))) op_add) (by rw [hkv])) ?_)
  refine Ex.cons (Ex.assignP (EvP.callF rfl (.cons (.local rfl) (.cons (.local rfl) .nil)) ((nodes_fn (k := k) N Sn hn hk).le (by omega))) fun d ⟨ms, e, r1, r2⟩ => ?_)
  subst e
  have hcomp : ∀ {σ : Sto} {elt : Expr}, True := fun {_ _} => trivial
  by_cases hne : ms = []
  · subst hne
    refine Ex.cons (Ex.assign (d := .str "") (EvP.callF rfl (.cons (Ev.compMap (l := ([] : List Int)) (toD := .int) (f := fun x => dList (wayOf kk x.toNat)) (Its.list (.local rfl)) [("k", .dat (.int (kk : Nat)))] .of (.cons rfl .nil) rfl (fun x hx => nomatch hx) (Nat.zero_le _)) .nil) ((cp_empty (k := k) N Dc).le (by omega))) ?_)
    refine Ex.cons (Ex.if (EvT.cmp (.local rfl) (Ev.list .nil) (op_eqD (b := true) (dList_ok (ns := [])) (dList_ok (ns := [])) (by simp [dList, dInts]))) (fun _ => ?_) fun hc => nomatch hc)
    exact Ex.last (Ex.return (Ev.to (d' := .bool true) (Ev.cmp (.local rfl) .str op_eqS) (by simp)) rfl)
  have hne' : (ms.map fun x => wayOf kk x.toNat) ≠ [] := fun q => hne (List.map_eq_nil_iff.mp q)
  have hshort : ∀ x ∈ ms, (wayOf kk x.toNat).length ≤ 30 := fun x hx => wayOf_short hk.1 (by have := r2 x hx; omega)
  have hcall := cp_rows (k := k) N Dc hne' (fun r hr => by
    obtain ⟨x, hx, rfl⟩ := List.mem_map.mp hr
    exact small _ (by have := hshort x hx; omega)) (by rw [List.length_map]; omega)
  rw [List.map_map] at hcall
  refine Ex.cons (Ex.assign (d := dList (lcp2 (minRow (ms.map fun x => wayOf kk x.toNat)) (maxRow (ms.map fun x => wayOf kk x.toNat)))) (EvP.callF rfl (.cons (Ev.compMap (l := ms) (toD := .int) (f := dList ∘ fun x => wayOf kk x.toNat) (Its.list (.local rfl)) [("k", .dat (.int (kk : Nat)))] .of (.cons rfl .nil) rfl (fun x hx => ?_) (small _ (by omega))) .nil) (hcall.le (by omega))) ?_)
  · have hx' := r2 x hx
    have e : x = ((x.toNat : Nat) : Int) := by omega
    have := way_fn (k := k) N Sw hk (n := x.toNat) (by omega)
    rw [← e] at this
    exact EvP.callF rfl (.cons (.local rfl) (.cons (.local rfl) .nil)) (this.le (by omega))
  refine Ex.cons (Ex.if (c := false) (EvT.cmp (.local rfl) (Ev.list .nil) (op_eqD (b := false) (dList_ok (ns := ms)) (dList_ok (ns := [])) (by
    constructor
    · intro q; cases q
    · intro q
      exact absurd (dList_inj (b := []) q) hne))) (fun hc => nomatch hc) fun _ => Ex.nil ?_)
  refine Ex.cons (Ex.assignIset (EvP.builtin rfl N.set rfl (by decide)) (.local rfl) (by unfold scanBound; omega) ?_)
  refine Ex.mid (fun τ => ∃ ks, Left kk ms ks ∧ ¬ 1 < ks.length ∧ τ.lookup ("left" : Str) = some (LV.iset X ks) ∧ τ.lookup ("k" : Str) = some (.dat (.int (kk : Nat))) ∧ τ.lookup ("told" : Str) = some (.dat (dList (lcp2 (minRow (ms.map fun x => wayOf kk x.toNat)) (maxRow (ms.map fun x => wayOf kk x.toNat))))))
    (Ex.while_ (fun m τ => ∃ ks, Left kk ms ks ∧ ks.length ≤ 63 ∧ m = ks.sum.toNat ∧ τ.lookup ("left" : Str) = some (LV.iset X ks) ∧ τ.lookup ("k" : Str) = some (.dat (.int (kk : Nat))) ∧ τ.lookup ("told" : Str) = some (.dat (dList (lcp2 (minRow (ms.map fun x => wayOf kk x.toNat)) (maxRow (ms.map fun x => wayOf kk x.toNat)))))) _
      ⟨keysOf ms, left_start hne r2, Nat.le_trans keysOf_length_le r1, rfl, upd_same rfl, rfl, rfl⟩ (fun m τ ⟨ks, a1, a2, a3, a4, a5, a6⟩ => ⟨_, EvT.cmp (Ev.lenIset (EvP.builtin rfl N.len rfl (by decide)) a4 (by omega)) .int op_gt, fun hc => ?_, fun hc => ⟨τ, rfl, ks, a1, ?_, a4, a5, a6⟩⟩)) (fun τ ⟨ks, a1, a2, a4, a5, a6⟩ => ?_)
  · have hl : 1 < ks.length := by
      have : (1 : Int) < (ks.length : Int) := by simpa using hc
      omega
    obtain ⟨t1, t2, t3, t4, t5⟩ := left_turn hk.1 a1 hl
    refine Ex.cons (Ex.assign (d := .int (maxI ks)) (Ev.maxIset (EvP.builtin rfl N.max rfl (by decide)) a4 a1.ne (by decide) (fun mp => EvP.builtin rfl N.max rfl (by decide))) ?_)
    have b4 := upd_other (x := ("top" : Str)) (lv := .dat (.int (maxI ks))) (by decide) a4
    have b5 := upd_other (x := ("top" : Str)) (lv := .dat (.int (maxI ks))) (by decide) a5
    have b6 := upd_other (x := ("top" : Str)) (lv := .dat (.int (maxI ks))) (by decide) a6
    have bt := upd_same (x := ("top" : Str)) (y := ("top" : Str)) (lv := .dat (.int (maxI ks))) (τ := τ) rfl
    generalize upd ("top" : Str) (.dat (.int (maxI ks))) τ = τ2 at *
    have hle : (ks.erase (maxI ks)).length ≤ ks.length := List.length_erase_le
    refine Ex.cons (Ex.removeIset b4 (.local bt) t2 (by unfold scanBound; omega) ?_)
    have hval : ((maxI ks - 1).fdiv (kk : Int)) = ((((maxI ks).toNat - 1) / kk : Nat) : Int) := by
      rw [show maxI ks - 1 = (((maxI ks).toNat - 1 : Nat) : Int) by omega]
      exact fdivNat _ _
    refine Ex.last (Ex.addIset (upd_same rfl) (Ev.to (Ev.bin (Ev.bin (.local (upd_other (by decide) bt)) .int op_sub) (.local (upd_other (by decide) b5)) (op_div (by omega) (PyProof.noPylong_small (by omega)))) (by rw [hval])) (by unfold scanBound; omega) ⟨_, ?_, _, t3, by omega, rfl, upd_same rfl, upd_other (by decide) (upd_other (by decide) b5), upd_other (by decide) (upd_other (by decide) b6)⟩)
    have hnn : ∀ {l : List Int}, (∀ x ∈ l, 0 ≤ x) → 0 ≤ l.sum := by
      intro l
      induction l with
      | nil => intro _; exact Int.le_refl _
      | cons x l ih =>
        intro h
        rw [List.sum_cons]
        have h1 := h x (by simp)
        have h2 := ih fun y hy => h y (List.mem_cons_of_mem _ hy)
        omega
    have h1 := hnn fun x hx => (t3.ok x hx).1
    omega
  · intro q
    have : (1 : Int) < (ks.length : Int) := by omega
    simp [this] at hc
  obtain ⟨q1, q2, q3⟩ := left_done a1 a2 hne
  have e : maxI ks = (((maxI ks).toNat : Nat) : Int) := by omega
  have hway := way_fn (k := k) N Sw hk (n := (maxI ks).toNat) (by omega)
  rw [← e] at hway
  refine Ex.last (Ex.return (Ev.cmp (.local a6) (EvP.callF rfl (.cons (Ev.maxIset (EvP.builtin rfl N.max rfl (by decide)) a4 a1.ne (by decide) (fun mp => EvP.builtin rfl N.max rfl (by decide))) (.cons (.local a5) .nil)) (hway.le (by omega))) (op_eqD (b := true) dList_ok dList_ok (by rw [q3]; simp))) rfl)
end
end Mine

open PySem PySem.W PyProof.Rows
set_option Elab.async false
set_option maxRecDepth 100000 in
set_option maxHeartbeats 8000000 in
theorem PySem.Challenge.cw_kq0014_07_holds : PySem.Challenge.rw_kq0014_07.Holds := by
  w_on; o_law; k_head; (case hw => w_witness2)
  w_strict (
    k_fill
    intro w s₀ s₁ mg mb G Y fa o pm cd doc dV kV ho hd hcd hD hmg hg args vals as hpre hlay hrd hwl hlo
    refine Ground.open G ?_
    intro T B D TE TW
    wrow_args hpre hlay hrd hwl hlo
    rename_i ns _ _ _ _ _ _ _ l vs _ _ _ wl _ _ _ hlen _
    have free := Mine.free_of T
    have D1 := Mine.fn_of T (Str.ofString "commonprefix") (d := _) (by with_unfolding_all rfl)
    have D2 := Mine.fn_of T (Str.ofString "_law_nodes") (d := _) (by with_unfolding_all rfl)
    have D3 := Mine.fn_of T (Str.ofString "_law_way") (d := _) (by with_unfolding_all rfl)
    have D4 := Mine.fn_of T (Str.ofString "law") (d := _) (by with_unfolding_all rfl)
    refine Mine.law_ends (X := ⟨PySem.Challenge.rw_kq0014_07.row.prog, w, mg, mb, s₁.heap, T.g, T.b, T.nolimit, T.builtins⟩) (k := 95 + 8) (f := Str.ofString "law") (ns := ns) ?_ hmg rfl (Mine.rep_of_well wl) hg ⟨rfl, by decide, by decide⟩ (raisesW_false ?_) ?_
    rotate_left 1
    · wrow_none_raised
    · wrow_post
    refine Mine.law_fn (k := 95) ⟨free _ (by decide +kernel), free _ (by decide +kernel), free _ (by decide +kernel), free _ (by decide +kernel), free _ (by decide +kernel), free _ (by decide +kernel), free _ (by decide +kernel), free _ (by decide +kernel), free _ (by decide +kernel), free _ (by decide +kernel), free _ (by decide +kernel), free _ (by decide +kernel), free _ (by decide +kernel), free _ (by decide +kernel), free _ (by decide +kernel), free _ (by decide +kernel), free _ (by decide +kernel), free _ (by decide +kernel), free _ (by decide +kernel)⟩ ?_ ?_ ?_ ?_ (by omega)
    · exact ⟨_, D1⟩
    · exact ⟨_, D2⟩
    · exact ⟨_, D3⟩
    · exact ⟨_, D4⟩)
