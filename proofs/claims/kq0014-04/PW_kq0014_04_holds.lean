import PyProof.Rows.All
import Wide.All
import OpenK.AllK
import Wide.FinOn
import PyProof.EqAt
import KE.KSliceW
import KE.KRevSl
import PyProof.Draws
import PyProof.MinMaxWalk
import PyProof.Rows.Tup
import KE.KEqDat
import PyProof.EnumMake
import PyProof.CollectIter
import PyProof.TupleOfStr
import PyProof.Rows.RaiseClass
import PyProof.TypeOfCall
import PyProof.SliceStr2
import PyProof.FString5
import PyProof.Rows.RuleDivmod
import PyProof.WalkInts
import PyProof.StrWalks
import KE.KSortAsk
import PyProof.CallRoads
import PyProof.Rows.CountFlat
import PyProof.Rows.ListMul
import PyProof.Rows.Nodes
import Wide.Shadow
import PyProof.Rows.StrJoin2
import PyProof.Rows.Range3
import PyProof.DictStraight
import PyProof.StrLawsIn
import PyProof.SetKind
import PyProof.SetRoads
import PyProof.SetNew
import PyProof.Rows.SetObj
import PyProof.Rows.CallKwBuiltin
import PyProof.Rows.SetFrom
import PyProof.DictCalls
import PyProof.DictWalks
import PyProof.DictIter
import PyProof.Rows.SumAny
import KE.KSortKey
import Lean
import PySem.Challenge.RW_kq0014_04

namespace Mine
open PySem PySem.W PyProof.Rows
set_option Elab.async false
set_option maxRecDepth 100000
set_option linter.unusedVariables false

/-- every object of g stands in h -/
abbrev Sub (g h : Heap) : Prop := ∀ b o, g.get? b = some o → h.get? b = some o
theorem Sub.rfl {g : Heap} : Sub g g := fun _ _ e => e
theorem Sub.trans {a b c : Heap} (x : Sub a b) (y : Sub b c) : Sub a c := fun p o e => y p o (x p o e)
theorem Sub.push {g h : Heap} (x : Sub g h) (o : Obj) : Sub g (h.push o) := fun b o' e => Heap.get?_push_of_some _ (x b o' e)

def PlainTup (h : Heap) (a : Addr) (items : Array Value) : Prop := ∃ n, h.get? a = some { cls := .type "tuple", data := .seq items n }
mutual
/-- the value stands for the datum in a heap -/
inductive Rep (h : Heap) : Value → Dat → Prop
  | none : Rep h .none .none
  | bool (b : Bool) : Rep h (.bool b) (.bool b)
  | int (i : Int) (t : Tok) : Rep h (.int i t) (.int i)
  | str (x : Str) (t : Tok) : Rep h (.str x t) (.str x)
  | bytes (b : Array UInt8) (t : Tok) : Rep h (.bytes b t) (.bytes b)
  | tuple {a : Addr} {vs : List Value} {ds : List Dat} : PlainTup h a vs.toArray → RepAll h vs ds → Rep h (.ref a) (.tuple ds)
  | list {a : Addr} {vs : List Value} {ds : List Dat} : h.PlainList a vs.toArray → RepAll h vs ds → Rep h (.ref a) (.list ds)
inductive RepAll (h : Heap) : List Value → List Dat → Prop
  | nil : RepAll h [] []
  | cons {v : Value} {vs : List Value} {d : Dat} {ds : List Dat} : Rep h v d → RepAll h vs ds → RepAll h (v :: vs) (d :: ds)
end

theorem isList_sub {g h : Heap} {a : Addr} {xs : Array Value} (k : Sub g h) (x : g.PlainList a xs) : h.IsList a xs := let ⟨n, ho⟩ := x; ⟨_, k a _ ho, rfl, n, rfl⟩
theorem isTup_sub {g h : Heap} {a : Addr} {xs : Array Value} (k : Sub g h) (x : PlainTup g a xs) : IsTup h a xs := let ⟨n, ho⟩ := x; ⟨_, k a _ ho, rfl, n, rfl⟩
theorem plain_sub {g h : Heap} {a : Addr} {xs : Array Value} (k : Sub g h) (x : g.PlainList a xs) : h.PlainList a xs := let ⟨n, ho⟩ := x; ⟨n, k a _ ho⟩
theorem plainT_sub {g h : Heap} {a : Addr} {xs : Array Value} (k : Sub g h) (x : PlainTup g a xs) : PlainTup h a xs := let ⟨n, ho⟩ := x; ⟨n, k a _ ho⟩

mutual
theorem Rep.sub {g h : Heap} (k : Sub g h) : ∀ {v d}, Rep g v d → Rep h v d
  | _, _, .none => .none
  | _, _, .bool b => .bool b
  | _, _, .int i t => .int i t
  | _, _, .str x t => .str x t
  | _, _, .bytes b t => .bytes b t
  | _, _, .tuple i r => .tuple (plainT_sub k i) (RepAll.sub k r)
  | _, _, .list i r => .list (plain_sub k i) (RepAll.sub k r)
theorem RepAll.sub {g h : Heap} (k : Sub g h) : ∀ {vs ds}, RepAll g vs ds → RepAll h vs ds
  | _, _, .nil => .nil
  | _, _, .cons a r => .cons (Rep.sub k a) (RepAll.sub k r)
end

theorem RepAll.length {h : Heap} : ∀ {vs ds}, RepAll h vs ds → vs.length = ds.length
  | _, _, .nil => _root_.rfl
  | _, _, .cons _ r => by rw [List.length_cons, List.length_cons, RepAll.length r]
theorem RepAll.append {h : Heap} {ws es} (k : RepAll h ws es) : ∀ {vs ds}, RepAll h vs ds → RepAll h (vs ++ ws) (ds ++ es)
  | _, _, .nil => k
  | _, _, .cons a r => .cons a (RepAll.append k r)
theorem RepAll.get {h : Heap} : ∀ {vs ds}, RepAll h vs ds → ∀ {k : Nat} {d}, ds[k]? = some d → ∃ v, vs[k]? = some v ∧ Rep h v d
  | _, _, .nil, k, d, e => by simp at e
  | _, _, .cons a r, 0, d, e => by
    simp at e; subst e; exact ⟨_, by simp, a⟩
  | _, _, .cons a r, k + 1, d, e => by
    obtain ⟨v, h1, h2⟩ := RepAll.get r (k := k) (d := d) (by simpa using e)
    exact ⟨v, by simpa using h1, h2⟩
theorem RepAll.get' {h : Heap} : ∀ {vs ds}, RepAll h vs ds → ∀ {k : Nat} {v}, vs[k]? = some v → ∃ d, ds[k]? = some d ∧ Rep h v d
  | _, _, .nil, k, d, e => by simp at e
  | _, _, .cons a r, 0, d, e => by
    simp at e; subst e; exact ⟨_, by simp, a⟩
  | _, _, .cons a r, k + 1, d, e => by
    obtain ⟨v, h1, h2⟩ := RepAll.get' r (k := k) (v := d) (by simpa using e)
    exact ⟨v, by simpa using h1, h2⟩
theorem RepAll.drop {h : Heap} : ∀ {vs ds}, RepAll h vs ds → ∀ n, RepAll h (vs.drop n) (ds.drop n)
  | _, _, .nil, n => by simp; exact .nil
  | _, _, .cons a r, 0 => .cons a r
  | _, _, .cons a r, n + 1 => by simpa using RepAll.drop r n
theorem RepAll.take {h : Heap} : ∀ {vs ds}, RepAll h vs ds → ∀ n, RepAll h (vs.take n) (ds.take n)
  | _, _, .nil, n => by simp; exact .nil
  | _, _, .cons a r, 0 => .nil
  | _, _, .cons a r, n + 1 => by simpa using .cons a (RepAll.take r n)
theorem RepAll.reverse {h : Heap} : ∀ {vs ds}, RepAll h vs ds → RepAll h vs.reverse ds.reverse
  | _, _, .nil => .nil
  | _, _, .cons a r => by
    rw [List.reverse_cons, List.reverse_cons]
    exact RepAll.append (.cons a .nil) (RepAll.reverse r)
theorem RepAll.one {h : Heap} {v d} (x : Rep h v d) : RepAll h [v] [d] := .cons x .nil
theorem RepAll.set {h : Heap} {v d} (x : Rep h v d) : ∀ {vs ds}, RepAll h vs ds → ∀ n, RepAll h (vs.set n v) (ds.set n d)
  | _, _, .nil, _ => .nil
  | _, _, .cons _ r, 0 => .cons x r
  | _, _, .cons a r, n + 1 => .cons a (RepAll.set x r n)

/-- one step of the world: g is the part that stands still, h the whole heap -/
structure Step (g h g' h' : Heap) : Prop where
  gg : Sub g g'
  hh : Sub h h'
  gh : Sub g' h'
  new : ∀ b o, g'.get? b = some o → g.get? b = some o ∨ h.get? b = none

theorem Step.rfl {g h : Heap} (k : Sub g h) : Step g h g h := ⟨.rfl, .rfl, k, fun _ _ e => .inl e⟩
theorem Step.trans {g h g' h' g'' h'' : Heap} (x : Step g h g' h') (y : Step g' h' g'' h'') : Step g h g'' h'' :=
  ⟨x.gg.trans y.gg, x.hh.trans y.hh, y.gh, fun b o e => by
    rcases y.new b o e with q | q
    · exact x.new b o q
    · right
      cases z : h.get? b with
      | none => exact _root_.rfl
      | some o' => rw [x.hh b o' z] at q; cases q⟩
/-- what lies outside of g and in h lies outside of g' -/
theorem Step.out {g h g' h' : Heap} (x : Step g h g' h') {b : Addr} (h1 : g.get? b = none) (h2 : (h.get? b).isSome) : g'.get? b = none := by
  cases z : g'.get? b with
  | none => exact _root_.rfl
  | some o =>
    rcases x.new b o z with q | q
    · rw [h1] at q; cases q
    · rw [q] at h2; cases h2

/-- the heap h' without what h holds, but with all of g -/
def freeze (g h h' : Heap) : Heap := ⟨(Array.ofFn (n := h'.objs.size) fun i => if (g.get? i.1).isSome || (h.get? i.1).isNone then h'.objs[i] else ⟨.none, none, .freed, #[]⟩), h'.life⟩
theorem freeze_get {g h h' : Heap} (b : Addr) : (freeze g h h').get? b = if (g.get? b).isSome || (h.get? b).isNone then h'.get? b else none := by
  have sz : (freeze g h h').objs.size = h'.objs.size := by simp [freeze]
  by_cases hb : b < h'.objs.size
  · have e : (freeze g h h').objs[b]? = some (if (g.get? b).isSome || (h.get? b).isNone then h'.objs[b] else ⟨.none, none, .freed, #[]⟩) := by
      simp [freeze, hb]
    have e2 : h'.objs[b]? = some h'.objs[b] := by simp [hb]
    by_cases c : ((g.get? b).isSome || (h.get? b).isNone) = true
    · rw [if_pos c] at e ⊢
      conv => lhs; unfold Heap.get?
      conv => rhs; unfold Heap.get?
      rw [e, e2]
    · rw [if_neg c] at e ⊢
      conv => lhs; unfold Heap.get?
      rw [e]
  · have hb2 : h'.objs.size ≤ b := Nat.le_of_not_lt hb
    have e : (freeze g h h').objs[b]? = none := Array.getElem?_eq_none (sz ▸ hb2)
    have e2 : h'.objs[b]? = none := Array.getElem?_eq_none hb2
    have e3 : h'.get? b = none := by unfold Heap.get?; rw [e2]
    rw [e3]
    conv => lhs; unfold Heap.get?
    rw [e]
    simp
theorem Step.of_sub {g h h' : Heap} (k : Sub g h) (x : Sub h h') : Step g h (freeze g h h') h' where
  gg := fun b o e => by rw [freeze_get, e]; simpa using x b o (k b o e)
  hh := x
  gh := fun b o e => by
    rw [freeze_get] at e
    split at e
    · exact e
    · cases e
  new := fun b o e => by
    rw [freeze_get] at e
    split at e
    · rename_i q
      rw [Bool.or_eq_true] at q
      rcases q with q | q
      · left
        obtain ⟨o', ho⟩ := Option.isSome_iff_exists.mp q
        rw [x b o' (k b o' ho)] at e
        rw [ho]; exact e
      · right; simpa using q
    · cases e
theorem freeze_new {g h h' : Heap} {b : Addr} {o : Obj} (e : h'.get? b = some o) (n : h.get? b = none) : (freeze g h h').get? b = some o := by
  rw [freeze_get, n]; simpa using e
theorem freeze_old {g h h' : Heap} (k : Sub g h) (x : Sub h h') : Sub g (freeze g h h') := (Step.of_sub k x).gg

/-- the outcome of a piece of work that makes new things only -/
def Post (g : Heap) (s : Shared) (P : Heap → Value → Prop) (v : Value) (s' : Shared) : Prop :=
  Keeps s s' ∧ ∃ g', Step g s.heap g' s'.heap ∧ P g' v

theorem kp_refl {s : Shared} : Keeps s s := ⟨s.heap, s.toks, rfl, fun _ _ e => e⟩
theorem kp_trans {a b c : Shared} (x : Keeps a b) (y : Keeps b c) : Keeps a c := by
  obtain ⟨h1, t1, rfl, k1⟩ := x
  obtain ⟨h2, t2, rfl, k2⟩ := y
  exact ⟨h2, t2, rfl, fun b o e => k2 b o (k1 b o e)⟩
theorem kp_sub {a b : Shared} (x : Keeps a b) : Sub a.heap b.heap := by
  obtain ⟨h1, t1, rfl, k1⟩ := x; exact k1
theorem kp_tok {s : Shared} {t : Tok} : Keeps s { s with toks := t } := ⟨s.heap, t, rfl, fun _ _ e => e⟩
theorem kp_mk {s : Shared} {h' : Heap} {t : Tok} (k : Sub s.heap h') : Keeps s { s with heap := h', toks := t } := ⟨h', t, rfl, k⟩

theorem Post.here {g : Heap} {s : Shared} {P : Heap → Value → Prop} {v : Value} (k : Sub g s.heap) (h : P g v) : Post g s P v s := ⟨kp_refl, g, .rfl k, h⟩
theorem Post.tok {g : Heap} {s : Shared} {P : Heap → Value → Prop} {v : Value} {t : Tok} (k : Sub g s.heap) (h : P g v) : Post g s P v { s with toks := t } := ⟨kp_tok, g, .rfl k, h⟩
theorem Post.trans {g g' : Heap} {s s' s'' : Shared} {P : Heap → Value → Prop} {v : Value} (k : Keeps s s') (x : Step g s.heap g' s'.heap) (h : Post g' s' P v s'') : Post g s P v s'' := by
  obtain ⟨k2, g'', x2, h2⟩ := h
  exact ⟨kp_trans k k2, g'', x.trans x2, h2⟩
theorem Post.mono {g : Heap} {s s' : Shared} {P P' : Heap → Value → Prop} {v : Value} (h : Post g s P v s') (hp : ∀ g', P g' v → P' g' v) : Post g s P' v s' := by
  obtain ⟨k2, g'', x2, h2⟩ := h
  exact ⟨k2, g'', x2, hp _ h2⟩
end Mine

namespace Mine
open PySem PySem.W PyProof.Rows PySem.Calls
set_option Elab.async false
set_option maxRecDepth 100000
set_option linter.unusedVariables false

/-- the world of a law: the program, its globals and built-ins, and the heap behind the top -/
structure Cx where
  prog : Program
  w : World
  mg : Str → Option Value
  mb : Str → Option Value
  h0 : Heap
  hg : h0.Ns mainGlobals mg
  hb : h0.Ns builtinsNs mb
  hl : h0.NoLimit
  hbi : ∀ x : Str, x ≠ "__name__" → mb x = bootBuiltins x
abbrev Cx.M (X : Cx) : Model := model X.prog X.w

structure Room (A : Around) (k : Nat) : Prop where
  hh : A.handled = none
  depth : A.depth + k < recursionLimit
  units : A.units + 4 * k + 200 < cLine
theorem Room.in1 {A : Around} {k : Nat} (r : Room A (k + 1)) : Room A.in1 k := ⟨r.hh, by have := r.depth; rw [depth_in1]; omega, by have := r.units; rw [units_in1]; omega⟩
theorem Room.deeper {A : Around} {k : Nat} (r : Room A (k + 1)) (env : Env) : Room (A.deeper env) k :=
  ⟨r.hh, by have := r.depth; rw [depth_deeper]; omega, by have := r.units; rw [units_deeper]; omega⟩
theorem Room.le {A : Around} {k j : Nat} (r : Room A k) (h : j ≤ k) : Room A j := ⟨r.hh, by have := r.depth; omega, by have := r.units; omega⟩
theorem Room.un {A : Around} {k : Nat} (r : Room A k) : A.units + 200 < cLine := by have := r.units; omega
theorem Room.room {A : Around} {k : Nat} (r : Room A k) : A.depth < recursionLimit := by have := r.depth; omega

structure EnvOk (env : Env) (sc : Scope) : Prop where
  scope : env.scope = sc
  kind : sc.kind = .function
  glob : env.globals = mainGlobals
  bi : env.builtins = builtinsNs
  cells : ∀ x, sc.names.lookup x = some .cell → (env.cells.lookup x).isSome = true
theorem EnvOk.toEnvOk {env : Env} {sc : Scope} (h : EnvOk env sc) : EnvOk env sc := h
theorem EnvOk.ek {env : Env} {sc : Scope} (h : EnvOk env sc) : env.scope.kind = .function := h.scope ▸ h.kind
theorem EnvOk.kindOf {env : Env} {sc : Scope} (h : EnvOk env sc) {x : Str} {r} (e : sc.names.lookup x = r) : env.kindOf x = r := by
  show env.scope.names.lookup x = r; rw [h.scope]; exact e
theorem EnvOk.plain {env : Env} {sc : Scope} (h : EnvOk env sc) : (env.scope.kind == .class || (env.scope.kind == .module && env.locals != env.globals)) = false := by rw [h.ek]; rfl
theorem EnvOk.quiet {env : Env} {sc : Scope} (h : EnvOk env sc) : interactive env = false := by unfold interactive; rw [h.ek]; rfl

/-- a name of the frame holds a value -/
def VarIs (env : Env) (h : Heap) (x : Str) (v : Value) : Prop :=
  (env.kindOf x = some .local ∧ ∃ m, h.Ns env.locals m ∧ m x = some v) ∨
  ((env.kindOf x = some .cell ∨ env.kindOf x = some .free) ∧ ∃ c, env.cells.lookup x = some c ∧ h.IsCell c (some v))
theorem VarIs.sub {env : Env} {g h : Heap} {x : Str} {v : Value} (k : Sub g h) : VarIs env g x v → VarIs env h x v
  | .inl ⟨a, m, b, c⟩ => .inl ⟨a, m, b.keeps k, c⟩
  | .inr ⟨a, c, b, d⟩ => .inr ⟨a, c, b, d.keeps k⟩

/-- what a name holds: a datum that stands still, or an object of the frame's own that may still be turned -/
inductive LV where
  | dat (d : Dat)
  | val (u : Value)
  | obj (P : Addr → Obj → Heap → Prop) (mono : ∀ a o g g', Sub g g' → P a o g → P a o g')
abbrev Sto := List (Str × LV)
structure StoIn (σ : Sto) (env : Env) (g : Heap) (s : Shared) : Prop where
  sub : Sub g s.heap
  var : ∀ x d, σ.lookup x = some (.dat d) → ∃ v, VarIs env s.heap x v ∧ Rep g v d
  val : ∀ x u, σ.lookup x = some (.val u) → VarIs env s.heap x u
  obj : ∀ x P mp, σ.lookup x = some (.obj P mp) → ∃ a o, VarIs env s.heap x (.ref a) ∧ s.heap.get? a = some o ∧ P a o g
theorem StoIn.step {σ : Sto} {env : Env} {g g' : Heap} {s s' : Shared} (x : StoIn σ env g s) (t : Step g s.heap g' s'.heap) : StoIn σ env g' s' :=
  ⟨t.gh, fun y d e => let ⟨v, a, b⟩ := x.var y d e; ⟨v, a.sub t.hh, b.sub t.gg⟩, fun y u e => (x.val y u e).sub t.hh, fun y P mp e => let ⟨a, o, h1, h2, h3⟩ := x.obj y P mp e; ⟨a, o, h1.sub t.hh, t.hh _ _ h2, mp _ _ _ _ t.gg h3⟩⟩

/-- what an expression yields, said of its value and the heap that stands still -/
def EvP (X : Cx) (k : Nat) (sc : Scope) (σ : Sto) (e : Expr) (P : Heap → Value → Prop) : Prop :=
  ∀ (A : Around) (env : Env) (g : Heap) (s : Shared) (E : Value → Shared → Prop), Room A k → EnvOk env sc → Sub X.h0 g → StoIn σ env g s →
    wpAny X.M A (eval e env) (Post g s P) E s
abbrev Ev (X : Cx) (k : Nat) (sc : Scope) (σ : Sto) (e : Expr) (d : Dat) : Prop := EvP X k sc σ e fun g v => Rep g v d
def PostL (g : Heap) (s : Shared) (ds : List Dat) (vs : List Value) (s' : Shared) : Prop := Keeps s s' ∧ ∃ g', Step g s.heap g' s'.heap ∧ RepAll g' vs ds
def plainE : Expr → Bool
  | .Starred .. => false
  | _ => true
def EvL (X : Cx) (k : Nat) (sc : Scope) (σ : Sto) (es : List Expr) (ds : List Dat) : Prop :=
  es.all plainE = true ∧ ∀ (A : Around) (env : Env) (g : Heap) (s : Shared) (E : Value → Shared → Prop) (pos : Pos), Room A k → EnvOk env sc → Sub X.h0 g → StoIn σ env g s →
    wpAny X.M A (spliced (backTo pos (starEach es env))) (PostL g s ds) E s
/-- the truth of an expression -/
def EvT (X : Cx) (k : Nat) (sc : Scope) (σ : Sto) (e : Expr) (b : Bool) : Prop :=
  ∀ (A : Around) (env : Env) (g : Heap) (s : Shared) (E : Value → Shared → Prop), Room A k → EnvOk env sc → Sub X.h0 g → StoIn σ env g s →
    wpAny X.M A (isTrue e env (eval e env)) (fun c s' => c = b ∧ Keeps s s' ∧ ∃ g', Step g s.heap g' s'.heap) E s

/-- a piece of work that is done from values to a value -/
def Does (X : Cx) (k : Nat) (t : Sem Value) (g : Heap) (s : Shared) (P : Heap → Value → Prop) : Prop :=
  ∀ (A : Around) (E : Value → Shared → Prop), Room A k → wpAny X.M A t (Post g s P) E s

section
variable {X : Cx} {k : Nat} {sc : Scope} {σ : Sto}

theorem EvP.mono {e : Expr} {P P' : Heap → Value → Prop} (h : EvP X k sc σ e P) (hp : ∀ g v, P g v → P' g v) : EvP X k sc σ e P' :=
  fun A env g s E r o b q => wpAny_mono (h A env g s E r o b q) (fun _ _ x => x.mono fun g' => hp g' _) fun _ _ x => x
theorem Ev.to {e : Expr} {d d' : Dat} (h : Ev X k sc σ e d) (q : d = d') : Ev X k sc σ e d' := q ▸ h

/-- sequencing -/
theorem wp_seq {α : Type} {A : Around} {E : Value → Shared → Prop} {s : Shared} {t : Sem α} {Q Q' : α → Shared → Prop} (h : wpAny X.M A t Q E s) (n : ∀ v s', Q v s' → Q' v s') : wpAny X.M A t Q' E s :=
  wpAny_mono h n fun _ _ y => y
theorem wp_ev {A : Around} {E : Value → Shared → Prop} {g : Heap} {s : Shared} {t : Sem Value} {P : Heap → Value → Prop} {Q : Value → Shared → Prop} (h : wpAny X.M A t (Post g s P) E s)
    (n : ∀ v g' s', Keeps s s' → Step g s.heap g' s'.heap → P g' v → Q v s') : wpAny X.M A t Q E s :=
  wpAny_mono h (fun v s' ⟨k1, g', x1, p1⟩ => n v g' s' k1 x1 p1) fun _ _ y => y
theorem wp_evs {A : Around} {E : Value → Shared → Prop} {g : Heap} {s : Shared} {t : Sem (List Value)} {ds : List Dat} {Q : List Value → Shared → Prop} (h : wpAny X.M A t (PostL g s ds) E s)
    (n : ∀ v g' s', Keeps s s' → Step g s.heap g' s'.heap → RepAll g' v ds → Q v s') : wpAny X.M A t Q E s :=
  wpAny_mono h (fun v s' ⟨k1, g', x1, p1⟩ => n v g' s' k1 x1 p1) fun _ _ y => y
/-- the last step of a chain -/
theorem wp_fin {A : Around} {E : Value → Shared → Prop} {g g' : Heap} {s s' : Shared} {t : Sem Value} {P : Heap → Value → Prop} (k1 : Keeps s s') (x1 : Step g s.heap g' s'.heap) (h : wpAny X.M A t (Post g' s' P) E s') :
    wpAny X.M A t (Post g s P) E s' := wpAny_mono h (fun _ _ y => .trans k1 x1 y) fun _ _ y => y

theorem Ev.local {x : Str} {pos : Pos} {d : Dat} (e : σ.lookup x = some (.dat d)) (hd : (x == ("__debug__" : Str)) = false := by decide) (hn : (x == ("__classdict__" : Str)) = false := by decide) : Ev X k sc σ (.Name x pos) d := by
  intro A env g s E r o b q
  obtain ⟨v, hv, hr⟩ := q.var x d e
  rcases hv with ⟨hl, m, ns, hm⟩ | ⟨hl, c, hc, hv⟩
  · exact wpAny_Name (wpAny_loadName_local o.ek hl ns hm (Post.here q.sub hr)) hd
  · rcases hl with hl | hl
    · exact wpAny_Name (wpAny_loadName_cell o.ek hl hc hv (Post.here q.sub hr)) hd
    · exact wpAny_Name (wpAny_loadName_free o.ek hl hc hv (Post.here q.sub hr) hn) hd

/-- a name that holds a value that is no datum -/
theorem EvP.localV {x : Str} {pos : Pos} {u : Value} (e : σ.lookup x = some (.val u)) (hd : (x == ("__debug__" : Str)) = false := by decide) (hn : (x == ("__classdict__" : Str)) = false := by decide) : EvP X k sc σ (.Name x pos) fun _ v => v = u := by
  intro A env g s E r o b q
  rcases q.val x u e with ⟨hl, m, ns, hm⟩ | ⟨hl, c, hc, hv⟩
  · exact wpAny_Name (wpAny_loadName_local o.ek hl ns hm (Post.here q.sub rfl)) hd
  · rcases hl with hl | hl
    · exact wpAny_Name (wpAny_loadName_cell o.ek hl hc hv (Post.here q.sub rfl)) hd
    · exact wpAny_Name (wpAny_loadName_free o.ek hl hc hv (Post.here q.sub rfl) hn) hd

theorem EvP.global {x : Str} {pos : Pos} {v : Value} (hk : sc.names.lookup x = some .globalImplicit) (e : X.mg x = some v) (hd : (x == ("__debug__" : Str)) = false := by decide) :
    EvP X k sc σ (.Name x pos) fun _ u => u = v := by
  intro A env g s E r o b q
  refine Name_function_global o.ek (o.kindOf hk) (loadGlobal_global (o.glob ▸ X.hg.keeps (b.trans q.sub)) e (Post.here q.sub rfl)) hd
theorem EvP.builtin {x : Str} {pos : Pos} {v : Value} (hk : sc.names.lookup x = some .globalImplicit) (e : X.mg x = none) (hv : bootBuiltins x = some v) (hn : x ≠ "__name__") (hd : (x == ("__debug__" : Str)) = false := by decide) :
    EvP X k sc σ (.Name x pos) fun _ u => u = v := by
  intro A env g s E r o b q
  refine Name_function_global o.ek (o.kindOf hk) (loadGlobal_builtin (o.glob ▸ X.hg.keeps (b.trans q.sub)) e (o.bi ▸ X.hb.keeps (b.trans q.sub)) ((X.hbi x hn).trans hv) (Post.here q.sub rfl)) hd

theorem Ev.int {i : Int} {n : Nat} {pos : Pos} : Ev X k sc σ (.Constant (.int i) n pos) (.int i) := fun _ _ _ _ _ _ _ _ q => wpAny_Constant_int (Post.tok q.sub (.int _ _))
theorem Ev.str {x : Str} {n : Nat} {pos : Pos} : Ev X k sc σ (.Constant (.str x) n pos) (.str x) := fun _ _ _ _ _ _ _ _ q => wpAny_Constant_str (Post.tok q.sub (.str _ _))
theorem Ev.bool {b : Bool} {n : Nat} {pos : Pos} : Ev X k sc σ (.Constant (.bool b) n pos) (.bool b) := fun _ _ _ _ _ _ _ _ q => wpAny_Constant_bool (Post.here q.sub (.bool _))
theorem Ev.none_ {n : Nat} {pos : Pos} : Ev X k sc σ (.Constant .none n pos) .none := fun _ _ _ _ _ _ _ _ q => wpAny_Constant_none (Post.here q.sub .none)

/-- the tail of an operation on two data -/
def Op2 (X : Cx) (k : Nat) (f : Value → Value → Sem Value) (a b c : Dat) : Prop :=
  ∀ (g : Heap) (s : Shared) (u v : Value), Sub X.h0 g → Sub g s.heap → Rep g u a → Rep g v b → Does X k (f u v) g s fun g' r => Rep g' r c

theorem Ev.bin {l r : Expr} {op : Operator} {pos : Pos} {a b c : Dat} (hl : Ev X k sc σ l a) (hr : Ev X k sc σ r b) (ho : Op2 X k (binaryOp op) a b c) : Ev X k sc σ (.BinOp l op r pos) c := by
  intro A env g s E rm o bs q
  refine wpAny_BinOp (wp_ev (hl A env g s E rm o bs q) fun u g1 s1 k1 x1 p1 => wp_ev (hr A env g1 s1 E rm o (bs.trans x1.gg) (q.step x1)) fun v g2 s2 k2 x2 p2 => ?_)
  exact wp_fin (kp_trans k1 k2) (x1.trans x2) (ho g2 s2 u v ((bs.trans x1.gg).trans x2.gg) x2.gh (p1.sub x2.gg) p2 A E rm)

theorem Ev.cmp {l r : Expr} {op : CmpOp} {pos : Pos} {a b c : Dat} (hl : Ev X k sc σ l a) (hr : Ev X k sc σ r b) (ho : Op2 X k (compareOp op) a b c) (hm : behindInMarks op r = false := by with_unfolding_all rfl) : Ev X k sc σ (.Compare l [op] [r] pos) c := by
  intro A env g s E rm o bs q
  refine wpAny_Compare1 (wp_ev (hl A env g s E rm o bs q) fun u g1 s1 k1 x1 p1 => wp_ev (hr A env g1 s1 E rm o (bs.trans x1.gg) (q.step x1)) fun v g2 s2 k2 x2 p2 => ?_) hm
  exact wp_fin (kp_trans k1 k2) (x1.trans x2) (ho g2 s2 u v ((bs.trans x1.gg).trans x2.gg) x2.gh (p1.sub x2.gg) p2 A E rm)

theorem EvT.cmp {l r : Expr} {op : CmpOp} {pos : Pos} {a b : Dat} {c : Bool} (hl : Ev X k sc σ l a) (hr : Ev X k sc σ r b) (ho : Op2 X k (compareOp op) a b (.bool c)) (hm : behindInMarks op r = false := by with_unfolding_all rfl) : EvT X k sc σ (.Compare l [op] [r] pos) c := by
  intro A env g s E rm o bs q
  refine wpAny_isTrue_Compare1 (wp_ev (hl A env g s E rm o bs q) fun u g1 s1 k1 x1 p1 => wp_ev (hr A env g1 s1 E rm o (bs.trans x1.gg) (q.step x1)) fun v g2 s2 k2 x2 p2 => ?_) hm
  refine wp_ev (ho g2 s2 u v ((bs.trans x1.gg).trans x2.gg) x2.gh (p1.sub x2.gg) p2 A E rm) fun c g3 s3 k3 x3 p3 => ?_
  cases p3
  exact wpAny_truthy_bool ⟨rfl, kp_trans k1 (kp_trans k2 k3), g3, x1.trans (x2.trans x3)⟩

/-- the truth of a datum -/
def Dat.isTrue : Dat → Bool
  | .none => false
  | .bool b => b
  | .int i => i != 0
  | .str x => x.length != 0
  | .bytes b => b.size != 0
  | .tuple ds => !ds.isEmpty
  | .list ds => !ds.isEmpty
end
end Mine

namespace Mine
open PySem PySem.W PyProof.Rows PySem.Calls
set_option Elab.async false
set_option maxRecDepth 100000
set_option linter.unusedVariables false
section
variable {X : Cx} {k : Nat} {sc : Scope} {σ : Sto}

theorem Does.tok {t : Sem Value} {g : Heap} {s : Shared} {P : Heap → Value → Prop} (kk : Sub g s.heap)
    (h : ∀ (A : Around) (E : Value → Shared → Prop) (Q : Value → Shared → Prop), Room A k → (∀ v tk, P g v → Q v { s with toks := tk }) → wpAny X.M A t Q E s) : Does X k t g s P :=
  fun A E r => h A E _ r fun _ _ p => Post.tok kk p

/-- int by int -/
theorem op_add {i j : Int} : Op2 X k (binaryOp .Add) (.int i) (.int j) (.int (i + j)) := by
  intro g s u v b0 kk hu hv; cases hu; cases hv
  exact Does.tok kk fun A E Q r h => add_int (h _ _ (.int _ _))
theorem op_sub {i j : Int} : Op2 X k (binaryOp .Sub) (.int i) (.int j) (.int (i - j)) := by
  intro g s u v b0 kk hu hv; cases hu; cases hv
  exact Does.tok kk fun A E Q r h => sub_int (h _ _ (.int _ _))
theorem op_mod {i j : Int} (hj : j ≠ 0) : Op2 X k (binaryOp .Mod) (.int i) (.int j) (.int (i.fmod j)) := by
  intro g s u v b0 kk hu hv; cases hu; cases hv
  exact Does.tok kk fun A E Q r h => mod_int hj (h _ _ (.int _ _))
theorem op_div {i j : Int} (hj : j ≠ 0) (hp : Builtin.divisionGoesByPylong i j = false) : Op2 X k (binaryOp .FloorDiv) (.int i) (.int j) (.int (i.fdiv j)) := by
  intro g s u v b0 kk hu hv; cases hu; cases hv
  exact Does.tok kk fun A E Q r h => floordiv_int hj (h _ _ (.int _ _)) (Or.inl hp)
theorem op_ge {i j : Int} : Op2 X k (compareOp .GtE) (.int i) (.int j) (.bool (decide (j ≤ i))) := by
  intro g s u v b0 kk hu hv; cases hu; cases hv
  exact Does.tok kk fun A E Q r h => PyProof.Rows.ge_int (h _ _ (.bool _))

theorem Ev.neg {e : Expr} {pos : Pos} {i : Int} (h : Ev X k sc σ e (.int i)) : Ev X k sc σ (.UnaryOp .USub e pos) (.int (-i)) := by
  intro A env g s E rm o bs q
  refine wpAny_UnaryOp (wp_ev (h A env g s E rm o bs q) fun u g1 s1 k1 x1 p1 => ?_)
  cases p1
  exact PyProof.Rows.neg_int (.trans k1 x1 (Post.tok x1.gh (.int _ _)))

/-- truth -/
def Big (d : Dat) : Prop := match d with
  | .str x => (x.length : Int) < 2 ^ 63
  | .bytes _ => False
  | .tuple ds => (ds.length : Int) < 2 ^ 63
  | .list ds => (ds.length : Int) < 2 ^ 63
  | .none => False
  | _ => True
theorem truthy_dat {A : Around} {E : Value → Shared → Prop} {Q : Bool → Shared → Prop} {s : Shared} {g : Heap} {v : Value} {d : Dat} (kk : Sub g s.heap) (r : Rep g v d) (hb : Big d)
    (h : ∀ tk, Q (Dat.isTrue d) { s with toks := tk }) : wpAny X.M A (truthy v) Q E s := by
  cases r with
  | none => exact hb.elim
  | bool b => exact wpAny_truthy_bool (h s.toks)
  | int i t => exact P.truthy_int (h s.toks)
  | str x t =>
    refine P.truthy_str (by have : (x.length : Int) < 2 ^ 63 := hb; omega) ?_
    have e : ((x.length : Int) != 0) = (x.length != 0) := by
      rcases Nat.eq_zero_or_pos x.length with h0 | h0
      · rw [h0]; rfl
      · have h1 : (x.length : Int) ≠ 0 := by omega
        have h2 : x.length ≠ 0 := by omega
        rw [bne_iff_ne.mpr h1, bne_iff_ne.mpr h2]
    rw [e]; exact h (s.toks + 1 + 1)
  | bytes b t => exact hb.elim
  | tuple i r =>
    rename_i a vs ds
    have hb' : (ds.length : Int) < 2 ^ 63 := hb
    have hl := r.length
    refine truthy_tuple (isTup_sub kk i) (by simpa [hl] using hb') ?_
    have := h (s.toks + 1 + 1)
    have e : (!vs.toArray.isEmpty) = Dat.isTrue (.tuple ds) := by
      cases vs <;> cases ds <;> simp_all [Dat.isTrue]
    rw [e]; exact this
  | list i r =>
    rename_i a vs ds
    have hb' : (ds.length : Int) < 2 ^ 63 := hb
    have hl := r.length
    refine wpAny_truthy_list (isList_sub kk i) (by simpa [hl] using hb') ?_
    have := h (s.toks + 1 + 1)
    have e : (!vs.toArray.isEmpty) = Dat.isTrue (.list ds) := by
      cases vs <;> cases ds <;> simp_all [Dat.isTrue]
    rw [e]; exact this

theorem EvT.val {e : Expr} {d : Dat} (h : Ev X k sc σ e d) (hb : Big d) (he : ∀ env whole, isTrue e env whole = (do let v ← whole; standAt e.pos; holding [v] (truthy v)) := by intro _ _; rfl) : EvT X k sc σ e (Dat.isTrue d) := by
  intro A env g s E rm o bs q
  exact wpAny_isTrue_value (wp_ev (h A env g s E rm o bs q) fun u g1 s1 k1 x1 p1 => truthy_dat x1.gh p1 hb fun tk => ⟨rfl, kp_trans k1 kp_tok, g1, x1⟩) (he _ _)
theorem EvT.not {e : Expr} {pos : Pos} {b : Bool} (h : EvT X k sc σ e b) : EvT X k sc σ (.UnaryOp .Not e pos) (!b) := by
  intro A env g s E rm o bs q
  exact wpAny_isTrue_Not (wp_seq (h A env g s E rm o bs q) fun c s' ⟨e, r⟩ => ⟨by rw [e], r⟩)
/-- and, or in a test, of two parts -/
theorem EvT.and {e f : Expr} {pos : Pos} {a b : Bool} (h : EvT X k sc σ e a) (h2 : a = true → EvT X k sc σ f b) : EvT X k sc σ (.BoolOp .And [e, f] pos) (a && b) := by
  intro A env g s E rm o bs q
  refine wpAny_isTrue_BoolOp (wpAny_allTrue_And_cons (wp_seq (h A env g s E rm o bs q) fun c s1 ⟨ec, k1, g1, x1⟩ => ?_))
  subst ec
  cases c with
  | false => simp only [Bool.false_eq_true, if_false]; exact ⟨rfl, k1, g1, x1⟩
  | true =>
    simp only [if_true]
    refine wpAny_allTrue_And_cons (wp_seq (h2 rfl A env g1 s1 E rm o (bs.trans x1.gg) (q.step x1)) fun c s2 ⟨ec, k2, g2, x2⟩ => ?_)
    subst ec
    cases c with
    | false => simp only [Bool.false_eq_true, if_false]; exact ⟨rfl, kp_trans k1 k2, g2, x1.trans x2⟩
    | true => simp only [if_true]; exact wpAny_allTrue_And_nil ⟨rfl, kp_trans k1 k2, g2, x1.trans x2⟩
theorem EvT.or {e f : Expr} {pos : Pos} {a b : Bool} (h : EvT X k sc σ e a) (h2 : a = false → EvT X k sc σ f b) : EvT X k sc σ (.BoolOp .Or [e, f] pos) (a || b) := by
  intro A env g s E rm o bs q
  refine wpAny_isTrue_BoolOp (wpAny_allTrue_Or_cons (wp_seq (h A env g s E rm o bs q) fun c s1 ⟨ec, k1, g1, x1⟩ => ?_))
  subst ec
  cases c with
  | true => simp only [if_true]; exact ⟨rfl, k1, g1, x1⟩
  | false =>
    simp only [Bool.false_eq_true, if_false]
    refine wpAny_allTrue_Or_cons (wp_seq (h2 rfl A env g1 s1 E rm o (bs.trans x1.gg) (q.step x1)) fun c s2 ⟨ec, k2, g2, x2⟩ => ?_)
    subst ec
    cases c with
    | true => simp only [if_true]; exact ⟨rfl, kp_trans k1 k2, g2, x1.trans x2⟩
    | false => simp only [Bool.false_eq_true, if_false]; exact wpAny_allTrue_Or_nil ⟨rfl, kp_trans k1 k2, g2, x1.trans x2⟩
theorem EvT.to {e : Expr} {b c : Bool} (h : EvT X k sc σ e b) (q : b = c) : EvT X k sc σ e c := q ▸ h

/-- lists of expressions -/
theorem starEach_plain {e : Expr} (h : plainE e = true) (rest : List Expr) (env : Env) : starEach (e :: rest) env = (false, eval e env) :: starEach rest env := by
  cases e <;> first | rfl | cases h
theorem plain_any (pos : Pos) (env : Env) : ∀ {es : List Expr}, es.all plainE = true → (backTo pos (starEach es env)).any (·.1) = false
  | [], _ => rfl
  | e :: es, h => by
    rw [List.all_cons, Bool.and_eq_true] at h
    rw [starEach_plain h.1]
    show (false || (backTo pos (starEach es env)).any (·.1)) = false
    rw [plain_any pos env h.2]; rfl
theorem EvL.nil : EvL X k sc σ [] [] := ⟨rfl, fun _ _ g s _ _ _ _ _ q => wpAny_items_nil ⟨kp_refl, g, .rfl q.sub, .nil⟩⟩
theorem EvL.cons {e : Expr} {es : List Expr} {d : Dat} {ds : List Dat} (h : Ev X k sc σ e d) (r : EvL X k sc σ es ds) (hp : plainE e = true := by rfl) : EvL X k sc σ (e :: es) (d :: ds) := by
  refine ⟨by rw [List.all_cons, hp, r.1]; rfl, ?_⟩
  intro A env g s E pos rm o bs q
  rw [starEach_plain hp]
  show wpAny _ _ (spliced ((false, eval e env) :: backTo pos (starEach es env))) _ _ _
  refine spliced_cons (wp_ev (h A env g s E rm o bs q) fun u g1 s1 k1 x1 p1 => wp_evs (r.2 A env g1 s1 E pos rm o (bs.trans x1.gg) (q.step x1)) fun us g2 s2 k2 x2 p2 => ?_)
  exact ⟨kp_trans k1 k2, g2, x1.trans x2, .cons (p1.sub x2.gg) p2⟩

theorem step_push {g : Heap} {s s' : Shared} {o : Obj} {g' : Heap} (x : Step g s.heap g' s'.heap) : Step g s.heap (freeze g' s'.heap (s'.heap.push o)) (s'.heap.push o) :=
  x.trans (.of_sub x.gh (Sub.push .rfl o))
theorem freeze_push {g h : Heap} {o : Obj} (hf : o.isFreed = false) : (freeze g h (h.push o)).get? h.objs.size = some o :=
  freeze_new (Heap.get?_push_size _ hf) (by
    cases z : h.get? h.objs.size with
    | none => rfl
    | some o' => exact absurd (Heap.lt_size z) (Nat.lt_irrefl _))

theorem post_newList {g g' : Heap} {s s' : Shared} {vs : List Value} {ds : List Dat} (k1 : Keeps s s') (x1 : Step g s.heap g' s'.heap) (r : RepAll g' vs ds) :
    Post g s (fun g v => Rep g v (.list ds)) (.ref s'.heap.objs.size) { s' with heap := s'.heap.push { cls := .type "list", data := .seq vs.toArray } } :=
  ⟨kp_trans k1 (kp_mk (Sub.push .rfl _)), _, step_push x1, .list ⟨_, freeze_push rfl⟩ (r.sub (freeze_old x1.gh (Sub.push .rfl _)))⟩
theorem post_newTuple {g g' : Heap} {s s' : Shared} {vs : List Value} {ds : List Dat} (k1 : Keeps s s') (x1 : Step g s.heap g' s'.heap) (r : RepAll g' vs ds) :
    Post g s (fun g v => Rep g v (.tuple ds)) (.ref s'.heap.objs.size) { s' with heap := s'.heap.push { cls := .type "tuple", data := .seq vs.toArray } } :=
  ⟨kp_trans k1 (kp_mk (Sub.push .rfl _)), _, step_push x1, .tuple ⟨_, freeze_push rfl⟩ (r.sub (freeze_old x1.gh (Sub.push .rfl _)))⟩
theorem newList_post {A : Around} {E : Value → Shared → Prop} {g : Heap} {s : Shared} {vs : List Value} {ds : List Dat} (kk : Sub g s.heap) (r : RepAll g vs ds) (hz : ds.length ≤ sizeLine) :
    wpAny X.M A (newList vs) (Post g s fun g v => Rep g v (.list ds)) E s :=
  wpAny_newObj_type (post_newList kp_refl (.rfl kk) r) (by show vs.toArray.size ≤ sizeLine; rw [List.size_toArray, r.length]; exact hz)
theorem newTuple_post {A : Around} {E : Value → Shared → Prop} {g : Heap} {s : Shared} {vs : List Value} {ds : List Dat} (kk : Sub g s.heap) (r : RepAll g vs ds) (hz : ds.length ≤ sizeLine) :
    wpAny X.M A (newTuple vs) (Post g s fun g v => Rep g v (.tuple ds)) E s :=
  wpAny_newObj_type (post_newTuple kp_refl (.rfl kk) r) (by show vs.toArray.size ≤ sizeLine; rw [List.size_toArray, r.length]; exact hz)

theorem Ev.list {es : List Expr} {ds : List Dat} {pos : Pos} (h : EvL X k sc σ es ds) (hz : ds.length ≤ sizeLine := by exact of_decide_eq_true (by rfl)) : Ev X k sc σ (.List es pos) (.list ds) := by
  intro A env g s E rm o bs q
  exact List_ (wp_evs (h.2 A env g s E pos rm o bs q) fun us g1 s1 k1 x1 p1 => wp_fin k1 x1 (newList_post x1.gh p1 hz))
theorem Ev.tuple {es : List Expr} {ds : List Dat} {n : Nat} {pos : Pos} (h : EvL X k sc σ es ds) (hz : ds.length ≤ sizeLine := by exact of_decide_eq_true (by rfl)) : Ev X k sc σ (.Tuple es n pos) (.tuple ds) := by
  intro A env g s E rm o bs q
  exact Tuple_ (wp_evs (h.2 A env g s E pos rm o bs q) fun us g1 s1 k1 x1 p1 => wp_fin k1 x1 (newTuple_post x1.gh p1 hz))

/-- an item at a place -/
theorem Ev.item {value slice : Expr} {pos : Pos} {ds : List Dat} {d : Dat} {i : Int} (hv : Ev X k sc σ value (.list ds)) (hi : Ev X k sc σ slice (.int i)) (h0 : 0 ≤ i) (h1 : i < 2 ^ 63) (hd : ds[i.toNat]? = some d)
    (hs : ∀ a i u, subscripted slice false (.ref a) (.int i u) = operate [.ref a, .int i u] (getItem (.ref a) (.int i u)) := by intro _ _ _; with_unfolding_all rfl) :
    Ev X k sc σ (.Subscript value slice pos) d := by
  intro A env g s E rm o bs q
  refine Subscript_ (wp_ev (hv A env g s E rm o bs q) fun u g1 s1 k1 x1 p1 => wp_ev (hi A env g1 s1 E rm o (bs.trans x1.gg) (q.step x1)) fun v g2 s2 k2 x2 p2 => ?_)
  cases p2
  cases p1 with
  | list il r =>
    obtain ⟨x, hx, hr⟩ := r.get hd
    have il2 := isList_sub (x1.gh.trans x2.hh) il
    refine tail_any il2.typeIs slot_list_getitem.lookup (wpAny_getItem_list il2 h0 h1 (by simpa using hx) ?_) (hs _ _ _)
    exact .trans (kp_trans k1 k2) (x1.trans x2) (Post.here x2.gh (hr.sub x2.gg))
end
end Mine

namespace Mine
open PySem PySem.W PyProof.Rows PySem.Calls
set_option Elab.async false
set_option maxRecDepth 100000
set_option linter.unusedVariables false
section
variable {X : Cx} {k : Nat} {sc : Scope} {σ : Sto}

/-- a tree over values, done on data -/
def OpN (X : Cx) (k : Nat) (t : List Value → Sem Value) (ds : List Dat) (P : Heap → Value → Prop) : Prop :=
  ∀ (g : Heap) (s : Shared) (vs : List Value), Sub X.h0 g → Sub g s.heap → RepAll g vs ds → Does X k (t vs) g s P

theorem evalArgs_evs {A : Around} {env : Env} {g : Heap} {s : Shared} {E : Value → Shared → Prop} {f : Value} {pos : Pos} {e : Expr} {es : List Expr} {ds : List Dat} {Q : Args → Shared → Prop}
    (hes : EvL X k sc σ (e :: es) ds) (rm : Room A k) (o : EnvOk env sc) (bs : Sub X.h0 g) (q : StoIn σ env g s)
    (h : ∀ vs g' s', Keeps s s' → Step g s.heap g' s'.heap → RepAll g' vs ds → Q ⟨vs, []⟩ s') :
    wpAny X.M A (evalArgs f true (backTo pos (starEach (e :: es) env)) []) Q E s := by
  have hp : plainE e = true := by have := hes.1; rw [List.all_cons, Bool.and_eq_true] at this; exact this.1
  have w := hes.2 A env g s E pos rm o bs q
  rw [starEach_plain hp] at w ⊢
  exact evalArgs_plain (wp_evs w h)

theorem callWith_seq {A : Around} {env : Env} {g : Heap} {s : Shared} {E : Value → Shared → Prop} {f : Value} {pos : Pos} {e : Expr} {es : List Expr} {ds : List Dat} {P : Heap → Value → Prop}
    (hes : EvL X k sc σ (e :: es) ds) (rm : Room A k) (o : EnvOk env sc) (bs : Sub X.h0 g) (q : StoIn σ env g s)
    (hk : ∀ h, Sub X.h0 h → ∃ kp, (kp = Keeper.frame ∨ kp = Keeper.machine ∨ kp = Keeper.boundFrame) ∧ Looks X.M h (keeperOf f) kp) (hop : OpN X k (fun vs => call f vs) ds P) :
    wpAny X.M A (callWith pos f [] (backTo pos (starEach (e :: es) env)) []) (Post g s P) E s := by
  refine callWith_of (P := fun h => Sub X.h0 h) (by rw [plain_any pos env hes.1]; rfl) hk (evalArgs_evs hes rm o bs q fun vs g1 s1 k1 x1 p1 => ?_)
  exact ⟨(bs.trans x1.gg).trans x1.gh, wp_fin k1 x1 (hop g1 s1 vs (bs.trans x1.gg) x1.gh p1 A E rm)⟩

theorem EvP.callB {f : Str} {p pos : Pos} {id : String} {e : Expr} {es : List Expr} {ds : List Dat} {P : Heap → Value → Prop} (hf : EvP X k sc σ (.Name f p) fun _ u => u = .builtin id) (hes : EvL X k sc σ (e :: es) ds)
    (hop : OpN X k (fun vs => call (.builtin id) vs) ds P) : EvP X k sc σ (.Call (.Name f p) (e :: es) [] pos) P := by
  intro A env g s E rm o bs q
  refine wpAny_Call_NameR (wp_ev (hf A env g s E rm o bs q) fun u g1 s1 k1 x1 p1 => ?_)
  subst p1
  exact wp_fin k1 x1 (callWith_seq hes rm o (bs.trans x1.gg) (q.step x1) (fun h _ => ⟨.machine, .inr (.inl rfl), Looks.of_pure rfl⟩) hop)
theorem EvP.callT {f : Str} {p pos : Pos} {T : String} {e : Expr} {es : List Expr} {ds : List Dat} {P : Heap → Value → Prop} (hf : EvP X k sc σ (.Name f p) fun _ u => u = .type T) (hes : EvL X k sc σ (e :: es) ds)
    (hop : OpN X k (fun vs => call (.type T) vs) ds P) : EvP X k sc σ (.Call (.Name f p) (e :: es) [] pos) P := by
  intro A env g s E rm o bs q
  refine wpAny_Call_NameR (wp_ev (hf A env g s E rm o bs q) fun u g1 s1 k1 x1 p1 => ?_)
  subst p1
  exact wp_fin k1 x1 (callWith_seq hes rm o (bs.trans x1.gg) (q.step x1) (fun h _ => ⟨.machine, .inr (.inl rfl), Looks.of_pure rfl⟩) hop)

/-- a def of the text's: what its call yields -/
def Fn (X : Cx) (k : Nat) (f : Str) (ds : List Dat) (P : Heap → Value → Prop) : Prop :=
  ∃ a o fd, X.mg f = some (.ref a) ∧ X.h0.get? a = some o ∧ o.data = .func fd ∧ OpN X k (fun vs => call (.ref a) vs) ds P
/-- len -/
theorem op_len {d : Dat} {n : Nat} (hn : (match d with | .str x => x.length = n | .list ds => ds.length = n | _ => False)) (hz : (n : Int) < 2 ^ 63) : OpN X k (fun vs => call (.builtin "len") vs) [d] fun g v => Rep g v (.int n) := by
  intro g s vs b0 kk r
  cases r with
  | cons a r =>
    cases r
    cases a with
    | str x t =>
      have hn' : x.length = n := hn
      subst hn'
      exact Does.tok kk fun A E Q rm h => P.len_str (by omega) (h _ _ (.int _ _))
    | list il r =>
      rename_i l us ds
      have hn' : ds.length = n := hn
      have hl := r.length
      refine Does.tok kk fun A E Q rm h => call_len_list (isList_sub kk il) (by simp; omega) ?_
      have e : (us.toArray.size : Int) = n := by simp; omega
      rw [e]; exact h _ _ (.int _ _)
    | _ => exact hn.elim
end
end Mine

namespace Mine
open PySem PySem.W PyProof.Rows PySem.Calls
set_option Elab.async false
set_option maxRecDepth 100000
set_option linter.unusedVariables false
open PySem.SeqAt PySem.MeetsSeq PySem.MeetsSeq2 PySem.MeetsSeq3 PySem.SeqRoads2
open PySem.AutoSeq1 (wpAny_loadPart')

end Mine

namespace Mine
open PySem PySem.W PyProof.Rows PySem.Calls
set_option Elab.async false
set_option maxRecDepth 100000
set_option linter.unusedVariables false

/-- Python's cut of a row by ones -/
def cut {α : Type} (l : List α) (lo hi : Option Int) : List α := (l.drop (kms_lo lo l.length)).take (kms_hi hi l.length - kms_lo lo l.length)
theorem kms_cut (l : List Value) (lo hi : Option Int) : kms_pick l lo hi = cut l lo hi := rfl
theorem RepAll.cut {h : Heap} {vs : List Value} {ds : List Dat} (r : RepAll h vs ds) (lo hi : Option Int) : RepAll h (cut vs lo hi) (cut ds lo hi) := by
  unfold Mine.cut
  rw [r.length]
  exact (r.drop _).take _
theorem cut_length_le {α : Type} (l : List α) (lo hi : Option Int) : (cut l lo hi).length ≤ l.length := by
  unfold cut; rw [List.length_take, List.length_drop]; omega
theorem cut_from {α : Type} (l : List α) (i : Nat) : cut l (some (i : Int)) none = l.drop i := by
  unfold cut kms_lo kms_hi
  have h : ¬ ((i : Int) < 0) := by omega
  simp only [if_neg h, Int.toNat_natCast]
  rcases Nat.le_total i l.length with h1 | h1
  · rw [Nat.min_eq_left h1, List.take_of_length_le]; rw [List.length_drop]; exact Nat.le_refl _
  · rw [Nat.min_eq_right h1, List.drop_of_length_le (Nat.le_refl _), List.drop_of_length_le h1]; simp
theorem cut_upto {α : Type} (l : List α) (j : Nat) : cut l none (some (j : Int)) = l.take j := by
  unfold cut kms_lo kms_hi
  have h : ¬ ((j : Int) < 0) := by omega
  simp only [if_neg h, Int.toNat_natCast, List.drop_zero, Nat.sub_zero]
  rcases Nat.le_total j l.length with h1 | h1
  · rw [Nat.min_eq_left h1]
  · rw [Nat.min_eq_right h1, List.take_of_length_le (Nat.le_refl _), List.take_of_length_le h1]
theorem cut_mid {α : Type} (l : List α) (i j : Nat) : cut l (some (i : Int)) (some (j : Int)) = (l.drop i).take (j - i) := by
  unfold cut kms_lo kms_hi
  have h : ¬ ((i : Int) < 0) := by omega
  have h' : ¬ ((j : Int) < 0) := by omega
  simp only [if_neg h, if_neg h', Int.toNat_natCast]
  rcases Nat.le_total i l.length with h1 | h1
  · rw [Nat.min_eq_left h1]
    rcases Nat.le_total j l.length with h2 | h2
    · rw [Nat.min_eq_left h2]
    · rw [Nat.min_eq_right h2, List.take_of_length_le (by rw [List.length_drop]; exact Nat.le_refl _), List.take_of_length_le (by rw [List.length_drop]; omega)]
  · rw [Nat.min_eq_right h1, List.drop_of_length_le (Nat.le_refl _), List.drop_of_length_le h1]; simp

section
variable {X : Cx} {k : Nat} {sc : Scope} {σ : Sto}

/-- an end of a cut -/
def EvO (X : Cx) (k : Nat) (sc : Scope) (σ : Sto) (e : Option Expr) (i : Option Int) : Prop :=
  ∀ (A : Around) (env : Env) (g : Heap) (s : Shared) (E : Value → Shared → Prop), Room A k → EnvOk env sc → Sub X.h0 g → StoIn σ env g s →
    wpAny X.M A (evalPart e env) (Post g s fun _ v => IsPart v i) E s
theorem EvO.none : EvO X k sc σ Option.none Option.none := fun _ _ _ _ _ _ _ _ q => wpAny_pure (Post.here q.sub .none)
theorem EvO.some {e : Expr} {i : Int} (h : Ev X k sc σ e (.int i)) : EvO X k sc σ (Option.some e) (Option.some i) := by
  intro A env g s E rm o bs q
  rw [evalPart_some]
  exact wpAny_mono (h A env g s E rm o bs q) (fun v s' y => y.mono fun g' r => by cases r; exact .int _ _) fun _ _ y => y

theorem Ev.slice {value : Expr} {lower upper : Option Expr} {p pos : Pos} {ds : List Dat} {lo hi : Option Int} (hv : Ev X k sc σ value (.list ds)) (hl : EvO X k sc σ lower lo) (hu : EvO X k sc σ upper hi) (hz : ds.length ≤ sizeLine) :
    Ev X k sc σ (.Subscript value (.Slice lower upper Option.none p) pos) (.list (cut ds lo hi)) := by
  intro A env g s E rm o bs q
  refine Subscript_ (wp_ev (hv A env g s E rm o bs q) fun u g1 s1 k1 x1 p1 => wpAny_Slice (wp_ev (hl A env g1 s1 E rm o (bs.trans x1.gg) (q.step x1)) fun vl g2 s2 k2 x2 p2 =>
    wp_ev (hu A env g2 s2 E rm o ((bs.trans x1.gg).trans x2.gg) ((q.step x1).step x2)) fun vu g3 s3 k3 x3 p3 => ?_))
  rw [evalPart_none]
  refine wpAny_pure ?_
  cases p1 with
  | list il r =>
    rename_i a vs
    have il3 : s3.heap.IsList a vs.toArray := isList_sub (x1.gh.trans (x2.hh.trans x3.hh)) il
    have x4 := step_push (o := { cls := .type "slice", data := .fields #[vl, vu, .none] }) (x1.trans (x2.trans x3))
    refine tail_any (Heap.IsList.typeIs (il3.push _)) slot_list_getitem.lookup (wpAny_getItem_list_slice (il3.push _) (Heap.IsSliceOf.new ..) p2 p3 .none (by simp) ?_ (by simp; rw [r.length]; exact hz)) (by with_unfolding_all rfl)
    rw [kms_pick_eq, kms_cut]
    have r4 : RepAll (freeze g3 s3.heap (s3.heap.push { cls := .type "slice", data := .fields #[vl, vu, .none] })) (cut vs lo hi) (cut ds lo hi) := (r.cut lo hi).sub ((x2.gg.trans x3.gg).trans (freeze_old x3.gh (Sub.push .rfl _)))
    exact post_newList (s' := { s3 with heap := s3.heap.push { cls := .type "slice", data := .fields #[vl, vu, .none] } }) (kp_trans k1 (kp_trans k2 (kp_trans k3 (kp_mk (Sub.push .rfl _))))) x4 r4

/-- xs[::-1] -/
theorem Ev.rev {value : Expr} {p pos pn pm : Pos} {n : Nat} {ds : List Dat} (hv : Ev X k sc σ value (.list ds)) (hz : ds.length ≤ sizeLine) :
    Ev X k sc σ (.Subscript value (.Slice Option.none Option.none (Option.some (.UnaryOp .USub (.Constant (.int 1) n pn) pm)) p) pos) (.list ds.reverse) := by
  intro A env g s E rm o bs q
  refine Subscript_ (wp_ev (hv A env g s E rm o bs q) fun u g1 s1 k1 x1 p1 => wpAny_Slice ?_)
  rw [evalPart_none]
  refine wpAny_pure (wpAny_pure ?_)
  rw [evalPart_some]
  refine wp_ev ((Ev.neg (Ev.int (i := 1) (n := n) (pos := pn)) (pos := pm)) A env g1 s1 E rm o (bs.trans x1.gg) (q.step x1)) fun vs' g3 s3 k3 x3 p3 => ?_
  cases p3
  cases p1 with
  | list il r =>
    rename_i tk a vs
    have il3 : s3.heap.IsList a vs.toArray := isList_sub (x1.gh.trans x3.hh) il
    have x4 := step_push (o := { cls := .type "slice", data := .fields #[.none, .none, .int (-1) tk] }) (x1.trans x3)
    refine tail_any (Heap.IsList.typeIs (il3.push _)) slot_list_getitem.lookup (wpAny_getItem_list_slice (il3.push _) (Heap.IsSliceOf.new ..) .none .none (.int (-1) tk) (by simp) ?_ (by simp; rw [r.length]; exact hz)) (by with_unfolding_all rfl)
    rw [krv_pick]
    have r4 : RepAll (freeze g3 s3.heap (s3.heap.push { cls := .type "slice", data := .fields #[.none, .none, .int (-1) tk] })) vs.reverse ds.reverse := (r.reverse).sub (x3.gg.trans (freeze_old x3.gh (Sub.push .rfl _)))
    exact post_newList (s' := { s3 with heap := s3.heap.push { cls := .type "slice", data := .fields #[.none, .none, .int (-1) tk] } }) (kp_trans k1 (kp_trans k3 (kp_mk (Sub.push .rfl _)))) x4 r4

end
end Mine

namespace Mine
open PySem PySem.W PyProof.Rows PySem.Calls
set_option Elab.async false
set_option maxRecDepth 100000
set_option linter.unusedVariables false

def ownedNames : List String := ["enumerate", "zip", "dict_itemiterator", "dict_reverseitemiterator", "odict_iterator", "itertools.zip_longest", "itertools.pairwise"]
theorem letOwned_ok {prog : Program} {w : World} {A : Around} {E : Value → Shared → Prop} {s : Shared} {target : Expr} {I : Addr} {v : Value} {o : Obj} {n : String} {Q : Unit → Shared → Prop} (ho : s.heap.get? I = some o) (hc : o.cls = .type n) (hn : ownedNames.contains n = false) (h : Q () s) :
    wpAny (model prog w) A (letOwnedTupleGo target (.ref I) v) Q E s := by
  have key : ∀ a, v = .ref a → wpAny (model prog w) A (do
      let o ← load I
      match o.cls, o.data with
      | .type n, .fields vs =>
        if ["enumerate", "zip", "dict_itemiterator", "dict_reverseitemiterator", "odict_iterator", "itertools.zip_longest", "itertools.pairwise"].contains n && vs[0]? == some (rawInt a) then
          rule "for.unpacks-the-owned-tuple"
          updateField I 0 .none
      | _, _ => pure () : Sem Unit) Q E s := by
    intro a _
    refine wpAny_bind (wpAny_load ho ?_)
    rw [hc]
    cases hd : o.data with
    | fields vs =>
      show wpAny _ A (if (["enumerate", "zip", "dict_itemiterator", "dict_reverseitemiterator", "odict_iterator", "itertools.zip_longest", "itertools.pairwise"].contains n && vs[0]? == some (rawInt a)) = true then _ else _) Q E s
      have hn' : (["enumerate", "zip", "dict_itemiterator", "dict_reverseitemiterator", "odict_iterator", "itertools.zip_longest", "itertools.pairwise"] : List String).contains n = false := hn
      rw [hn', Bool.false_and, if_neg Bool.false_ne_true]
      exact wpAny_pure h
    | _ => exact wpAny_pure h
  unfold letOwnedTupleGo
  cases target <;> first
    | exact wpAny_pure h
    | (cases v <;> first
        | exact wpAny_pure h
        | exact key _ rfl)

/-- a value that a loop goes over, and what it hands out -/
structure Iter (X : Cx) (g : Heap) (s₂ : Shared) (old : Heap) (I : Addr) (ds : List Dat) (fp wr : List Addr) (P : Nat → Value → Prop) (St : Nat → Heap → Prop) : Prop where
  walks : ∀ A', A'.handled = none → Walks X.prog X.w A' I fp wr ds.length P St
  start : St 0 s₂.heap
  low : ∀ b ∈ fp, b < s₂.heap.objs.size
  fresh : ∀ b ∈ wr, old.get? b = none
  live : ∀ i h, St i h → ∀ b ∈ wr, (h.get? b).isSome
  foot : ∀ b ∈ fp, b ∈ wr ∨ (g.get? b).isSome
  item : ∀ i v, P i v → ∃ d, ds[i]? = some d ∧ Rep g v d
  own : ∀ i A E target v (s : Shared) (Q : Unit → Shared → Prop), St i s.heap → Q () s → wpAny X.M A (letOwnedTupleGo target (.ref I) v) Q E s
def IterOf (X : Cx) (k : Nat) (g : Heap) (s : Shared) (xv : Value) (ds : List Dat) : Prop :=
  ∀ (A : Around) (E : Value → Shared → Prop), Room A k → wpAny X.M A (pyIter xv) (fun it s₂ => Keeps s s₂ ∧ ∃ I fp wr P St, it = .ref I ∧ Iter X g s₂ s.heap I ds fp wr P St) E s
/-- an expression that is gone over -/
def Its (X : Cx) (k : Nat) (sc : Scope) (σ : Sto) (e : Expr) (ds : List Dat) : Prop :=
  EvP X k sc σ e (fun g v => ∀ s, Sub g s.heap → IterOf X k g s v ds) ∧ ∀ env x, foldedSetIterable e env x = pure x

theorem fresh_size {h : Heap} : h.get? h.objs.size = none := by
  cases z : h.get? h.objs.size with
  | none => rfl
  | some o' => exact absurd (Heap.lt_size z) (Nat.lt_irrefl _)

section
variable {X : Cx} {k : Nat} {sc : Scope} {σ : Sto}

theorem iterOf_list {g : Heap} {s : Shared} {a : Addr} {vs : List Value} {ds : List Dat} (kk : Sub g s.heap) (il : g.PlainList a vs.toArray) (r : RepAll g vs ds) : IterOf X k g s (.ref a) ds := by
  intro A E rm
  have il' := isList_sub kk il
  have hlt : a < s.heap.objs.size := let ⟨_, e, _⟩ := il'; Heap.lt_size e
  have hn : vs.toArray.size = ds.length := by rw [List.size_toArray, r.length]
  refine wpAny_pyIter_list il' ⟨kp_mk (Sub.push .rfl _), s.heap.objs.size, [s.heap.objs.size, a], [s.heap.objs.size], (fun i v => vs.toArray[i]? = some v), (fun i h => h.IsListIter s.heap.objs.size a i ∧ h.IsList a vs.toArray), rfl, ?_⟩
  exact {
    walks := fun A' hA => hn ▸ Walks.list hA s.heap.objs.size a (Nat.ne_of_lt hlt) vs.toArray
    start := ⟨⟨_, Heap.get?_push_size _ rfl, rfl, rfl⟩, il'.push _⟩
    low := fun b hb => by
      show b < (s.heap.push _).objs.size
      rw [Heap.size_push]
      rcases List.mem_cons.mp hb with rfl | hb
      · exact Nat.lt_succ_self _
      · rcases List.mem_cons.mp hb with rfl | hb
        · exact Nat.lt_succ_of_lt hlt
        · cases hb
    fresh := fun b hb => by rw [List.mem_singleton.mp hb]; exact fresh_size
    live := fun i h st b hb => by
      obtain ⟨⟨o, ho, _⟩, _⟩ := st
      rw [List.mem_singleton.mp hb, ho]; rfl
    foot := fun b hb => by
      rcases List.mem_cons.mp hb with rfl | hb
      · exact .inl (List.mem_singleton.mpr rfl)
      · rw [List.mem_singleton.mp hb]
        obtain ⟨n, ho⟩ := il
        exact .inr (by rw [ho]; rfl)
    item := fun i v hv => r.get' (by simpa using hv)
    own := fun i A' E' target v s' Q st q => by
      obtain ⟨⟨o, ho, hc, _⟩, _⟩ := st
      exact letOwned_ok ho hc (by decide) q }
theorem iterOf_tuple {g : Heap} {s : Shared} {a : Addr} {vs : List Value} {ds : List Dat} (kk : Sub g s.heap) (il : PlainTup g a vs.toArray) (r : RepAll g vs ds) : IterOf X k g s (.ref a) ds := by
  intro A E rm
  have il' := isTup_sub kk il
  have hlt : a < s.heap.objs.size := let ⟨_, e, _⟩ := il'; Heap.lt_size e
  have hn : vs.toArray.size = ds.length := by rw [List.size_toArray, r.length]
  refine wpAny_pyIter_tuple il' ⟨kp_mk (Sub.push .rfl _), s.heap.objs.size, [s.heap.objs.size, a], [s.heap.objs.size], (fun i v => vs.toArray[i]? = some v), (fun i h => h.IsTupleIter s.heap.objs.size a i ∧ h.IsTuple a vs.toArray), rfl, ?_⟩
  exact {
    walks := fun A' hA => hn ▸ Walks.tuple hA s.heap.objs.size a (Nat.ne_of_lt hlt) vs.toArray
    start := ⟨⟨_, Heap.get?_push_size _ rfl, rfl, rfl⟩, let ⟨o, ho, rr⟩ := il'; ⟨o, Heap.get?_push_of_some _ ho, rr⟩⟩
    low := fun b hb => by
      show b < (s.heap.push _).objs.size
      rw [Heap.size_push]
      rcases List.mem_cons.mp hb with rfl | hb
      · exact Nat.lt_succ_self _
      · rcases List.mem_cons.mp hb with rfl | hb
        · exact Nat.lt_succ_of_lt hlt
        · cases hb
    fresh := fun b hb => by rw [List.mem_singleton.mp hb]; exact fresh_size
    live := fun i h st b hb => by
      obtain ⟨⟨o, ho, _⟩, _⟩ := st
      rw [List.mem_singleton.mp hb, ho]; rfl
    foot := fun b hb => by
      rcases List.mem_cons.mp hb with rfl | hb
      · exact .inl (List.mem_singleton.mpr rfl)
      · rw [List.mem_singleton.mp hb]
        obtain ⟨n, ho⟩ := il
        exact .inr (by rw [ho]; rfl)
    item := fun i v hv => r.get' (by simpa using hv)
    own := fun i A' E' target v s' Q st q => by
      obtain ⟨⟨o, ho, hc, _⟩, _⟩ := st
      exact letOwned_ok ho hc (by decide) q }
theorem iterOf_dat {g : Heap} {s : Shared} {v : Value} {d : Dat} {ds : List Dat} (kk : Sub g s.heap) (r : Rep g v d) (hd : d = .list ds ∨ d = .tuple ds) : IterOf X k g s v ds := by
  rcases hd with rfl | rfl
  · cases r with | list il r => exact iterOf_list kk il r
  · cases r with | tuple il r => exact iterOf_tuple kk il r
theorem Its.list {e : Expr} {ds : List Dat} (h : Ev X k sc σ e (.list ds)) (hs : ∀ env x, foldedSetIterable e env x = pure x := by intro _ _; rfl) : Its X k sc σ e ds :=
  ⟨h.mono fun g v r s kk => iterOf_dat kk r (.inl rfl), hs⟩
theorem Its.tuple {e : Expr} {ds : List Dat} (h : Ev X k sc σ e (.tuple ds)) (hs : ∀ env x, foldedSetIterable e env x = pure x := by intro _ _; rfl) : Its X k sc σ e ds :=
  ⟨h.mono fun g v r s kk => iterOf_dat kk r (.inr rfl), hs⟩

/-- the ints of a range by ones, up or down -/
def rangeD (a : Int) (c : Int) (n : Nat) : List Dat := (List.range n).map fun (i : Nat) => Dat.int (a + (i : Int) * c)
theorem rangeD_length {a c : Int} {n : Nat} : (rangeD a c n).length = n := by simp [rangeD]
theorem rangeD_get {a c : Int} {n i : Nat} (h : i < n) : (rangeD a c n)[i]? = some (.int (a + (i : Int) * c)) := by simp [rangeD, h]
/-- a range object -/
def IsRg (g : Heap) (v : Value) (a b c : Int) : Prop := ∃ r t u w, v = .ref r ∧ IsRange g r a b c t u w
theorem iterOf_range {g : Heap} {s : Shared} {v : Value} {a b c : Int} {n : Nat} (kk : Sub g s.heap) (h : IsRg g v a b c) (hs : Builtin.Range.small a b c = true) (hn : Builtin.Range.rangeSize a b c = n) : IterOf X k g s v (rangeD a c n) := by
  intro A E rm
  obtain ⟨r, t, u, w, rfl, hr⟩ := h
  have hr' : IsRange s.heap r a b c t u w := kk _ _ hr
  refine wpAny_pyIter_range hr' hs ⟨kp_mk (Sub.push .rfl _), s.heap.objs.size, [s.heap.objs.size], [s.heap.objs.size], (fun i v => i < n ∧ ∃ t, v = .int (a + i * c) t), (fun i h => IsRangeIter h s.heap.objs.size (a + (i : Nat) * c) ((n : Int) - (i : Nat)) c), rfl, ?_⟩
  exact {
    walks := fun A' hA => by rw [rangeD_length]; exact (Walks.range hA s.heap.objs.size a c n).bound
    start := by
      show IsRangeIter _ _ _ _ _
      rw [hn]
      simpa using Heap.get?_push_size _ rfl
    low := fun b hb => by
      show b < (s.heap.push _).objs.size
      rw [Heap.size_push, List.mem_singleton.mp hb]
      exact Nat.lt_succ_self _
    fresh := fun b hb => by rw [List.mem_singleton.mp hb]; exact fresh_size
    live := fun i h st b hb => by
      have st' : h.get? s.heap.objs.size = _ := st
      rw [List.mem_singleton.mp hb, st']; rfl
    foot := fun b hb => .inl hb
    item := fun i v hv => by
      obtain ⟨hi, t, rfl⟩ := hv
      exact ⟨_, rangeD_get hi, .int _ _⟩
    own := fun i A' E' target v s' Q st q => letOwned_ok (n := "range_iterator") st rfl (by decide) q }

theorem op_range1 {n : Int} : OpN X k (fun vs => call (.type "range") vs) [.int n] fun g v => IsRg g v 0 n 1 := by
  intro g s vs b0 kk r A E rm
  cases r with
  | cons a r =>
    cases r; cases a
    refine call_range_1 ⟨kp_mk (Sub.push .rfl _), _, Step.of_sub kk (Sub.push .rfl _), ?_⟩
    exact ⟨_, _, _, _, rfl, freeze_new (IsRange.new ..) fresh_size⟩
theorem op_range2 {a b : Int} : OpN X k (fun vs => call (.type "range") vs) [.int a, .int b] fun g v => IsRg g v a b 1 := by
  intro g s vs b0 kk r A E rm
  cases r with
  | cons a r =>
    cases r with
    | cons b r =>
      cases r; cases a; cases b
      refine call_range_2 ⟨kp_mk (Sub.push .rfl _), _, Step.of_sub kk (Sub.push .rfl _), ?_⟩
      exact ⟨_, _, _, _, rfl, freeze_new (IsRange.new ..) fresh_size⟩
theorem Its.range1 {f : Str} {p pos : Pos} {e : Expr} {n : Int} (hf : EvP X k sc σ (.Name f p) fun _ u => u = .type "range") (h : Ev X k sc σ e (.int n)) (h0 : -(2 ^ 62) ≤ n) (hb : n < 2 ^ 62) (hp : plainE e = true := by rfl)
    (hs : ∀ env x, foldedSetIterable (.Call (.Name f p) [e] [] pos) env x = pure x := by intro _ _; rfl) : Its X k sc σ (.Call (.Name f p) [e] [] pos) (rangeD 0 1 n.toNat) := by
  refine ⟨(EvP.callT hf (.cons h .nil hp) op_range1).mono fun g v r s kk => iterOf_range kk r (PySem.small_one (by omega) (by omega) h0 hb) ?_, hs⟩
  rw [rangeSize_one]; split <;> omega
theorem Its.range2 {f : Str} {p pos : Pos} {e₁ e₂ : Expr} {a b : Int} (hf : EvP X k sc σ (.Name f p) fun _ u => u = .type "range") (h : Ev X k sc σ e₁ (.int a)) (h2 : Ev X k sc σ e₂ (.int b)) (ha : -(2 ^ 62) ≤ a) (ha' : a < 2 ^ 62) (hb : -(2 ^ 62) ≤ b) (hb' : b < 2 ^ 62)
    (hp : plainE e₁ = true := by rfl) (hp2 : plainE e₂ = true := by rfl)
    (hs : ∀ env x, foldedSetIterable (.Call (.Name f p) [e₁, e₂] [] pos) env x = pure x := by intro _ _; rfl) : Its X k sc σ (.Call (.Name f p) [e₁, e₂] [] pos) (rangeD a 1 (b - a).toNat) := by
  refine ⟨(EvP.callT hf (.cons h (.cons h2 .nil hp2) hp) op_range2).mono fun g v r s kk => iterOf_range kk r (PySem.small_one ha ha' hb hb') ?_, hs⟩
  rw [rangeSize_one]; split <;> omega
end
end Mine

namespace Mine
open PySem PySem.W PyProof.Rows PySem.Calls
set_option Elab.async false
set_option maxRecDepth 100000
set_option linter.unusedVariables false

def upd (x : Str) (lv : LV) : Sto → Sto
  | [] => [(x, lv)]
  | (y, l) :: r => if x == y then (y, lv) :: r else (y, l) :: upd x lv r
theorem lookup_upd (x : Str) (lv : LV) (z : Str) : ∀ τ : Sto, (upd x lv τ).lookup z = if z = x then some lv else τ.lookup z
  | [] => by
    unfold upd
    rw [List.lookup_cons]
    by_cases h : z = x
    · subst h; simp
    · have : (z == x) = false := by simpa using h
      rw [this, if_neg h]
  | (y, l) :: r => by
    unfold upd
    by_cases hxy : x = y
    · subst hxy
      simp only [beq_self_eq_true, if_true, List.lookup_cons]
      by_cases h : z = x
      · subst h; simp
      · have : (z == x) = false := by simpa using h
        rw [this, if_neg h]
    · have e : (x == y) = false := by simpa using hxy
      rw [e]
      simp only [Bool.false_eq_true, if_false, List.lookup_cons]
      by_cases h : z = y
      · subst h
        have : ¬ z = x := fun q => hxy q.symm
        simp [this]
      · have : (z == y) = false := by simpa using h
        rw [this, lookup_upd x lv z r]

/-- a part of a heap -/
def keepOnly (p : Addr → Bool) (h : Heap) : Heap := ⟨(Array.ofFn (n := h.objs.size) fun i => if p i.1 then h.objs[i] else ⟨.none, none, .freed, #[]⟩), h.life⟩
theorem keepOnly_get (p : Addr → Bool) (h : Heap) (b : Addr) : (keepOnly p h).get? b = if p b then h.get? b else none := by
  have sz : (keepOnly p h).objs.size = h.objs.size := by simp [keepOnly]
  by_cases hb : b < h.objs.size
  · have e : (keepOnly p h).objs[b]? = some (if p b then h.objs[b] else ⟨.none, none, .freed, #[]⟩) := by
      simp [keepOnly, hb]
    have e2 : h.objs[b]? = some h.objs[b] := by simp [hb]
    by_cases c : p b = true
    · rw [if_pos c] at e ⊢
      conv => lhs; unfold Heap.get?
      conv => rhs; unfold Heap.get?
      rw [e, e2]
    · rw [if_neg c] at e ⊢
      conv => lhs; unfold Heap.get?
      rw [e]
  · have hb2 : h.objs.size ≤ b := Nat.le_of_not_lt hb
    have e : (keepOnly p h).objs[b]? = none := Array.getElem?_eq_none (sz ▸ hb2)
    have e2 : h.objs[b]? = none := Array.getElem?_eq_none hb2
    have e3 : h.get? b = none := by unfold Heap.get?; rw [e2]
    rw [e3]
    conv => lhs; unfold Heap.get?
    rw [e]
    simp
/-- g and one more object of h -/
def withObj (g h : Heap) (a : Addr) : Heap := keepOnly (fun b => (g.get? b).isSome || b == a) h
theorem withObj_sub {g h : Heap} {a : Addr} (k : Sub g h) : Sub g (withObj g h a) := fun b o e => by
  unfold withObj; rw [keepOnly_get]; simp only [e, Option.isSome_some, Bool.true_or, if_true]; exact k b o e
theorem withObj_in {g h : Heap} {a : Addr} : Sub (withObj g h a) h := fun b o e => by
  unfold withObj at e; rw [keepOnly_get] at e
  split at e
  · exact e
  · cases e
theorem withObj_self {g h : Heap} {a : Addr} {o : Obj} (e : h.get? a = some o) : (withObj g h a).get? a = some o := by
  unfold withObj; rw [keepOnly_get]; simpa using e
theorem withObj_other {g h : Heap} {a b : Addr} (hg : g.get? b = none) (hb : b ≠ a) : (withObj g h a).get? b = none := by
  unfold withObj; rw [keepOnly_get, hg]
  have : (b == a) = false := by simpa using hb
  simp [this]

def Holds (env : Env) (m cm : Str → Option Value) (x : Str) (v : Value) : Prop :=
  (env.kindOf x = some .local ∧ m x = some v) ∨ (env.kindOf x = some .cell ∧ (env.cells.lookup x).isSome = true ∧ cm x = some v)
def LvIn (s₀ : Shared) (env : Env) (H : List (Addr × Obj)) (g : Heap) (s : Shared) (v : Value) : LV → Prop
  | .dat d => Rep g v d
  | .val u => v = u
  | .obj P _ => ∃ a o, v = .ref a ∧ s.heap.get? a = some o ∧ P a o g ∧ g.get? a = none ∧ s₀.heap.get? a = none ∧ a ≠ env.locals ∧ (∀ n c, env.cells.lookup n = some c → c ≠ a) ∧ ∀ p ∈ H, p.1 ≠ a

/-- the state of a call of a def: what its names hold; g stands still, H is what a loop around holds -/
structure FS (s₀ : Shared) (g₀ : Heap) (env : Env) (H : List (Addr × Obj)) (τ : Sto) (g : Heap) (m cm : Str → Option Value) (s : Shared) : Prop where
  call : InCallC s₀ env.locals m env.cells cm s
  st : Step g₀ s₀.heap g s.heap
  gL : g.get? env.locals = none
  gC : ∀ n c, env.cells.lookup n = some c → g.get? c = none
  hold : ∀ p ∈ H, s.heap.get? p.1 = some p.2 ∧ p.1 ≠ env.locals ∧ (∀ n c, env.cells.lookup n = some c → c ≠ p.1) ∧ g.get? p.1 = none ∧ s₀.heap.get? p.1 = none
  var : ∀ x lv, τ.lookup x = some lv → ∃ v, Holds env m cm x v ∧ LvIn s₀ env H g s v lv
  sep : ∀ x y a P mp Q mq, x ≠ y → τ.lookup x = some (.obj P mp) → τ.lookup y = some (.obj Q mq) → Holds env m cm x (.ref a) → ¬ Holds env m cm y (.ref a)

section
variable {s₀ s s' : Shared} {g₀ g g' : Heap} {env : Env} {H : List (Addr × Obj)} {τ : Sto} {m cm : Str → Option Value}

theorem Holds.fun {x : Str} {v u : Value} (h1 : Holds env m cm x v) (h2 : Holds env m cm x u) : v = u := by
  rcases h1 with ⟨a, b⟩ | ⟨a, _, b⟩ <;> rcases h2 with ⟨c, d⟩ | ⟨c, _, d⟩
  · rw [b] at d; exact Option.some.inj d
  · rw [a] at c; cases c
  · rw [a] at c; cases c
  · rw [b] at d; exact Option.some.inj d
theorem FS.sto (F : FS s₀ g₀ env H τ g m cm s) : StoIn τ env g s where
  sub := F.st.gh
  var := fun x d e => by
    obtain ⟨v, hv, lv⟩ := F.var x _ e
    refine ⟨v, ?_, lv⟩
    rcases hv with ⟨a, b⟩ | ⟨a, b, c⟩
    · exact .inl ⟨a, m, F.call.toInCall.ns, b⟩
    · obtain ⟨ad, hc⟩ := Option.isSome_iff_exists.mp b
      exact .inr ⟨.inl a, ad, hc, c ▸ F.call.cell x ad hc⟩
  val := fun x u e => by
    obtain ⟨v, hv, lv⟩ := F.var x _ e
    have lv' : v = u := lv
    subst lv'
    rcases hv with ⟨a, b⟩ | ⟨a, b, c⟩
    · exact .inl ⟨a, m, F.call.toInCall.ns, b⟩
    · obtain ⟨ad, hc⟩ := Option.isSome_iff_exists.mp b
      exact .inr ⟨.inl a, ad, hc, c ▸ F.call.cell x ad hc⟩
  obj := fun x P mp e => by
    obtain ⟨v, hv, lv⟩ := F.var x _ e
    obtain ⟨ad, o, rfl, h1, h2, _⟩ := lv
    refine ⟨ad, o, ?_, h1, h2⟩
    rcases hv with ⟨a, b⟩ | ⟨a, b, c⟩
    · exact .inl ⟨a, m, F.call.toInCall.ns, b⟩
    · obtain ⟨ca, hc⟩ := Option.isSome_iff_exists.mp b
      exact .inr ⟨.inl a, ca, hc, c ▸ F.call.cell x ca hc⟩
theorem LvIn.step {v : Value} {lv : LV} (x : Step g s.heap g' s'.heap) (h : LvIn s₀ env H g s v lv) : LvIn s₀ env H g' s' v lv := by
  cases lv with
  | dat d => exact Rep.sub x.gg h
  | val u => exact h
  | obj P mp =>
    obtain ⟨a, o, rfl, h1, h2, h3, h4, h5⟩ := h
    exact ⟨a, o, rfl, x.hh _ _ h1, mp _ _ _ _ x.gg h2, x.out h3 (by rw [h1]; rfl), h4, h5⟩
theorem FS.ev (F : FS s₀ g₀ env H τ g m cm s) (kk : Keeps s s') (x : Step g s.heap g' s'.heap) : FS s₀ g₀ env H τ g' m cm s' where
  call := by
    obtain ⟨h', tk, rfl, kp⟩ := kk
    exact F.call.kept kp
  st := F.st.trans x
  gL := x.out F.gL (by obtain ⟨o, _, _, ho, _⟩ := F.call.toInCall.ns; rw [ho]; rfl)
  gC := fun n c hc => x.out (F.gC n c hc) (by obtain ⟨o, ho, _⟩ := F.call.cell n c hc; rw [ho]; rfl)
  hold := fun p hp => by
    obtain ⟨h1, h2, h3, h4, h5⟩ := F.hold p hp
    exact ⟨x.hh _ _ h1, h2, h3, x.out h4 (by rw [h1]; rfl), h5⟩
  var := fun y lv e => let ⟨v, a, b⟩ := F.var y lv e; ⟨v, a, b.step x⟩
  sep := F.sep
theorem FS.tok (F : FS s₀ g₀ env H τ g m cm s) {t : Tok} : FS s₀ g₀ env H τ g m cm { s with toks := t } := F.ev kp_tok (.rfl F.st.gh)
theorem FS.done (F : FS s₀ g₀ env H τ g m cm s) : Keeps s₀ s := by
  obtain ⟨h, tk, e, kp⟩ := F.call.done
  exact ⟨h, tk, e, kp⟩

/-- what a new thing must be to be bound to a name -/
def NewLv (env : Env) (τ : Sto) (m cm : Str → Option Value) (x : Str) (v : Value) : LV → Prop
  | .dat _ => True
  | .val _ => True
  | .obj _ _ => ∀ y P mp, y ≠ x → τ.lookup y = some (.obj P mp) → ¬ Holds env m cm y v

theorem FS.bind (F : FS s₀ g₀ env H τ g m cm s) {x : Str} {v : Value} {lv : LV} {m' cm' : Str → Option Value} (call : InCallC s₀ env.locals m' env.cells cm' s')
    (hk : ∀ b o, b ≠ env.locals → (∀ n c, env.cells.lookup n = some c → b ≠ c) → s.heap.get? b = some o → s'.heap.get? b = some o)
    (hx : Holds env m' cm' x v) (hy : ∀ y u, y ≠ x → (Holds env m' cm' y u ↔ Holds env m cm y u)) (hl : LvIn s₀ env H g s v lv) (hn : NewLv env τ m cm x v lv) :
    FS s₀ g₀ env H (upd x lv τ) g m' cm' s' := by
  have gh : Sub g s'.heap := fun b o e => hk b o (fun q => by rw [q, F.gL] at e; cases e) (fun n c hc q => by rw [q, F.gC n c hc] at e; cases e) (F.st.gh b o e)
  have up : ∀ v lv, LvIn s₀ env H g s v lv → LvIn s₀ env H g s' v lv := by
    intro v lv h
    cases lv with
    | dat d => exact h
    | val u => exact h
    | obj P mp =>
      obtain ⟨a, o, rfl, h1, h2, h3, h4, h5, h6, h7⟩ := h
      exact ⟨a, o, rfl, hk a o h5 (fun n c hc q => h6 n c hc q.symm) h1, h2, h3, h4, h5, h6, h7⟩
  refine ⟨call, ⟨F.st.gg, call.toInCall.keep, gh, F.st.new⟩, F.gL, F.gC, fun p hp => ?_, fun y l e => ?_, fun y z a P mp Q mq hyz e1 e2 h1 h2 => ?_⟩
  · obtain ⟨h1, h2, h3, h4, h5⟩ := F.hold p hp
    exact ⟨hk _ _ h2 (fun n c hc q => h3 n c hc q.symm) h1, h2, h3, h4, h5⟩
  · rw [lookup_upd] at e
    by_cases q : y = x
    · rw [if_pos q] at e
      cases e
      subst q
      exact ⟨v, hx, up _ _ hl⟩
    · rw [if_neg q] at e
      obtain ⟨u, h1, h2⟩ := F.var y l e
      exact ⟨u, (hy y u q).mpr h1, up _ _ h2⟩
  · rw [lookup_upd] at e1 e2
    by_cases q : y = x
    · subst q
      rw [if_pos rfl] at e1
      cases e1
      have hz : ¬ z = y := fun t => hyz t.symm
      rw [if_neg hz] at e2
      have := hx.fun h1
      subst this
      exact hn z Q mq hz e2 ((hy z _ hz).mp h2)
    · rw [if_neg q] at e1
      by_cases q2 : z = x
      · subst q2
        rw [if_pos rfl] at e2
        cases e2
        have := hx.fun h2
        subst this
        exact hn y P mp q e1 ((hy y _ q).mp h1)
      · rw [if_neg q2] at e2
        exact F.sep y z a P mp Q mq hyz e1 e2 ((hy y _ q).mp h1) ((hy z _ q2).mp h2)
end

section
variable {X : Cx} {k : Nat} {sc : Scope} {τ : Sto} {s₀ s : Shared} {g₀ g : Heap} {env : Env} {H : List (Addr × Obj)} {m cm : Str → Option Value}

/-- a name is a place to store at -/
def canStore (sc : Scope) (x : Str) : Bool := sc.names.lookup x == some .local || sc.names.lookup x == some .cell

theorem wp_store {A : Around} {E : Value → Shared → Prop} {x : Str} {v : Value} {lv : LV} {Q : Unit → Shared → Prop} (F : FS s₀ g₀ env H τ g m cm s) (o : EnvOk env sc) (hx : canStore sc x = true) (hc : sc.names.lookup x = some .cell → (env.cells.lookup x).isSome = true)
    (hl : LvIn s₀ env H g s v lv) (hn : NewLv env τ m cm x v lv) (h : ∀ m' cm' s', FS s₀ g₀ env H (upd x lv τ) g m' cm' s' → Q () s') : wpAny X.M A (storeName env x v) Q E s := by
  unfold canStore at hx
  rw [Bool.or_eq_true] at hx
  rcases hx with hx | hx
  · have hk := o.kindOf (beq_iff_eq.mp hx)
    refine wpAny_storeName_local hk F.call.toInCall.ns (fun h' hns hs => h _ cm _ (F.bind (x := x) (v := v) ⟨⟨?_, hns, fun b ob e => ?_, F.call.toInCall.fresh⟩, fun n c hc => ?_, F.call.apart, F.call.above⟩ (fun b ob hb _ e => hs.extBut b ob hb e) ?_ (fun y u hy => ?_) hl hn)) o.plain
    · obtain ⟨h₁, tk, e⟩ := F.call.toInCall.same
      subst e
      exact ⟨h', _, rfl⟩
    · exact hs.extBut b ob (Nat.ne_of_lt (Nat.lt_of_lt_of_le (Heap.lt_size e) F.call.toInCall.fresh)) (F.call.toInCall.keep b ob e)
    · exact (F.call.cell n c hc).sameBut hs (Nat.ne_of_gt (F.call.above n c (mem_of_lookup hc)))
    · exact .inl ⟨hk, if_pos rfl⟩
    · unfold Holds
      simp only [if_neg hy]
  · have hk := o.kindOf (beq_iff_eq.mp hx)
    obtain ⟨c, hcl⟩ := Option.isSome_iff_exists.mp (hc (beq_iff_eq.mp hx))
    have hLc := F.call.above x c (mem_of_lookup hcl)
    refine wpAny_storeName_cell o.ek hk hcl (F.call.cell x c hcl) fun h' hce hs => h m (fun y => if y = x then some v else cm y) _ (F.bind (x := x) (v := v) ⟨⟨?_, F.call.toInCall.ns.sameBut hs (Nat.ne_of_lt hLc), fun b ob e => ?_, F.call.toInCall.fresh⟩, fun n c' hk' => ?_, F.call.apart, F.call.above⟩
      (fun b ob _ hb e => hs.extBut b ob (hb x c hcl) e) ?_ (fun y u hy => ?_) hl hn)
    · obtain ⟨h₁, tk, e⟩ := F.call.toInCall.same
      subst e
      exact ⟨h', _, rfl⟩
    · exact hs.extBut b ob (Nat.ne_of_lt (Nat.lt_trans (Nat.lt_of_lt_of_le (Heap.lt_size e) F.call.toInCall.fresh) hLc)) (F.call.toInCall.keep b ob e)
    · by_cases hkn : n = x
      · subst hkn
        rw [hcl] at hk'; cases hk'
        simpa using hce
      · rw [if_neg hkn]
        exact (F.call.cell n c' hk').sameBut hs fun e => hkn (name_of_addr F.call.apart (mem_of_lookup hk') (e ▸ mem_of_lookup hcl))
    · exact .inr ⟨hk, hc (beq_iff_eq.mp hx), if_pos rfl⟩
    · unfold Holds
      simp only [if_neg hy]

/-- how a piece of a def's body may end -/
inductive Out where
  | next (τ : Sto)
  | brk (τ : Sto)
  | cont (τ : Sto)
  | ret (d : Dat)
def OutIs (s₀ : Shared) (g₀ : Heap) (env : Env) (H : List (Addr × Obj)) (R : Out → Prop) (f : Flow) (s' : Shared) : Prop :=
  match f with
  | .next => ∃ τ g m cm, R (.next τ) ∧ FS s₀ g₀ env H τ g m cm s'
  | .brk => ∃ τ g m cm, R (.brk τ) ∧ FS s₀ g₀ env H τ g m cm s'
  | .cont => ∃ τ g m cm, R (.cont τ) ∧ FS s₀ g₀ env H τ g m cm s'
  | .ret v => ∃ d g, R (.ret d) ∧ Keeps s₀ s' ∧ Step g₀ s₀.heap g s'.heap ∧ Rep g v d
abbrev DefEnv (env : Env) (sc : Scope) : Prop := EnvOk env sc
def Ex (X : Cx) (k : Nat) (sc : Scope) (τ : Sto) (t : Env → Sem Flow) (R : Out → Prop) : Prop :=
  ∀ (A : Around) (env : Env) (s₀ : Shared) (g₀ : Heap) (H : List (Addr × Obj)) (g : Heap) (m cm : Str → Option Value) (s : Shared) (E : Value → Shared → Prop),
    Room A k → DefEnv env sc → Sub X.h0 g₀ → FS s₀ g₀ env H τ g m cm s → wpAny X.M A (t env) (OutIs s₀ g₀ env H R) E s

theorem OutIs.mono {R R' : Out → Prop} {f : Flow} {s' : Shared} (h : OutIs s₀ g₀ env H R f s') (hr : ∀ o, R o → R' o) : OutIs s₀ g₀ env H R' f s' := by
  cases f with
  | next => obtain ⟨τ, g, m, cm, r, F⟩ := h; exact ⟨τ, g, m, cm, hr _ r, F⟩
  | brk => obtain ⟨τ, g, m, cm, r, F⟩ := h; exact ⟨τ, g, m, cm, hr _ r, F⟩
  | cont => obtain ⟨τ, g, m, cm, r, F⟩ := h; exact ⟨τ, g, m, cm, hr _ r, F⟩
  | ret v => obtain ⟨d, g, r, F⟩ := h; exact ⟨d, g, hr _ r, F⟩
theorem Ex.mono {t : Env → Sem Flow} {R R' : Out → Prop} (h : Ex X k sc τ t R) (hr : ∀ o, R o → R' o) : Ex X k sc τ t R' :=
  fun A env s₀ g₀ H g m cm s E r o b F => wpAny_mono (h A env s₀ g₀ H g m cm s E r o b F) (fun _ _ x => x.mono hr) fun _ _ y => y

theorem Ex.nil {R : Out → Prop} (h : R (.next τ)) : Ex X k sc τ (execs []) R := fun A env s₀ g₀ H g m cm s E r o b F => wpAny_execs_nil ⟨τ, g, m, cm, h, F⟩
/-- a statement, then the rest -/
def Then (X : Cx) (k : Nat) (sc : Scope) (rest : List Stmt) (R : Out → Prop) : Out → Prop
  | .next τ => Ex X k sc τ (execs rest) R
  | o => R o
theorem Ex.cons {st : Stmt} {rest : List Stmt} {R : Out → Prop} (h : Ex X k sc τ (exec st) (Then X k sc rest R)) : Ex X k sc τ (execs (st :: rest)) R := by
  intro A env s₀ g₀ H g m cm s E r o b F
  refine wpAny_execs_cons (wpAny_mono (h A env s₀ g₀ H g m cm s E r o b F) (fun f s' x => ?_) fun _ _ y => y)
  cases f with
  | next => obtain ⟨τ', g', m', cm', rr, F'⟩ := x; exact rr A env s₀ g₀ H g' m' cm' s' E r o b F'
  | brk => exact x
  | cont => exact x
  | ret v => exact x
theorem Ex.last {st : Stmt} {R : Out → Prop} (h : Ex X k sc τ (exec st) R) : Ex X k sc τ (execs [st]) R :=
  Ex.cons (h.mono fun o r => by cases o with
    | next τ' => exact Ex.nil r
    | _ => exact r)

theorem Ex.return {e : Expr} {pos : Pos} {d : Dat} {R : Out → Prop} (h : Ev X k sc τ e d) (hr : R (.ret d)) : Ex X k sc τ (exec (.Return (some e) pos)) R := by
  intro A env s₀ g₀ H g m cm s E r o b F
  refine wpAny_Return_some (wp_ev (h A env g s E r o.toEnvOk (b.trans F.st.gg) F.sto) fun v g' s' k1 x1 p1 => ?_)
  exact ⟨d, g', hr, kp_trans F.done k1, F.st.trans x1, p1⟩
theorem Ex.if {test : Expr} {body orelse : List Stmt} {pos : Pos} {c : Bool} {R : Out → Prop} (h : EvT X k sc τ test c) (h1 : c = true → Ex X k sc τ (execs body) R) (h2 : c = false → Ex X k sc τ (execs orelse) R) : Ex X k sc τ (exec (.If test body orelse pos)) R := by
  intro A env s₀ g₀ H g m cm s E r o b F
  refine wpAny_If (wp_seq (h A env g s E r o.toEnvOk (b.trans F.st.gg) F.sto) fun c' s' ⟨e, k1, g', x1⟩ => ?_)
  subst e
  cases c' with
  | true => simp only [if_true]; exact h1 rfl A env s₀ g₀ H g' m cm s' E r o b (F.ev k1 x1)
  | false => simp only [Bool.false_eq_true, if_false]; exact h2 rfl A env s₀ g₀ H g' m cm s' E r o b (F.ev k1 x1)
/-- x = e -/
theorem Ex.assign {x : Str} {px pos : Pos} {e : Expr} {d : Dat} {R : Out → Prop} (h : Ev X k sc τ e d) (hr : R (.next (upd x (.dat d) τ))) (hx : canStore sc x = true := by rfl)
    (hs : ∀ env, swapsWith e (some (.Name x px)) pos.line env = pure false := by intro _; rfl) : Ex X k sc τ (exec (.Assign [.Name x px] e pos)) R := by
  intro A env s₀ g₀ H g m cm s E r o b F
  refine wpAny_Assign_Name (wp_ev (h A env g s E r o.toEnvOk (b.trans F.st.gg) F.sto) fun v g' s' k1 x1 p1 => ?_) (hs env)
  exact wp_store (lv := .dat d) (F.ev k1 x1) o.toEnvOk hx (o.cells x) p1 trivial fun m' cm' s'' F' => ⟨_, g', m', cm', hr, F'⟩
/-- x = e, e no datum -/
theorem Ex.assignV {x : Str} {px pos : Pos} {e : Expr} {u : Value} {R : Out → Prop} (h : EvP X k sc τ e fun _ v => v = u) (hr : R (.next (upd x (.val u) τ))) (hx : canStore sc x = true := by rfl)
    (hs : ∀ env, swapsWith e (some (.Name x px)) pos.line env = pure false := by intro _; rfl) : Ex X k sc τ (exec (.Assign [.Name x px] e pos)) R := by
  intro A env s₀ g₀ H g m cm s E r o b F
  refine wpAny_Assign_Name (wp_ev (h A env g s E r o.toEnvOk (b.trans F.st.gg) F.sto) fun v g' s' k1 x1 p1 => ?_) (hs env)
  exact wp_store (lv := .val u) (F.ev k1 x1) o.toEnvOk hx (o.cells x) p1 trivial fun m' cm' s'' F' => ⟨_, g', m', cm', hr, F'⟩
end
end Mine

namespace Mine
open PySem PySem.W PyProof.Rows PySem.Calls
set_option Elab.async false
set_option maxRecDepth 100000
set_option linter.unusedVariables false

/-- what stands at some addresses -/
def objsAt (wr : List Addr) (h : Heap) : List (Addr × Obj) := wr.filterMap fun b => (h.get? b).map fun o => (b, o)
theorem mem_objsAt {wr : List Addr} {h : Heap} {p : Addr × Obj} : p ∈ objsAt wr h ↔ p.1 ∈ wr ∧ h.get? p.1 = some p.2 := by
  obtain ⟨a, o⟩ := p
  unfold objsAt
  rw [List.mem_filterMap]
  constructor
  · rintro ⟨b, hb, e⟩
    cases z : h.get? b with
    | none => rw [z] at e; cases e
    | some q => rw [z] at e; cases e; exact ⟨hb, z⟩
  · rintro ⟨h1, h2⟩
    exact ⟨a, h1, by rw [show h.get? a = some o from h2]; rfl⟩

section
variable {s₀ s : Shared} {g₀ g : Heap} {env : Env} {H : List (Addr × Obj)} {τ : Sto} {m cm : Str → Option Value}

theorem LvIn.hold {H' : List (Addr × Obj)} {v : Value} {lv : LV} (h : LvIn s₀ env H g s v lv) (hh : ∀ a, (s.heap.get? a).isSome → g.get? a = none → a ≠ env.locals → (∀ n c, env.cells.lookup n = some c → c ≠ a) → (∀ p ∈ H, p.1 ≠ a) → ∀ p ∈ H', p.1 ≠ a) : LvIn s₀ env H' g s v lv := by
  cases lv with
  | dat d => exact h
  | val u => exact h
  | obj P mp =>
    obtain ⟨a, o, rfl, h1, h2, h3, h4, h5, h6, h7⟩ := h
    exact ⟨a, o, rfl, h1, h2, h3, h4, h5, h6, hh a (by rw [h1]; rfl) h3 h5 h6 h7⟩
/-- fewer things are held -/
theorem FS.less (F : FS s₀ g₀ env H τ g m cm s) {H' : List (Addr × Obj)} (h : ∀ p ∈ H', p ∈ H) : FS s₀ g₀ env H' τ g m cm s :=
  ⟨F.call, F.st, F.gL, F.gC, fun p hp => F.hold p (h p hp), fun x lv e => let ⟨v, a, b⟩ := F.var x lv e; ⟨v, a, b.hold fun a _ _ _ _ q p hp => q p (h p hp)⟩, F.sep⟩
/-- new things are held -/
theorem FS.more (F : FS s₀ g₀ env H τ g m cm s) {old g' : Heap} {wr : List Addr} (F0 : FS s₀ g₀ env H τ g' m cm { s with heap := old }) (hw : ∀ b ∈ wr, old.get? b = none) (hg : ∀ b ∈ wr, g.get? b = none) : FS s₀ g₀ env (objsAt wr s.heap ++ H) τ g m cm s := by
  have none_of : ∀ {k : Heap} {b}, Sub k old → b ∈ wr → k.get? b = none := by
    intro k b hs hb
    cases z : k.get? b with
    | none => rfl
    | some o => have := hs _ _ z; rw [hw b hb] at this; cases this
  refine ⟨F.call, F.st, F.gL, F.gC, fun p hp => ?_, fun x lv e => ?_, F.sep⟩
  · rcases List.mem_append.mp hp with hp | hp
    · obtain ⟨h1, h2⟩ := mem_objsAt.mp hp
      refine ⟨h2, fun q => ?_, fun n c hc q => ?_, hg _ h1, none_of F0.st.hh h1⟩
      · obtain ⟨o, _, _, ho, _⟩ := F0.call.toInCall.ns
        have := hw _ h1
        rw [q] at this
        have ho' : old.get? env.locals = some o := ho
        rw [ho'] at this; cases this
      · obtain ⟨o, ho, _⟩ := F0.call.cell n c hc
        have := hw _ h1
        rw [← q] at this
        have ho' : old.get? c = some o := ho
        rw [ho'] at this; cases this
    · exact F.hold p hp
  · obtain ⟨v, a, b⟩ := F.var x lv e
    obtain ⟨v0, a0, b0⟩ := F0.var x lv e
    have hv := a.fun a0
    subst hv
    refine ⟨v, a, ?_⟩
    cases lv with
    | dat d => exact b
    | val u => exact b
    | obj P mp =>
      obtain ⟨ad, o, rfl, h1, h2, h3, h4, h5, h6, h7⟩ := b
      obtain ⟨ad', o', e', k1, _⟩ := b0
      cases e'
      refine ⟨ad, o, rfl, h1, h2, h3, h4, h5, h6, fun p hp => ?_⟩
      rcases List.mem_append.mp hp with hp | hp
      · obtain ⟨q1, q2⟩ := mem_objsAt.mp hp
        intro q
        have := hw _ q1
        rw [q] at this
        have k1' : old.get? ad = some o' := k1
        rw [k1'] at this; cases this
      · exact h7 p hp
/-- the held things have been turned -/
theorem FS.wrote {wr : List Addr} (F : FS s₀ g₀ env (objsAt wr s.heap ++ H) τ g m cm s) {h' : Heap} {tk : Tok} (hd : ∀ p ∈ H, p.1 ∉ wr) (hl : ∀ b ∈ wr, (s.heap.get? b).isSome) (hk : ∀ b o, b ∉ wr → s.heap.get? b = some o → h'.get? b = some o) :
    FS s₀ g₀ env (objsAt wr h' ++ H) τ g m cm { s with heap := h', toks := tk } := by
  have at_ : ∀ b ∈ wr, b ≠ env.locals ∧ (∀ n c, env.cells.lookup n = some c → c ≠ b) ∧ g.get? b = none ∧ s₀.heap.get? b = none := by
    intro b hb
    obtain ⟨o, ho⟩ := Option.isSome_iff_exists.mp (hl b hb)
    obtain ⟨_, h2, h3, h4, h5⟩ := F.hold (b, o) (List.mem_append_left _ (mem_objsAt.mpr ⟨hb, ho⟩))
    exact ⟨h2, h3, h4, h5⟩
  have ns := F.call.toInCall.ns
  have keep0 : Sub s₀.heap h' := fun b o e => hk b o (fun q => by have := (at_ b q).2.2.2; rw [this] at e; cases e) (F.call.toInCall.keep b o e)
  have keepg : Sub g h' := fun b o e => hk b o (fun q => by have := (at_ b q).2.2.1; rw [this] at e; cases e) (F.st.gh b o e)
  refine ⟨⟨⟨?_, ?_, keep0, F.call.toInCall.fresh⟩, fun n c hc => ?_, F.call.apart, F.call.above⟩, ⟨F.st.gg, keep0, keepg, F.st.new⟩, F.gL, F.gC, fun p hp => ?_, fun x lv e => ?_, F.sep⟩
  · obtain ⟨h₁, t, e⟩ := F.call.toInCall.same
    subst e
    exact ⟨h', tk, rfl⟩
  · obtain ⟨o, es, ep, ho, r⟩ := ns
    exact ⟨o, es, ep, hk _ _ (fun q => (at_ _ q).1 rfl) ho, r⟩
  · obtain ⟨o, ho, hd⟩ := F.call.cell n c hc
    exact ⟨o, hk _ _ (fun q => (at_ _ q).2.1 n c hc rfl) ho, hd⟩
  · rcases List.mem_append.mp hp with hp | hp
    · obtain ⟨h1, h2⟩ := mem_objsAt.mp hp
      obtain ⟨a1, a2, a3, a4⟩ := at_ _ h1
      exact ⟨h2, a1, a2, a3, a4⟩
    · obtain ⟨h1, h2, h3, h4, h5⟩ := F.hold p (List.mem_append_right _ hp)
      exact ⟨hk _ _ (hd p hp) h1, h2, h3, h4, h5⟩
  · obtain ⟨v, a, b⟩ := F.var x lv e
    refine ⟨v, a, ?_⟩
    cases lv with
    | dat d => exact b
    | val u => exact b
    | obj P mp =>
      obtain ⟨ad, o, rfl, h1, h2, h3, h4, h5, h6, h7⟩ := b
      have hadw : ad ∉ wr := fun q => by
        obtain ⟨o', ho'⟩ := Option.isSome_iff_exists.mp (hl ad q)
        exact h7 (ad, o') (List.mem_append_left _ (mem_objsAt.mpr ⟨q, ho'⟩)) rfl
      refine ⟨ad, o, rfl, hk _ _ hadw h1, h2, h3, h4, h5, h6, fun p hp => ?_⟩
      rcases List.mem_append.mp hp with hp | hp
      · exact fun q => hadw (q ▸ (mem_objsAt.mp hp).1)
      · exact h7 p (List.mem_append_right _ hp)
end

section
variable {X : Cx} {k : Nat} {sc : Scope} {τ : Sto} {s₀ s : Shared} {g₀ g : Heap} {env : Env} {H : List (Addr × Obj)} {m cm : Str → Option Value}

theorem FS.base (F : FS s₀ g₀ env H τ g m cm s) : FS s₀ g env H τ g m cm s := ⟨F.call, ⟨.rfl, F.st.hh, F.st.gh, fun _ _ e => .inl e⟩, F.gL, F.gC, F.hold, F.var, F.sep⟩
theorem step_base {g₀ g g2 h0 h h2 : Heap} (x : Step g₀ h0 g h) (y : Step g h0 g2 h2) : Step g₀ h0 g2 h2 :=
  ⟨x.gg.trans y.gg, y.hh, y.gh, fun b o e => by
    rcases y.new b o e with q | q
    · exact x.new b o q
    · exact .inr q⟩
theorem FS.unbase {g2 : Heap} {h : Heap} (x : Step g₀ s₀.heap g h) (F : FS s₀ g env H τ g2 m cm s) : FS s₀ g₀ env H τ g2 m cm s := ⟨F.call, step_base x F.st, F.gL, F.gC, F.hold, F.var, F.sep⟩

/-- what a loop's turn is to bring -/
def Turn (Inv : Sto → Prop) (R : Out → Prop) : Out → Prop
  | .next τ => Inv τ
  | .cont τ => Inv τ
  | .brk τ => R (.next τ)
  | .ret d => R (.ret d)

theorem Ex.forG {tg : Expr} {bd : Dat → Sto → Sto} {pos : Pos} {iter : Expr} {body : List Stmt} {ds : List Dat} {R : Out → Prop} (hit : Its X k sc τ iter ds) (Inv : Nat → Sto → Prop) (h0 : Inv 0 τ)
    (turn : ∀ i τ' d, ds[i]? = some d → Inv i τ' → Ex X k sc (bd d τ') (execs body) (Turn (Inv (i + 1)) R)) (done : ∀ τ', Inv ds.length τ' → R (.next τ')) 
    (asg : ∀ (A : Around) (E : Value → Shared → Prop) (env : Env) (s₀ : Shared) (g₀ : Heap) (H : List (Addr × Obj)) (g : Heap) (m cm : Str → Option Value) (s : Shared) (τ' : Sto) (v : Value) (d : Dat) (Q : Unit → Shared → Prop), Room A k → EnvOk env sc → FS s₀ g₀ env H τ' g m cm s → Rep g v d → d ∈ ds →
      (∀ m' cm' s', FS s₀ g₀ env H (bd d τ') g m' cm' s' → Q () s') → wpAny X.M A (PySem.assign tg env v) Q E s) :
    Ex X k sc τ (exec (.For tg iter body [] pos)) R := by
  intro A env s₀ g₀ H g m cm s E r o b F
  refine wpAny_For (wp_ev (hit.1 A env g s E r o.toEnvOk (b.trans F.st.gg) F.sto) fun xv g1 s1 k1 x1 p1 => ?_) (hit.2 env)
  have F1 := F.ev k1 x1
  refine wpAny_mono (p1 s1 x1.gh A E r) (fun it s2 ⟨k2, I, fp, wr, P, St, e, W⟩ => ?_) fun _ _ y => y
  subst e
  have x2 : Step g1 s1.heap g1 s2.heap := ⟨.rfl, kp_sub k2, x1.gh.trans (kp_sub k2), fun _ _ e => .inl e⟩
  have F2' := F1.ev k2 x2
  have hd : ∀ p ∈ H, p.1 ∉ wr := fun p hp q => by
    have := (F1.hold p hp).1
    rw [W.fresh _ q] at this; cases this
  have F1' : FS s₀ g₀ env H τ g1 m cm { s2 with heap := s1.heap } := by
    obtain ⟨h', tk, rfl, kp⟩ := k2
    exact F1.tok
  have F2 := F2'.more F1' W.fresh fun b hb => by
    cases z : g1.get? b with
    | none => rfl
    | some o' => have := x1.gh _ _ z; rw [W.fresh b hb] at this; cases this
  refine codeAny_forLoop_any (fun n s' => ∃ i τ' g' m' cm', n = ds.length - i ∧ i ≤ ds.length ∧ Inv i τ' ∧ FS s₀ g₀ env (objsAt wr s'.heap ++ H) τ' g' m' cm' s' ∧ St i s'.heap ∧ Sub g1 g') ?_ ds.length ⟨0, τ, g1, m, cm, rfl, Nat.zero_le _, h0, F2, W.start, .rfl⟩
  rintro n s3 ⟨i, τ', g', m', cm', rfl, hi, hI, F3, hst, hg1⟩
  have hlv := W.live i _ hst
  rcases Nat.lt_or_ge i ds.length with hlt | hge
  · refine (W.walks A r.hh).item i s3 _ _ hlt hst fun v h' tk hP hst' hk' => ?_
    have F4 := F3.wrote (tk := tk) hd hlv hk'
    obtain ⟨d, hd1, hr⟩ := W.item i v hP
    refine W.own (i + 1) A _ _ v { s3 with heap := h', toks := tk } _ hst' ?_
    refine asg A _ env s₀ g₀ _ _ _ _ _ _ v d _ r o F4 (hr.sub hg1) (List.mem_of_getElem? hd1) fun m5 cm5 s5 F5 => ?_
    have hst5 : St (i + 1) s5.heap := (W.walks A r.hh).frame _ _ _ hst' fun c hc ob e => by
      rcases W.foot c hc with hw | hg
      · exact (F5.hold (c, ob) (List.mem_append_left _ (mem_objsAt.mpr ⟨hw, e⟩))).1
      · obtain ⟨ob', hg⟩ := Option.isSome_iff_exists.mp hg
        have e1 := F4.st.gh _ _ (hg1 _ _ hg)
        have e1' : h'.get? c = some ob' := e1
        rw [e] at e1'; cases e1'
        exact F5.st.gh _ _ (hg1 _ _ hg)
    have same : ∀ {s6 : Shared} {τ6 g6 m6 cm6}, FS s₀ g₀ env (objsAt wr h' ++ H) τ6 g6 m6 cm6 s6 → Sub g1 g6 → FS s₀ g₀ env (objsAt wr s6.heap ++ H) τ6 g6 m6 cm6 s6 ∧ St (i + 1) s6.heap := by
      intro s6 τ6 g6 m6 cm6 F6 hg6
      have hat : ∀ c ∈ wr, s6.heap.get? c = h'.get? c := by
        intro c hc
        obtain ⟨ob, hob⟩ := Option.isSome_iff_exists.mp (W.live _ _ hst' c hc)
        rw [hob]
        exact (F6.hold (c, ob) (List.mem_append_left _ (mem_objsAt.mpr ⟨hc, hob⟩))).1
      refine ⟨F6.less fun p hp => ?_, (W.walks A r.hh).frame _ _ _ hst' fun c hc ob e => ?_⟩
      · rcases List.mem_append.mp hp with hp | hp
        · obtain ⟨q1, q2⟩ := mem_objsAt.mp hp
          exact List.mem_append_left _ (mem_objsAt.mpr ⟨q1, by rw [← hat _ q1]; exact q2⟩)
        · exact List.mem_append_right _ hp
      · rcases W.foot c hc with hw | hg
        · rw [hat c hw]; exact e
        · obtain ⟨ob', hg⟩ := Option.isSome_iff_exists.mp hg
          have e1 : h'.get? c = some ob' := F4.st.gh _ _ (hg1 _ _ hg)
          rw [e] at e1; cases e1
          exact F6.st.gh _ _ (hg6 _ _ hg)
    have F5b := F5.base
    refine wpAny_mono (turn i τ' d hd1 hI A env s₀ _ (objsAt wr h' ++ H) _ m5 cm5 s5 _ r o (b.trans F5.st.gg) F5b) (fun f s6 x => ?_) fun _ _ y => y
    cases f with
    | next =>
      obtain ⟨τ6, g6, m6, cm6, rr, F6⟩ := x
      obtain ⟨a1, a2⟩ := same (F6.unbase F5.st) (hg1.trans F6.st.gg)
      exact ⟨ds.length - (i + 1), by omega, i + 1, τ6, g6, m6, cm6, rfl, hlt, rr, a1, a2, hg1.trans F6.st.gg⟩
    | cont =>
      obtain ⟨τ6, g6, m6, cm6, rr, F6⟩ := x
      obtain ⟨a1, a2⟩ := same (F6.unbase F5.st) (hg1.trans F6.st.gg)
      exact ⟨ds.length - (i + 1), by omega, i + 1, τ6, g6, m6, cm6, rfl, hlt, rr, a1, a2, hg1.trans F6.st.gg⟩
    | brk =>
      obtain ⟨τ6, g6, m6, cm6, rr, F6⟩ := x
      exact ⟨τ6, g6, m6, cm6, rr, (F6.unbase F5.st).less fun p hp => List.mem_append_right _ hp⟩
    | ret v =>
      obtain ⟨d6, g6, rr, k6, x6, r6⟩ := x
      exact ⟨d6, g6, rr, k6, step_base F5.st x6, r6⟩
  · have hin : i = ds.length := by omega
    subst hin
    refine (W.walks A r.hh).done s3 _ _ hst fun h' tk hk' => ?_
    have F4 := F3.wrote (tk := tk) hd hlv hk'
    exact wpAny_execs_nil ⟨τ', g', m', cm', done τ' hI, F4.less fun p hp => List.mem_append_right _ hp⟩
theorem Ex.for_ {x : Str} {px pos : Pos} {iter : Expr} {body : List Stmt} {ds : List Dat} {R : Out → Prop} (hit : Its X k sc τ iter ds) (Inv : Nat → Sto → Prop) (h0 : Inv 0 τ)
    (turn : ∀ i τ' d, ds[i]? = some d → Inv i τ' → Ex X k sc (upd x (.dat d) τ') (execs body) (Turn (Inv (i + 1)) R)) (done : ∀ τ', Inv ds.length τ' → R (.next τ')) (hx : canStore sc x = true := by rfl) :
    Ex X k sc τ (exec (.For (.Name x px) iter body [] pos)) R :=
  Ex.forG (bd := fun d τ' => upd x (.dat d) τ') hit Inv h0 turn done fun A E env s₀ g₀ H g m cm s τ' v d Q r o F hr _ h => wpAny_assign_Name (wp_store (lv := .dat d) F o.toEnvOk hx (o.cells x) hr trivial h)

/-- a list of the frame's own -/
def listP (ds : List Dat) (_ : Addr) (o : Obj) (g : Heap) : Prop := ∃ vs n, o = { cls := .type "list", data := .seq (List.toArray vs) n } ∧ RepAll g vs ds
def LV.list (ds : List Dat) : LV := .obj (listP ds) fun _ _ _ _ k ⟨vs, n, e, r⟩ => ⟨vs, n, e, r.sub k⟩

/-- the object of a name is turned -/
theorem FS.mutate {x : Str} {a : Addr} {P : Addr → Obj → Heap → Prop} {mp} {lv : LV} {P' : Addr → Obj → Heap → Prop} {mp'} {h' : Heap} {tk : Tok} (F : FS s₀ g₀ env H τ g m cm s) (hx : τ.lookup x = some (.obj P mp)) (hh : Holds env m cm x (.ref a))
    (hk : Heap.ExtBut a s.heap h') (ho : ∃ o', h'.get? a = some o' ∧ P' a o' g) : FS s₀ g₀ env H (upd x (.obj P' mp') τ) g m cm { s with heap := h', toks := tk } := by
  obtain ⟨v, hv, ad, o, e, h1, h2, h3, h4, h5, h6, h7⟩ := F.var x _ hx
  subst e
  have := hv.fun hh
  cases this
  have keep0 : Sub s₀.heap h' := fun b ob e => hk b ob (fun q => by rw [q, h4] at e; cases e) (F.call.toInCall.keep b ob e)
  have keepg : Sub g h' := fun b ob e => hk b ob (fun q => by rw [q, h3] at e; cases e) (F.st.gh b ob e)
  refine ⟨⟨⟨?_, ?_, keep0, F.call.toInCall.fresh⟩, fun n c hc => ?_, F.call.apart, F.call.above⟩, ⟨F.st.gg, keep0, keepg, F.st.new⟩, F.gL, F.gC, fun p hp => ?_, fun y l e => ?_, fun y z b P1 m1 Q1 m2 hyz e1 e2 q1 q2 => ?_⟩
  · obtain ⟨h₁, t, e⟩ := F.call.toInCall.same
    subst e
    exact ⟨h', tk, rfl⟩
  · obtain ⟨ob, es, ep, ho, r⟩ := F.call.toInCall.ns
    exact ⟨ob, es, ep, hk _ _ (fun q => h5 q.symm) ho, r⟩
  · obtain ⟨ob, ho, hd⟩ := F.call.cell n c hc
    exact ⟨ob, hk _ _ (h6 n c hc) ho, hd⟩
  · obtain ⟨k1, k2, k3, k4, k5⟩ := F.hold p hp
    exact ⟨hk _ _ (h7 p hp) k1, k2, k3, k4, k5⟩
  · rw [lookup_upd] at e
    by_cases q : y = x
    · rw [if_pos q] at e
      cases e
      subst q
      obtain ⟨o', ho', hp'⟩ := ho
      exact ⟨_, hh, a, o', rfl, ho', hp', h3, h4, h5, h6, h7⟩
    · rw [if_neg q] at e
      obtain ⟨u, hu, lu⟩ := F.var y l e
      refine ⟨u, hu, ?_⟩
      cases l with
      | dat d => exact lu
      | val u => exact lu
      | obj P2 mp2 =>
        obtain ⟨b, ob, rfl, k1, k2, k3⟩ := lu
        exact ⟨b, ob, rfl, hk _ _ (fun w => F.sep y x b P2 mp2 P mp q e hx hu (by rw [w]; exact hh)) k1, k2, k3⟩
  · rw [lookup_upd] at e1 e2
    by_cases qy : y = x
    · subst qy
      have qz : ¬ z = y := fun t => hyz t.symm
      rw [if_neg qz] at e2
      exact F.sep y z b P mp Q1 m2 hyz hx e2 q1 q2
    · rw [if_neg qy] at e1
      by_cases qz : z = x
      · subst qz
        exact F.sep y z b P1 m1 P mp hyz e1 hx q1 q2
      · rw [if_neg qz] at e2
        exact F.sep y z b P1 m1 Q1 m2 hyz e1 e2 q1 q2

/-- an object that is turned no more stands still from here on -/
theorem Ex.freezeObj {x : Str} {P : Addr → Obj → Heap → Prop} {mp} {d : Dat} {t : Env → Sem Flow} {R : Out → Prop} (hx : τ.lookup x = some (.obj P mp)) (hd : ∀ a o g g', P a o g → Sub g g' → g'.get? a = some o → Rep g' (.ref a) d)
    (h : Ex X k sc (upd x (.dat d) τ) t R) : Ex X k sc τ t R := by
  intro A env s₀ g₀ H g m cm s E r o b F
  obtain ⟨v, hv, ad, ob, e, h1, h2, h3, h4, h5, h6, h7⟩ := F.var x _ hx
  subst e
  have sg : Sub g (withObj g s.heap ad) := withObj_sub F.st.gh
  refine h A env s₀ g₀ H (withObj g s.heap ad) m cm s E r o b ⟨F.call, ⟨F.st.gg.trans sg, F.st.hh, withObj_in, fun c oc e => ?_⟩, withObj_other F.gL (fun q => h5 q.symm), fun n c hc => withObj_other (F.gC n c hc) (h6 n c hc), fun p hp => ?_, fun y l e => ?_, fun y z b P1 m1 Q1 m2 hyz e1 e2 q1 q2 => ?_⟩
  · by_cases q : c = ad
    · subst q; exact .inr h4
    · cases z : g.get? c with
      | some o' =>
        have h1 := sg _ _ z
        rw [e] at h1; cases h1
        exact F.st.new c oc z
      | none => rw [withObj_other z q] at e; cases e
  · obtain ⟨k1, k2, k3, k4, k5⟩ := F.hold p hp
    exact ⟨k1, k2, k3, withObj_other k4 (h7 p hp), k5⟩
  · rw [lookup_upd] at e
    by_cases q : y = x
    · rw [if_pos q] at e
      cases e
      subst q
      exact ⟨_, hv, hd ad ob g _ h2 sg (withObj_self h1)⟩
    · rw [if_neg q] at e
      obtain ⟨u, hu, lu⟩ := F.var y l e
      refine ⟨u, hu, ?_⟩
      cases l with
      | dat d => exact Rep.sub sg lu
      | val u => exact lu
      | obj P2 mp2 =>
        obtain ⟨c, oc, rfl, k1, k2, k3, k4⟩ := lu
        exact ⟨c, oc, rfl, k1, mp2 _ _ _ _ sg k2, withObj_other k3 (fun w => F.sep y x c P2 mp2 P mp q e hx hu (by rw [w]; exact hv)), k4⟩
  · rw [lookup_upd] at e1 e2
    by_cases qy : y = x
    · rw [if_pos qy] at e1; cases e1
    · rw [if_neg qy] at e1
      by_cases qz : z = x
      · rw [if_pos qz] at e2; cases e2
      · rw [if_neg qz] at e2
        exact F.sep y z b P1 m1 Q1 m2 hyz e1 e2 q1 q2
theorem Ex.freeze {x : Str} {ds : List Dat} {t : Env → Sem Flow} {R : Out → Prop} (hx : τ.lookup x = some (LV.list ds)) (h : Ex X k sc (upd x (.dat (.list ds)) τ) t R) : Ex X k sc τ t R :=
  Ex.freezeObj hx (fun a o g g' ⟨vs, n, e, r⟩ hs hg => by subst e; exact .list ⟨n, hg⟩ (r.sub hs)) h

theorem holds_name {A : Around} {E : Value → Shared → Prop} {x : Str} {pos : Pos} {v : Value} {Q : Value → Shared → Prop} (F : FS s₀ g₀ env H τ g m cm s) (o : DefEnv env sc) (hh : Holds env m cm x v) (h : Q v s) (hd : (x == ("__debug__" : Str)) = false := by decide) :
    wpAny X.M A (eval (.Name x pos) env) Q E s := by
  rcases hh with ⟨a, b⟩ | ⟨a, b, c⟩
  · exact wpAny_Name (wpAny_loadName_local o.ek a F.call.toInCall.ns b h) hd
  · obtain ⟨ad, hc⟩ := Option.isSome_iff_exists.mp b
    exact wpAny_Name (wpAny_loadName_cell o.ek a hc (c ▸ F.call.cell x ad hc) h) hd

/-- x.append(e) -/
theorem Ex.append {x : Str} {px apos cpos pos : Pos} {e : Expr} {ds : List Dat} {d : Dat} {R : Out → Prop} (hx : τ.lookup x = some (LV.list ds)) (h : Ev X k sc τ e d) (hr : R (.next (upd x (LV.list (ds ++ [d])) τ))) (hz : ds.length ≤ sizeLine)
    (hp : plainE e = true := by rfl) (hline : (apos.endLine == cpos.line) = true := by decide) (hd : (x == ("__debug__" : Str)) = false := by decide)
    (hs : ∀ env, swapsWith (.Call (.Attribute (.Name x px) "append" apos) [e] [] cpos) none pos.line env = pure false := by intro _; rfl) :
    Ex X k sc τ (exec (.Expr (.Call (.Attribute (.Name x px) "append" apos) [e] [] cpos) pos)) R := by
  intro A env s₀ g₀ H g m cm s E r o b F
  obtain ⟨v, hv, ad, ob, ev, h1, ⟨vs, n, eo, rp⟩, h3, h4, h5, h6, h7⟩ := F.var x _ hx
  subst ev; subst eo
  refine wpAny_Expr ?_ o.quiet (hs env)
  refine wpAny_Call_append (by rfl) (by rw [starEach_plain hp]; rfl) hline (by rw [starEach_plain hp]; rfl) (holds_name F o hv ⟨ad, vs.toArray, rfl, ⟨_, n, h1, rfl, rfl, rfl⟩, ?_⟩ hd)
  refine wp_ev (h A env g s E r o.toEnvOk (b.trans F.st.gg) F.sto) fun y g1 s1 k1 x1 p1 => ?_
  have F1 := F.ev k1 x1
  refine wpAny_list_append_plain (items := vs.toArray) ⟨n, x1.hh _ _ h1⟩ (fun h' hl hs' => ?_) (by rw [List.size_toArray, rp.length]; exact hz)
  refine ⟨_, g1, m, cm, hr, F1.mutate (lv := LV.list ds) hx hv hs'.extBut ?_⟩
  obtain ⟨n', hn'⟩ := hl
  exact ⟨_, hn', vs ++ [y], n', by simp, (RepAll.append (.one p1) (rp.sub x1.gg))⟩
end
end Mine

namespace Mine
open PySem PySem.W PyProof.Rows PySem.Calls
set_option Elab.async false
set_option maxRecDepth 100000
set_option linter.unusedVariables false

theorem bindL_off {kindOf : Str → Option NameKind} {n : Str} : ∀ (binds : List (Str × Value)) (m : Str → Option Value), n ∉ binds.map (·.1) → bindL kindOf binds m n = m n
  | [], _, _ => rfl
  | (y, v) :: r, m, h => by
    have h1 : n ≠ y := fun q => h (by simp [q])
    have h2 : n ∉ r.map (·.1) := fun q => h (by simp only [List.map_cons]; exact List.mem_cons_of_mem _ q)
    unfold bindL
    rw [bindL_off r _ h2]
    split
    · simp [h1]
    · rfl
theorem bindC_off {kindOf : Str → Option NameKind} {n : Str} : ∀ (binds : List (Str × Value)) (m : Str → Option Value), n ∉ binds.map (·.1) → bindC kindOf binds m n = m n
  | [], _, _ => rfl
  | (y, v) :: r, m, h => by
    have h1 : n ≠ y := fun q => h (by simp [q])
    have h2 : n ∉ r.map (·.1) := fun q => h (by simp only [List.map_cons]; exact List.mem_cons_of_mem _ q)
    unfold bindC
    rw [bindC_off r _ h2]
    split
    · rfl
    · simp [h1]
theorem bindL_at {kindOf : Str → Option NameKind} {n : Str} {v : Value} (hk : kindOf n = some .local) : ∀ (binds : List (Str × Value)) (m : Str → Option Value), (binds.map (·.1)).Nodup → (n, v) ∈ binds → bindL kindOf binds m n = some v
  | [], _, _, h => by cases h
  | (y, u) :: r, m, nd, h => by
    rw [List.map_cons, List.nodup_cons] at nd
    unfold bindL
    rcases List.mem_cons.mp h with e | h
    · cases e
      rw [bindL_off r _ nd.1, if_pos hk]
      simp
    · exact bindL_at hk r _ nd.2 h
theorem bindC_at {kindOf : Str → Option NameKind} {n : Str} {v : Value} (hk : kindOf n = some .cell) : ∀ (binds : List (Str × Value)) (m : Str → Option Value), (binds.map (·.1)).Nodup → (n, v) ∈ binds → bindC kindOf binds m n = some v
  | [], _, _, h => by cases h
  | (y, u) :: r, m, nd, h => by
    rw [List.map_cons, List.nodup_cons] at nd
    unfold bindC
    rcases List.mem_cons.mp h with e | h
    · cases e
      have : ¬ kindOf n = some .local := by rw [hk]; decide
      rw [bindC_off r _ nd.1, if_neg this]
      simp
    · exact bindC_at hk r _ nd.2 h

/-- a def stands in the module under its name -/
def IsDef (X : Cx) (f : Str) (params : Arguments) (body : List Stmt) (scope : Scope) : Prop :=
  ∃ a o pm code doc, X.mg f = some (.ref a) ∧ X.h0.get? a = some o ∧ o.data = .func (docDef f params body scope pm code doc) ∧ X.h0.CodeRec code f

def FnOut (P : Dat → Prop) : Out → Prop
  | .ret d => P d
  | .next _ => P .none
  | _ => False

def sto0 : List Str → List Dat → Sto
  | p :: ps, d :: ds => (p, .dat d) :: sto0 ps ds
  | _, _ => []
theorem sto0_at {g : Heap} : ∀ {ps : List Str} {ds : List Dat} {vs : List Value}, RepAll g vs ds → ∀ {x : Str} {lv : LV}, (sto0 ps ds).lookup x = some lv → ∃ v d, (x, v) ∈ ps.zip vs ∧ lv = .dat d ∧ Rep g v d
  | [], _, _, _, x, lv, e => by simp [sto0] at e
  | _ :: _, [], _, _, x, lv, e => by simp [sto0] at e
  | p :: ps, d :: ds, _, .cons (v := v) (vs := vs) a r, x, lv, e => by
    unfold sto0 at e
    rw [List.lookup_cons] at e
    by_cases h : x = p
    · subst h
      simp only [beq_self_eq_true] at e
      cases e
      exact ⟨v, d, by simp, rfl, a⟩
    · have : (x == p) = false := by simpa using h
      rw [this] at e
      obtain ⟨v', d', h1, h2, h3⟩ := sto0_at r e
      exact ⟨v', d', by rw [List.zip_cons_cons]; exact List.mem_cons_of_mem _ h1, h2, h3⟩

theorem Fn.intro {X : Cx} {k : Nat} {f : Str} {params : Arguments} {body : List Stmt} {scope : Scope} {ds : List Dat} {P : Dat → Prop} (D : IsDef X f params body scope) (ps : List Str) (hlen : ps.length = ds.length)
    (hbind : ∀ pm code doc (vs : List Value), vs.length = ds.length → bindArgs (docDef f params body scope pm code doc) ⟨vs, []⟩ = pure (ps.zip vs))
    (hnd : ps.Nodup) (hkinds : (ps.all fun y => scope.names.lookup y == some .local || scope.names.lookup y == some .cell) = true)
    (h : Ex X k scope (sto0 ps ds) (execs body) (FnOut P)) (hk : scope.kind = .function := by rfl) (hco : scope.isCoroutine = false := by rfl) (hgen : scope.isGenerator = false := by rfl) :
    Fn X (k + 1) f ds fun g v => ∃ d, P d ∧ Rep g v d := by
  obtain ⟨a, o, pm, code, doc, h1, h2, h3, h4⟩ := D
  refine ⟨a, o, _, h1, h2, h3, ?_⟩
  intro g s vs b0 kk r A E rm
  have hl : vs.length = ds.length := r.length
  have hz : (ps.zip vs).map (·.1) = ps := by
    rw [List.map_fst_zip]; omega
  have hkk : ∀ n, ∀ x ∈ ps.zip vs, scope.names.lookup x.1 = some .local ∨ (scope.names.lookup x.1 = some .cell ∧ ((cellsFrom n scope.names []).lookup x.1).isSome = true) := by
    refine kindsX ?_
    rw [List.all_eq_true]
    intro y hy
    exact List.all_eq_true.mp hkinds y.1 (List.of_mem_zip hy).1
  refine wpAny_call (codeAny_call_cells (a := a) rm.room (kk _ _ (b0 _ _ h2)) h3 (X.hl.keeps (b0.trans kk)) (h4.keeps (b0.trans kk)) rfl (hbind pm code doc vs hl) rfl (hkk _) (fun s₁ C => ?_) hco hgen hk)
  have o : DefEnv (callEnvC (docDef f params body scope pm code doc) s.heap.objs.size a) scope := ⟨rfl, hk, rfl, rfl, fun x hx => cellsFrom_some _ _ _ (.inl hx)⟩
  have none_of : ∀ {b}, s.heap.objs.size ≤ b → g.get? b = none := by
    intro b hb
    cases z : g.get? b with
    | none => rfl
    | some o => exact absurd (Heap.lt_size (kk _ _ z)) (Nat.not_lt.mpr hb)
  have F : FS s g (callEnvC (docDef f params body scope pm code doc) s.heap.objs.size a) [] (sto0 ps ds) g (bindL (callEnvC (docDef f params body scope pm code doc) s.heap.objs.size a).kindOf (ps.zip vs) fun _ => none) (bindC (callEnvC (docDef f params body scope pm code doc) s.heap.objs.size a).kindOf (ps.zip vs) fun _ => none) s₁ := by
    refine ⟨C, ⟨.rfl, C.toInCall.keep, kk.trans C.toInCall.keep, fun _ _ e => .inl e⟩, none_of C.toInCall.fresh, fun n c hc => none_of (Nat.le_of_lt (Nat.lt_of_le_of_lt C.toInCall.fresh (C.above n c (mem_of_lookup hc)))), fun p hp => (nomatch hp), fun x lv e => ?_, fun x y a P mp Q mq _ e1 _ _ => ?_⟩
    · obtain ⟨v, d, hm, rfl, hr⟩ := sto0_at r e
      refine ⟨v, ?_, hr⟩
      rcases hkk (s.heap.objs.size + 1) _ hm with hq | ⟨hq, hq2⟩
      · exact .inl ⟨hq, bindL_at hq _ _ (hz.symm ▸ hnd) hm⟩
      · exact .inr ⟨hq, hq2, bindC_at hq _ _ (hz.symm ▸ hnd) hm⟩
    · obtain ⟨v, d, hm, e', hr⟩ := sto0_at r e1
      cases e'
  refine wpAny_mono (h (A.deeper _) _ s g [] g _ _ s₁ _ (rm.deeper _) o b0 F) (fun fl s' x => ?_) fun _ _ y => y
  cases fl with
  | next =>
    obtain ⟨τ', g', m', cm', rr, F'⟩ := x
    exact ⟨F'.done, g', F'.st, .none, rr, .none⟩
  | brk => obtain ⟨_, _, _, _, rr, _⟩ := x; exact rr.elim
  | cont => obtain ⟨_, _, _, _, rr, _⟩ := x; exact rr.elim
  | ret v =>
    obtain ⟨d, g', rr, k1, x1, r1⟩ := x
    exact ⟨k1, g', x1, d, rr, r1⟩
theorem Fn.mono {X : Cx} {k : Nat} {f : Str} {ds : List Dat} {P P' : Heap → Value → Prop} (h : Fn X k f ds P) (hp : ∀ g v, P g v → P' g v) : Fn X k f ds P' := by
  obtain ⟨a, o, fd, h1, h2, h3, hop⟩ := h
  exact ⟨a, o, fd, h1, h2, h3, fun g s vs b0 kk r A E rm => wpAny_mono (hop g s vs b0 kk r A E rm) (fun _ _ x => x.mono fun g' => hp g' _) fun _ _ y => y⟩
theorem Fn.le {X : Cx} {k j : Nat} {f : Str} {ds : List Dat} {P : Heap → Value → Prop} (h : Fn X k f ds P) (hj : k ≤ j) : Fn X j f ds P := by
  obtain ⟨a, o, fd, h1, h2, h3, hop⟩ := h
  exact ⟨a, o, fd, h1, h2, h3, fun g s vs b0 kk r A E rm => hop g s vs b0 kk r A E (rm.le hj)⟩
/-- a def that yields one datum -/
abbrev FnD (X : Cx) (k : Nat) (f : Str) (ds : List Dat) (d : Dat) : Prop := Fn X k f ds fun g v => Rep g v d
theorem FnD.intro {X : Cx} {k : Nat} {f : Str} {params : Arguments} {body : List Stmt} {scope : Scope} {ds : List Dat} {d : Dat} (D : IsDef X f params body scope) (ps : List Str) (hlen : ps.length = ds.length)
    (hbind : ∀ pm code doc (vs : List Value), vs.length = ds.length → bindArgs (docDef f params body scope pm code doc) ⟨vs, []⟩ = pure (ps.zip vs))
    (hnd : ps.Nodup) (hkinds : (ps.all fun y => scope.names.lookup y == some .local || scope.names.lookup y == some .cell) = true)
    (h : Ex X k scope (sto0 ps ds) (execs body) (FnOut (· = d))) (hk : scope.kind = .function := by rfl) (hco : scope.isCoroutine = false := by rfl) (hgen : scope.isGenerator = false := by rfl) : FnD X (k + 1) f ds d :=
  (Fn.intro D ps hlen hbind hnd hkinds h hk hco hgen).mono fun g v ⟨d', e, r⟩ => e ▸ r
end Mine

namespace Mine
open PySem PySem.W PyProof.Rows PySem.Calls
set_option Elab.async false
set_option maxRecDepth 100000
set_option linter.unusedVariables false

theorem closure_of {env : Env} : ∀ (names : List (Str × NameKind)) (acc : List (Str × Addr)), (∀ y ∈ names, y.2 = .free → (env.cells.lookup y.1).isSome = true) →
    ∃ cl, (forIn names acc fun (x : Str × NameKind) (r : List (Str × Addr)) => (if (x.2 == .free) = true then do let a ← cellOf env x.1; pure (ForInStep.yield ((x.1, a) :: r)) else pure (ForInStep.yield r) : Sem _)) = pure cl ∧
      (∀ n, (n, NameKind.free) ∈ names → cl.lookup n = env.cells.lookup n ∨ ∃ c, env.cells.lookup n = some c ∧ cl.lookup n = some c) ∧ (∀ n, (n, NameKind.free) ∉ names → cl.lookup n = acc.lookup n)
  | [], acc, _ => ⟨acc, rfl, fun _ h => (nomatch h), fun _ _ => rfl⟩
  | (y, kd) :: r, acc, h => by
    by_cases hk : kd = .free
    · subst hk
      obtain ⟨c, hc⟩ := Option.isSome_iff_exists.mp (h (y, .free) (.head _) rfl)
      obtain ⟨cl, h1, h2, h3⟩ := closure_of r ((y, c) :: acc) fun z hz => h z (.tail _ hz)
      refine ⟨cl, ?_, fun n hn => ?_, fun n hn => ?_⟩
      · rw [List.forIn_cons]
        have : cellOf env y = pure c := by unfold cellOf; rw [hc]
        simp only [beq_self_eq_true, if_true, this, pure_bind]
        exact h1
      · by_cases hr : (n, NameKind.free) ∈ r
        · exact h2 n hr
        · rcases List.mem_cons.mp hn with e | e
          · cases e
            refine .inr ⟨c, hc, ?_⟩
            rw [h3 _ hr]; simp
          · exact absurd e hr
      · have hne : ¬ n = y := fun q => hn (q ▸ .head _)
        rw [h3 n fun q => hn (.tail _ q), List.lookup_cons]
        have : (n == y) = false := by simpa using hne
        rw [this]
    · obtain ⟨cl, h1, h2, h3⟩ := closure_of r acc fun z hz => h z (.tail _ hz)
      have hkb : (kd == NameKind.free) = false := by simpa using hk
      refine ⟨cl, ?_, fun n hn => ?_, fun n hn => h3 n fun q => hn (.tail _ q)⟩
      · rw [List.forIn_cons]
        simp only [hkb, Bool.false_eq_true, if_false, pure_bind]
        exact h1
      · rcases List.mem_cons.mp hn with e | e
        · cases e; exact absurd rfl hk
        · exact h2 n e
theorem closureFor_of {env : Env} {scope : Scope} (h : ∀ y ∈ scope.names, y.2 = .free → (env.cells.lookup y.1).isSome = true) : ∃ cl, closureFor scope env = pure cl ∧ ∀ n, (n, NameKind.free) ∈ scope.names → cl.lookup n = env.cells.lookup n := by
  obtain ⟨cl, h1, h2, _⟩ := closure_of (env := env) scope.names [] h
  refine ⟨cl, ?_, fun n hn => ?_⟩
  · unfold closureFor
    show (forIn scope.names [] _ >>= fun r => pure r) = _
    rw [show (forIn scope.names ([] : List (Str × Addr)) fun (x : Str × NameKind) (r : List (Str × Addr)) => (match x with | (name, kind) => do
        if (kind == .free) = true then do let a ← cellOf env name; pure (ForInStep.yield ((name, a) :: r)) else pure (ForInStep.yield r) : Sem _)) = pure cl from h1]
    rfl
  · rcases h2 n hn with e | ⟨c, e1, e2⟩
    · exact e
    · rw [e1, e2]

/-- the scope of a comprehension, as it is read within a def -/
def relab (sc : Scope) (p : Str × NameKind) : Str × NameKind := if (p.2 == .free && sc.names.lookup p.1 == some .cell) = true then (p.1, .cell) else p
def relabelS (scope sc : Scope) : Scope := { scope with names := scope.names.map (relab sc) }
theorem relabel_eq {env : Env} {scope sc : Scope} (o : EnvOk env sc) : relabel scope env = relabelS scope sc := by
  unfold relabel relabelS
  have e : env.kindOf = fun n => sc.names.lookup n := by funext n; exact o.kindOf rfl
  have e2 : (fun (x : Str × NameKind) => match x with | (n, k) => if (k == .free && env.scope.kind == .function && env.kindOf n == some .cell) = true then (n, NameKind.cell) else (n, k)) = relab sc := by
    funext x
    obtain ⟨n, k⟩ := x
    unfold relab
    rw [o.ek, e]
    simp
  rw [e2]
theorem lookup_relabelS {sc : Scope} {y : Str} {kd : NameKind} : ∀ {names : List (Str × NameKind)}, names.lookup y = some kd → (names.map (relab sc)).lookup y = some (if (kd == .free && sc.names.lookup y == some .cell) = true then .cell else kd)
  | [], h => by simp at h
  | (n, k) :: r, h => by
    have e1 : (relab sc (n, k)).1 = n := by unfold relab; split <;> rfl
    rw [List.map_cons]
    cases hr : relab sc (n, k) with | mk a b =>
    rw [hr] at e1
    have e1' : a = n := e1
    subst e1'
    rw [List.lookup_cons] at h ⊢
    cases hx : y == a with
    | true =>
      rw [hx] at h
      dsimp only at h ⊢
      cases h
      have := beq_iff_eq.mp hx
      subst this
      unfold relab at hr
      dsimp only at hr
      split at hr
      · rename_i q; rw [if_pos q]; cases hr; rfl
      · rename_i q; rw [if_neg q]; cases hr; rfl
    | false =>
      rw [hx] at h
      exact lookup_relabelS (sc := sc) (names := r) h

/-- a comprehension's tests -/
def Tests (X : Cx) (k : Nat) (sc : Scope) (σ : Sto) (ifs : List Expr) (b : Bool) : Prop := (ifs = [] ∧ b = true) ∨ ∃ c, ifs = [c] ∧ EvT X k sc σ c b

/-- what stands around a comprehension, as it is read within -/
structure Caps (sc scope : Scope) (τ cap : Sto) : Prop where
  sub : ∀ y d, cap.lookup y = some (.dat d) → τ.lookup y = some (.dat d) ∧ (y, NameKind.free) ∈ scope.names ∧ scope.names.lookup y = some .free ∧ sc.names.lookup y = some .cell
  noval : ∀ y u, cap.lookup y ≠ some (.val u)
  obj : ∀ y P mp, cap.lookup y = some (.obj P mp) → τ.lookup y = some (.obj P mp) ∧ (y, NameKind.free) ∈ scope.names ∧ scope.names.lookup y = some .free ∧ sc.names.lookup y = some .cell
structure CompOk (sc scope : Scope) : Prop where
  kind : scope.kind = .function
  nocell : ∀ y ∈ scope.names, y.2 ≠ .cell
  free : ∀ y ∈ scope.names, y.2 = .free → sc.names.lookup y.1 = some .cell
  names : ∀ y ∈ scope.names, y.2 = .local → scope.names.lookup y.1 = some .local
  frees : ∀ y ∈ scope.names, y.2 = .free → scope.names.lookup y.1 = some .free

section
variable {X : Cx} {k : Nat} {sc scope : Scope} {τ cap : Sto}

theorem compEnv_ok {env : Env} {cl : List (Str × Addr)} {C : Addr} (o : EnvOk env sc) (c : CompOk sc scope) (hcl : ∀ n, (n, NameKind.free) ∈ scope.names → cl.lookup n = env.cells.lookup n) : EnvOk (compEnvC scope cl C env) (relabelS scope sc) where
  scope := relabel_eq o
  kind := c.kind
  glob := o.glob
  bi := o.bi
  cells := fun x hx => by
    have : ∃ kd, (x, kd) ∈ scope.names ∧ (kd = .cell ∨ (kd = .free)) := by
      have hm := mem_of_lookup hx
      obtain ⟨⟨n, kd⟩, h1, h2⟩ := List.mem_map.mp hm
      unfold relab at h2
      dsimp only at h2
      split at h2
      · rename_i hq
        cases h2
        exact ⟨kd, h1, .inr (by simpa using (Bool.and_eq_true_iff.mp hq).1)⟩
      · cases h2
        exact ⟨_, h1, .inl rfl⟩
    obtain ⟨kd, h1, h2⟩ := this
    rcases h2 with rfl | rfl
    · exact absurd rfl (c.nocell _ h1)
    · show (cl.lookup x).isSome = true
      rw [hcl x h1]
      exact o.cells x (c.free _ h1 rfl)

/-- the turns of a comprehension; bd tells what its names hold of an item -/
structure EltsG (X : Cx) (k : Nat) (sc scope : Scope) (cap : Sto) (bd : Dat → Sto) (ifs : List Expr) (elt : Expr) (ds : List Dat) (fz : List (Option Dat)) : Prop where
  len : fz.length = ds.length
  some_ : ∀ (i : Nat) (d y : Dat), ds[i]? = some d → fz[i]? = some (some y) → Tests X k (relabelS scope sc) (bd d ++ cap) ifs true ∧ Ev X k (relabelS scope sc) (bd d ++ cap) elt y
  none_ : ∀ (i : Nat) (d : Dat), ds[i]? = some d → fz[i]? = some (none : Option Dat) → Tests X k (relabelS scope sc) (bd d ++ cap) ifs false
abbrev Elts (X : Cx) (k : Nat) (sc scope : Scope) (cap : Sto) (x : Str) (ifs : List Expr) (elt : Expr) (ds : List Dat) (fz : List (Option Dat)) : Prop := EltsG X k sc scope cap (fun d => [(x, .dat d)]) ifs elt ds fz

/-- the binding of a comprehension's names -/
def AsgOk (X : Cx) (k : Nat) (sc scope : Scope) (τ cap : Sto) (tg : Expr) (bd : Dat → Sto) (ds : List Dat) : Prop :=
  ∀ (A : Around) (E : Value → Shared → Prop) (env : Env) (cl : List (Str × Addr)) (C : Addr) (g g' : Heap) (s s' : Shared) (v : Value) (d : Dat) (m : Str → Option Value) (Q : Unit → Shared → Prop), Room A k → EnvOk env sc → CompOk sc scope → Caps sc scope τ cap →
    (∀ n, (n, NameKind.free) ∈ scope.names → cl.lookup n = env.cells.lookup n) → StoIn τ env g s → Step g s.heap g' s'.heap → s'.heap.Ns C m → g'.get? C = none → s.heap.get? C = none → Rep g' v d → d ∈ ds →
    (∀ m2 h2 tk, (∀ b o, b ≠ C → s'.heap.get? b = some o → h2.get? b = some o) → h2.Ns C m2 → StoIn (bd d ++ cap) (compEnvC scope cl C env) g' { s' with heap := h2, toks := tk } → Q () { s' with heap := h2, toks := tk }) →
    wpAny X.M A (PySem.assign tg (compEnvC scope cl C env) v) Q E s'
theorem comp_stoG {env : Env} {cl : List (Str × Addr)} {C : Addr} {g g' : Heap} {s s' : Shared} {bs : Sto} {m : Str → Option Value} (o : EnvOk env sc) (c : CompOk sc scope) (cp : Caps sc scope τ cap) (hcl : ∀ n, (n, NameKind.free) ∈ scope.names → cl.lookup n = env.cells.lookup n)
    (hb : ∀ y lv, bs.lookup y = some lv → ∃ v d, lv = .dat d ∧ scope.names.lookup y = some .local ∧ m y = some v ∧ Rep g' v d) (q : StoIn τ env g s) (t : Step g s.heap g' s'.heap) (ns : s'.heap.Ns C m) : StoIn (bs ++ cap) (compEnvC scope cl C env) g' s' where
  sub := t.gh
  var := fun y e he => by
    rw [List.lookup_append] at he
    cases hy : bs.lookup y with
    | some lv =>
      rw [hy] at he
      obtain ⟨v, d, e1, e2, e3, e4⟩ := hb y lv hy
      subst e1
      simp at he
      subst he
      refine ⟨v, .inl ⟨?_, m, ns, e3⟩, e4⟩
      show (relabel scope env).names.lookup y = _
      rw [relabel_eq o]
      exact (lookup_relabelS (sc := sc) e2).trans (by rfl)
    | none =>
      rw [hy] at he
      simp at he
      obtain ⟨h1, h2, h3, h4⟩ := cp.sub y e he
      obtain ⟨u, hu, hr⟩ := q.var y e h1
      refine ⟨u, .inr ?_, hr.sub t.gg⟩
      rcases hu with ⟨a, _⟩ | ⟨a, ad, hc, hcell⟩
      · rw [o.kindOf h4] at a; cases a
      · refine ⟨.inl ?_, ad, ?_, hcell.keeps t.hh⟩
        · show (relabel scope env).names.lookup y = _
          rw [relabel_eq o]
          refine (lookup_relabelS (sc := sc) h3).trans ?_
          rw [h4]; rfl
        · show cl.lookup y = some ad
          rw [hcl y h2]; exact hc
  val := fun y u he => by
    rw [List.lookup_append] at he
    cases hy : bs.lookup y with
    | some lv =>
      rw [hy] at he
      obtain ⟨v, d, e1, _⟩ := hb y lv hy
      subst e1
      simp at he
    | none =>
      rw [hy] at he
      simp at he
      exact absurd he (cp.noval y u)
  obj := fun y P mp he => by
    rw [List.lookup_append] at he
    cases hy : bs.lookup y with
    | some lv =>
      rw [hy] at he
      obtain ⟨v, d, e1, _⟩ := hb y lv hy
      subst e1
      simp at he
    | none =>
      rw [hy] at he
      simp at he
      obtain ⟨h1, h2, h3, h4⟩ := cp.obj y P mp he
      obtain ⟨oa, ob, hu, ho, hp⟩ := q.obj y P mp h1
      refine ⟨oa, ob, .inr ?_, t.hh _ _ ho, mp _ _ _ _ t.gg hp⟩
      rcases hu with ⟨a, _⟩ | ⟨a, ad, hc, hcell⟩
      · rw [o.kindOf h4] at a; cases a
      · refine ⟨.inl ?_, ad, ?_, hcell.keeps t.hh⟩
        · show (relabel scope env).names.lookup y = _
          rw [relabel_eq o]
          refine (lookup_relabelS (sc := sc) h3).trans ?_
          rw [h4]; rfl
        · show cl.lookup y = some ad
          rw [hcl y h2]; exact hc

theorem asg_name {x : Str} {px : Pos} {ds : List Dat} (hx : scope.names.lookup x = some .local) : AsgOk X k sc scope τ cap (.Name x px) (fun d => [(x, .dat d)]) ds := by
  intro A E env cl C g g' s s' v d m Q r o c cp hcl q t ns gC sC hv hd h
  have oc : EnvOk (compEnvC scope cl C env) (relabelS scope sc) := compEnv_ok o c hcl
  refine wpAny_assign_Name (wpAny_storeName_local (m := m) (oc.kindOf ((lookup_relabelS (sc := sc) hx).trans (by rfl))) ns (fun h₂ hn₂ hs₂ => ?_) oc.plain)
  have up2 : ∀ b ob, b ≠ C → s'.heap.get? b = some ob → h₂.get? b = some ob := fun b ob hb e => hs₂.extBut b ob hb e
  have x3 : Step g s.heap g' h₂ := ⟨t.gg, fun b ob e => up2 b ob (fun z => by rw [z, sC] at e; cases e) (t.hh _ _ e), fun b ob e => up2 b ob (fun z => by rw [z, gC] at e; cases e) (t.gh _ _ e), t.new⟩
  refine h _ h₂ _ up2 hn₂ (comp_stoG (s' := { s' with heap := h₂, toks := s'.toks + 1 }) (m := fun y => if y = x then some v else m y) o c cp hcl (fun y lv hy => ?_) q x3 hn₂)
  rw [List.lookup_cons] at hy
  by_cases e : y = x
  · subst e
    simp at hy
    exact ⟨v, d, hy.symm, hx, by simp, hv⟩
  · have : (y == x) = false := by simpa using e
    rw [this] at hy
    simp at hy
/-- a comprehension's loop, whatever its target -/
theorem compLoop_any {prog : Program} {w : World} {A : Around} {R : Result → Shared → Prop} {s : Shared} {elt target iter : Expr} {ifs : List Expr} {scope : Scope} {pos : Pos} {it acc : Value} {env : Env} (I : Nat → Shared → Prop)
    (turn : ∀ n s, I n s → wpAny (model prog w) A (pyNext it) (fun r s₁ => match r with
      | none => R (.ok .next) s₁
      | some v => wpAny (model prog w) A (letOwnedTupleGo target it v) (fun _ s₁' => wpAny (model prog w) A (PySem.assign target env v) (fun _ s₂ =>
          wpAny (model prog w) A (forIn ifs true fun c r => if r = true then do let ok ← isTrue c env (eval c env); pure (ForInStep.yield ok) else pure (ForInStep.yield r)) (fun ok s₃ =>
            if ok = true then wpAny (model prog w) A (eval elt env) (fun x s₄ =>
              wpAny (model prog w) A (call (.builtin "list.append") [acc, x]) (fun _ s₅ => ∃ m, m < n ∧ I m s₅) (notedBy (model prog w) A env fun e s' => R (.error e) s') s₄) (notedBy (model prog w) A env fun e s' => R (.error e) s') s₃
            else ∃ m, m < n ∧ I m s₃) (notedBy (model prog w) A env fun e s' => R (.error e) s') s₂) (notedBy (model prog w) A env fun e s' => R (.error e) s') s₁') (notedBy (model prog w) A env fun e s' => R (.error e) s') s₁) (notedBy (model prog w) A env fun e s' => R (.error e) s') s)
    (n : Nat) (h : I n s) : codeAny (model prog w) A (.compLoop (.ListComp elt [⟨target, iter, ifs, 0⟩] scope pos) 0 it acc env) R s := by
  refine codeAny_loop rfl I (fun n s hI => ?_) n h
  show wpAny _ A ((compTurn (.ListComp elt [⟨target, iter, ifs, 0⟩] scope pos) 0 it acc env).onRaise (fun x => do noteFrame x env; theTreesLotGoes x)) _ _ s
  refine wpAny_noted ?_
  rw [compTurn_list]
  refine wpAny_bind (wpAny_standAt (wpAny_bind (wpAny_mono (turn n s hI) (fun r s₁ h₁ => ?_) fun _ _ h' => h')))
  cases r with
  | none => exact wpAny_pure h₁
  | some v =>
    refine wpAny_bind (wpAny_mono h₁ (fun _ s₁' h₁' => ?_) fun _ _ h' => h')
    refine wpAny_bind (wpAny_mono h₁' (fun _ s₂ h₂ => wpAny_bind (wpAny_mono h₂ (fun ok s₃ h₃ => ?_) fun _ _ h' => h')) fun _ _ h' => h')
    cases ok with
    | false => exact wpAny_pure ⟨rfl, h₃⟩
    | true => exact wpAny_bind (wpAny_bind (wpAny_mono h₃ (fun x s₄ h₄ => wpAny_bind (wpAny_mono h₄ (fun _ s₅ h₅ => wpAny_pure (wpAny_pure ⟨rfl, h₅⟩)) fun _ _ h' => h')) fun _ _ h' => h'))

theorem wp_tests {A : Around} {env : Env} {g : Heap} {s : Shared} {E : Value → Shared → Prop} {σ : Sto} {ifs : List Expr} {b : Bool} (h : Tests X k sc σ ifs b) (r : Room A k) (o : EnvOk env sc) (bs : Sub X.h0 g) (q : StoIn σ env g s) :
    wpAny X.M A (forIn ifs true fun c r => if r = true then do let ok ← isTrue c env (eval c env); pure (ForInStep.yield ok) else pure (ForInStep.yield r)) (fun c s' => c = b ∧ Keeps s s' ∧ ∃ g', Step g s.heap g' s'.heap) E s := by
  rcases h with ⟨rfl, rfl⟩ | ⟨c, rfl, h⟩
  · exact wpAny_tests_nil ⟨rfl, kp_refl, g, .rfl q.sub⟩
  · exact wpAny_tests_one (h A env g s E r o bs q)

theorem comp_core {A : Around} {env : Env} {g1 : Heap} {s1 : Shared} {E : Value → Shared → Prop} {tg : Expr} {bd : Dat → Sto} {pos : Pos} {elt iter : Expr} {ifs : List Expr} {cl : List (Str × Addr)} {xv : Value} {ds : List Dat} {fz : List (Option Dat)} {RR : Value → Addr → Result → Shared → Prop}
    (r : Room A k) (o : EnvOk env sc) (c : CompOk sc scope) (cp : Caps sc scope τ cap) (hcl : ∀ n, (n, NameKind.free) ∈ scope.names → cl.lookup n = env.cells.lookup n) (asg : AsgOk X k sc scope τ cap tg bd ds)
    (bs : Sub X.h0 g1) (q : StoIn τ env g1 s1) (hit : IterOf X k g1 s1 xv ds) (el : EltsG X k sc scope cap bd ifs elt ds fz) (hz : ds.length ≤ sizeLine)
    (hRR : ∀ D C s' g' m' ws n, Keeps s1 s' → Step g1 s1.heap g' s'.heap → s1.heap.get? D = none → s1.heap.get? C = none → D ≠ C → s'.heap.Ns C m' → s'.heap.get? D = some { cls := .type "list", data := .seq (List.toArray ws) n } → RepAll g' ws (fz.filterMap id) →
      g'.get? D = none → g'.get? C = none → RR (.ref D) C (.ok .next) s') :
    wpAny X.M A (pyIter xv) (fun it s₂ => wpAny X.M A (newList []) (fun acc s₃ => wpAny X.M A (newFunctionEnv scope env.globals cl [] env.qual none .none (some env)) (fun cenv s₄ =>
      codeAny X.M A (.compStart (.ListComp elt [⟨tg, iter, ifs, 0⟩] scope pos) 0 it acc { cenv with scope := relabel scope env }) (RR acc cenv.locals) s₄) E s₃) E s₂) E s1 := by
  refine wpAny_mono (hit A E r) (fun it s2 ⟨k2, I, fp, wr, P, St, e, W⟩ => ?_) fun _ _ y => y
  subst e
  have sub12 := kp_sub k2
  refine wpAny_newObj_type (wpAny_newFunctionEnv c.nocell (by intro y hy; simp at hy) (fun h₁ hns₁ hsb₁ => ?_) c.kind)
  dsimp only at hns₁ hsb₁ ⊢
  generalize hH2 : s2.heap.push { cls := .type "list", dict := none, data := .seq ([] : List Value).toArray } = H2 at hns₁ hsb₁ ⊢
  have hC : H2.objs.size = s2.heap.objs.size + 1 := by rw [← hH2, Heap.size_push]
  generalize hD' : s2.heap.objs.size = D at *
  generalize hC' : H2.objs.size = C at *
  have hDC : D ≠ C := by omega
  have below : ∀ b, b < D → b ≠ C ∧ b ≠ D := fun b hb => ⟨by rw [hC]; exact Nat.ne_of_lt (Nat.lt_succ_of_lt hb), Nat.ne_of_lt hb⟩
  have hDf : D ∉ fp := fun hm => Nat.lt_irrefl _ (hD' ▸ W.low _ hm)
  have hCf : C ∉ fp := fun hm => by have := W.low _ hm; rw [hD', hC] at this; exact Nat.lt_irrefl _ (Nat.lt_of_succ_lt this)
  have old : Sub s2.heap h₁ := fun b ob e => hsb₁.extBut b ob (below b (hD' ▸ Heap.lt_size e)).1 (Heap.get?_push_of_some _ (hH2 ▸ Heap.get?_push_of_some _ e))
  have hacc : h₁.get? D = some { cls := .type "list", data := .seq (List.toArray []) 0 } := hsb₁.extBut _ _ hDC (Heap.get?_push_of_some _ (hH2 ▸ hD' ▸ Heap.get?_push_size _ rfl))
  have fresh2 : ∀ a, D ≤ a → s2.heap.get? a = none := fun a ha => by
    cases e : s2.heap.get? a with
    | none => rfl
    | some o' => exact absurd (Heap.lt_size e) (Nat.not_lt.mpr (hD' ▸ ha))
  have fresh1 : ∀ a, D ≤ a → s1.heap.get? a = none := fun a ha => by
    cases e : s1.heap.get? a with
    | none => rfl
    | some o' => have := sub12 _ _ e; rw [fresh2 a ha] at this; cases this
  have hst₁ : St 0 h₁ := (W.walks A r.hh).frame _ _ _ W.start fun b _ ob e => old b ob e
  have oc : EnvOk (compEnvC scope cl C env) (relabelS scope sc) := compEnv_ok o c hcl
  have none1 : ∀ {g' : Heap}, (∀ b ob, g'.get? b = some ob → g1.get? b = some ob ∨ s1.heap.get? b = none) → True := fun _ => trivial
  have g1none : ∀ a, s1.heap.get? a = none → g1.get? a = none := fun a ha => by
    cases e : g1.get? a with
    | none => rfl
    | some o' => have := q.sub _ _ e; rw [ha] at this; cases this
  obtain ⟨h2', t2, e2, kp2⟩ := k2
  have loop : ∀ s₃ : Shared, (∃ tk, s₃ = { s2 with heap := h₁, toks := tk }) →
      codeAny X.M A (.compLoop (.ListComp elt [⟨tg, iter, ifs, 0⟩] scope pos) 0 (.ref I) (.ref D) (compEnvC scope cl C env)) (RR (.ref D) C) s₃ := by
    rintro s₃ ⟨tk₃, rfl⟩
    refine compLoop_any (fun n s' => ∃ i ws ep g' m', n = ds.length - i ∧ i ≤ ds.length ∧ ws.length ≤ i ∧ Keeps s1 s' ∧ Step g1 s1.heap g' s'.heap ∧ s'.heap.Ns C m' ∧ s'.heap.get? D = some { cls := .type "list", data := .seq (List.toArray ws) ep } ∧
      RepAll g' ws ((fz.take i).filterMap id) ∧ g'.get? D = none ∧ g'.get? C = none ∧ (∀ b ∈ wr, g'.get? b = none) ∧ St i s'.heap) ?_ ds.length
      ⟨0, [], 0, g1, _, rfl, Nat.zero_le _, Nat.le_refl _, ?_, ⟨.rfl, sub12.trans old, q.sub.trans (sub12.trans old), fun _ _ e => .inl e⟩, hns₁, hacc, .nil, g1none D (fresh1 D (Nat.le_refl _)), g1none C (fresh1 C (by omega)), fun b hb => g1none b (W.fresh b hb), hst₁⟩
    · rintro n s' ⟨i, ws, ep, g', m', rfl, hi, hwl, ks, x1, ns, hD1, hr, gD, gC, gw, hst⟩
      have hCw : C ∉ wr := fun h => hCf ((W.walks A r.hh).sub _ h)
      have hDw : D ∉ wr := fun h => hDf ((W.walks A r.hh).sub _ h)
      rcases Nat.lt_or_ge i ds.length with hlt | hge
      · refine (W.walks A r.hh).item i s' _ _ hlt hst fun v h' tk hP hst' hk' => ?_
        obtain ⟨d, hd1, hrv⟩ := W.item i v hP
        have x2 : Step g1 s1.heap g' h' := ⟨x1.gg, fun b ob e => hk' b ob (fun z => by rw [W.fresh b z] at e; cases e) (x1.hh _ _ e), fun b ob e => hk' b ob (fun z => by rw [gw b z] at e; cases e) (x1.gh _ _ e), x1.new⟩
        refine W.own (i + 1) A _ tg v { s' with heap := h', toks := tk } _ hst' ?_
        have C1 : s1.heap.get? C = none := fresh1 C (by omega)
        refine asg A _ env cl C g1 g' s1 { s' with heap := h', toks := tk } v d m' _ r o c cp hcl q x2 (ns.at' fun ob e => hk' _ ob hCw e) gC C1 (hrv.sub x1.gg) (List.mem_of_getElem? hd1) fun m₂ h₂ tk₂ up2 hn₂ q3 => ?_
        have x3 : Step g1 s1.heap g' h₂ := ⟨x2.gg, fun b ob e => up2 b ob (fun z => by rw [z, C1] at e; cases e) (x2.hh _ _ e), fun b ob e => up2 b ob (fun z => by rw [z, gC] at e; cases e) (x2.gh _ _ e), x2.new⟩
        have ks3 : Keeps s1 { s' with heap := h₂, toks := tk₂ } := by
          obtain ⟨ha, ta, rfl, _⟩ := ks
          exact ⟨h₂, _, rfl, x3.hh⟩
        have hst₂ : St (i + 1) h₂ := (W.walks A r.hh).frame _ _ _ hst' fun b hb ob e => up2 b ob (fun z => hCf (z ▸ hb)) e
        have hD2 : h₂.get? D = some { cls := .type "list", data := .seq (List.toArray ws) ep } := up2 _ _ hDC (hk' _ _ hDw hD1)
        have hfi : i < fz.length := by rw [el.len]; exact hlt
        cases hfz : fz[i]? with
        | none => rw [List.getElem?_eq_none_iff] at hfz; omega
        | some f =>
          have htake : (fz.take (i + 1)).filterMap id = (fz.take i).filterMap id ++ f.toList := by
            rw [List.take_add_one, hfz, List.filterMap_append]
            cases f <;> simp
          cases f with
          | none =>
            refine wp_seq (wp_tests (el.none_ i d hd1 hfz) r oc (bs.trans x1.gg) q3) fun ok s4 ⟨e, k4, g4, x4⟩ => ?_
            subst e
            simp only [Bool.false_eq_true, if_false]
            refine ⟨ds.length - (i + 1), by omega, i + 1, ws, ep, g4, _, rfl, hlt, by omega, kp_trans ks3 k4, x3.trans x4, hn₂.keeps (kp_sub k4), kp_sub k4 _ _ hD2, ?_, x4.out gD (by rw [hD2]; rfl), x4.out gC ?_, fun b hb => x4.out (gw b hb) ?_, ?_⟩
            · rw [htake]; simpa using hr.sub x4.gg
            · obtain ⟨ob, _, _, ho, _⟩ := hn₂; have ho' : h₂.get? C = some ob := ho; show (h₂.get? C).isSome = true; rw [ho']; rfl
            · exact W.live _ _ hst₂ b hb
            · exact (W.walks A r.hh).frame _ _ _ hst₂ fun b _ ob e => kp_sub k4 _ _ e
          | some y =>
            obtain ⟨t1, t2⟩ := el.some_ i d y hd1 hfz
            refine wp_seq (wp_tests t1 r oc (bs.trans x1.gg) q3) fun ok s4 ⟨e, k4, g4, x4⟩ => ?_
            subst e
            simp only [if_true]
            refine wp_ev (t2 A _ g4 s4 _ r oc ((bs.trans x1.gg).trans x4.gg) (q3.step x4)) fun u g5 s5 k5 x5 r5 => ?_
            have x45 := x4.trans x5
            have hD5 : s5.heap.get? D = some { cls := .type "list", data := .seq (List.toArray ws) ep } := x45.hh _ _ hD2
            refine wpAny_list_append_plain (items := ws.toArray) ⟨ep, hD5⟩ (fun h₆ hl₆ hs₆ => ?_) (by rw [List.size_toArray]; omega)
            have up6 : ∀ b ob, b ≠ D → s5.heap.get? b = some ob → h₆.get? b = some ob := fun b ob hb e => hs₆.extBut b ob hb e
            have gD5 : g5.get? D = none := x45.out gD (by rw [hD2]; rfl)
            have D1 : s1.heap.get? D = none := fresh1 D (Nat.le_refl _)
            have x6 : Step g1 s1.heap g5 h₆ := ⟨(x3.trans x45).gg, fun b ob e => up6 b ob (fun z => by rw [z, D1] at e; cases e) ((x3.trans x45).hh _ _ e), fun b ob e => up6 b ob (fun z => by rw [z, gD5] at e; cases e) (x45.gh _ _ e), (x3.trans x45).new⟩
            obtain ⟨ep', hl₆'⟩ := hl₆
            refine ⟨ds.length - (i + 1), by omega, i + 1, ws ++ [u], ep', g5, _, rfl, hlt, by rw [List.length_append, List.length_singleton]; omega, ?_, x6, ((hn₂.keeps (kp_sub k4)).keeps (kp_sub k5)).at' fun ob e => up6 _ _ (Ne.symm hDC) e, by simpa using hl₆', ?_, gD5, x45.out gC ?_, fun b hb => x45.out (gw b hb) ?_, ?_⟩
            · obtain ⟨ha, ta, e5, _⟩ := kp_trans ks3 (kp_trans k4 k5)
              exact ⟨h₆, ta, by rw [e5], x6.hh⟩
            · rw [htake]
              exact (RepAll.one r5).append (hr.sub x45.gg)
            · obtain ⟨ob, _, _, ho, _⟩ := hn₂; have ho' : h₂.get? C = some ob := ho; show (h₂.get? C).isSome = true; rw [ho']; rfl
            · exact W.live _ _ hst₂ b hb
            · exact (W.walks A r.hh).frame _ _ _ hst₂ fun b hb ob e => up6 b ob (fun z => hDf (z ▸ hb)) (x45.hh _ _ e)
      · have hin : i = ds.length := by omega
        subst hin
        refine (W.walks A r.hh).done s' _ _ hst fun h' tk hk' => ?_
        have hfull : (fz.take ds.length).filterMap id = fz.filterMap id := by rw [← el.len, List.take_length]
        rw [hfull] at hr
        refine hRR D C _ g' m' ws ep ?_ ⟨x1.gg, fun b ob e => hk' b ob (fun z => by rw [W.fresh b z] at e; cases e) (x1.hh _ _ e), fun b ob e => hk' b ob (fun z => by rw [gw b z] at e; cases e) (x1.gh _ _ e), x1.new⟩ (fresh1 D (Nat.le_refl _)) (fresh1 C (by omega)) hDC (ns.at' fun ob e => hk' _ ob hCw e) (hk' _ _ hDw hD1) hr gD gC
        obtain ⟨ha, ta, rfl, _⟩ := ks
        exact ⟨h', tk, rfl, fun b ob e => hk' b ob (fun z => by rw [W.fresh b z] at e; cases e) (x1.hh _ _ e)⟩
    · subst e2
      exact ⟨h₁, tk₃, rfl, fun b ob e => old _ _ (kp2 b ob e)⟩
  exact codeAny_compStart_list (loop _ ⟨_, rfl⟩) ((W.walks A r.hh).self 0 _ _ _ hst₁ (loop _ ⟨_, rfl⟩))
end
end Mine

namespace Mine
open PySem PySem.W PyProof.Rows PySem.Calls
set_option Elab.async false
set_option maxRecDepth 100000
set_option linter.unusedVariables false
section
variable {X : Cx} {k : Nat} {sc scope : Scope} {τ cap : Sto}

theorem closure_ok {env : Env} (o : EnvOk env sc) (c : CompOk sc scope) : ∃ cl, closureFor scope env = pure cl ∧ ∀ n, (n, NameKind.free) ∈ scope.names → cl.lookup n = env.cells.lookup n :=
  closureFor_of fun y hy hf => o.cells _ (c.free y hy hf)

theorem plain_rep {g h : Heap} {D : Addr} {ws : List Value} {ds : List Dat} {n : Nat} (e : h.get? D = some { cls := .type "list", data := .seq (List.toArray ws) n }) (r : RepAll g ws ds) (k : Sub g h) : Rep (withObj g h D) (.ref D) (.list ds) :=
  .list ⟨n, withObj_self e⟩ (r.sub (withObj_sub k))
theorem step_with {g1 h1 g h : Heap} {D : Addr} (x : Step g1 h1 g h) (d : h1.get? D = none) : Step g1 h1 (withObj g h D) h :=
  ⟨x.gg.trans (withObj_sub x.gh), x.hh, withObj_in, fun b o e => by
    by_cases q : b = D
    · subst q; exact .inr d
    · cases z : g.get? b with
      | some o' =>
        have h1 := withObj_sub (a := D) x.gh _ _ z
        rw [e] at h1; cases h1
        exact x.new b o z
      | none => rw [withObj_other z q] at e; cases e⟩
theorem step_but {g1 h1 g h h' : Heap} {C : Addr} (x : Step g1 h1 g h) (c : h1.get? C = none) (gc : g.get? C = none) (s : Heap.SameBut C h h') : Step g1 h1 g h' :=
  ⟨x.gg, fun b o e => s.extBut b o (fun z => by rw [z, c] at e; cases e) (x.hh b o e), fun b o e => s.extBut b o (fun z => by rw [z, gc] at e; cases e) (x.gh b o e), x.new⟩

theorem Ev.compG {tg : Expr} {bd : Dat → Sto} {pos : Pos} {elt iter : Expr} {ifs : List Expr} {ds : List Dat} {fz : List (Option Dat)} (hit : Its X k sc τ iter ds) (cap : Sto) (c : CompOk sc scope) (cp : Caps sc scope τ cap) (asg : AsgOk X k sc scope τ cap tg bd ds)
    (el : EltsG X k sc scope cap bd ifs elt ds fz) (hz : ds.length ≤ sizeLine) : Ev X k sc τ (.ListComp elt [⟨tg, iter, ifs, 0⟩] scope pos) (.list (fz.filterMap id)) := by
  intro A env g s E r o b q
  obtain ⟨cl, hcl, hcl2⟩ := closure_ok o c
  rw [eval_ListComp]
  refine wpAny_comprehension_free (use := none) rfl (hit.2 env) hcl c.kind c.names (wp_ev (hit.1 A env g s E r o b q) fun xv g1 s1 k1 x1 p1 => ?_)
  refine comp_core (RR := fun acc C => compPost X.M A E none (Post g s fun g v => Rep g v (.list (fz.filterMap id))) acc C) r o c cp hcl2 asg (b.trans x1.gg) (q.step x1) (p1 s1 x1.gh) el hz ?_
  intro D C s' g' m' ws n k2 x2 hD hC hDC ns eD rp gD gC
  refine ⟨m', ns, fun h' hs => ?_⟩
  have eD' : h'.get? D = some { cls := .type "list", data := .seq (List.toArray ws) n } := hs.extBut _ _ hDC eD
  have x3 : Step g1 s1.heap g' h' := step_but x2 hC gC hs
  have x4 := step_with x3 hD
  refine ⟨?_, withObj g' h' D, x1.trans x4, plain_rep eD' rp x3.gh⟩
  obtain ⟨ha, ta, rfl, _⟩ := kp_trans k1 k2
  exact ⟨h', ta, rfl, (x1.trans x4).hh⟩

theorem Ev.comp {x : Str} {px pos : Pos} {elt iter : Expr} {ifs : List Expr} {ds : List Dat} {fz : List (Option Dat)} (hit : Its X k sc τ iter ds) (cap : Sto) (c : CompOk sc scope) (cp : Caps sc scope τ cap) (hx : scope.names.lookup x = some .local)
    (el : Elts X k sc scope cap x ifs elt ds fz) (hz : ds.length ≤ sizeLine) : Ev X k sc τ (.ListComp elt [⟨.Name x px, iter, ifs, 0⟩] scope pos) (.list (fz.filterMap id)) := Ev.compG hit cap c cp (asg_name hx) el hz

end
end Mine

namespace Mine
open PySem PySem.W PyProof.Rows PySem.Calls
set_option Elab.async false
set_option maxRecDepth 100000
set_option linter.unusedVariables false

def chars (x : Str) : List Dat := x.cps.toList.map fun c => .str ⟨#[c]⟩

section
variable {X : Cx} {k : Nat} {sc : Scope} {τ : Sto} {s₀ s : Shared} {g₀ g : Heap} {env : Env} {H : List (Addr × Obj)} {m cm : Str → Option Value}

/-- a, b = (u, v) out of a tuple -/
theorem wp_assign2 {A : Around} {E : Value → Shared → Prop} {a b : Str} {pa pb pos : Pos} {n : Nat} {T : Addr} {u v : Value} {d e : Dat} {Q : Unit → Shared → Prop} (F : FS s₀ g₀ env H τ g m cm s) (o : EnvOk env sc) (r : Room A k) (ht : s.heap.IsTuple T #[u, v])
    (hu : Rep g u d) (hv : Rep g v e) (ha : canStore sc a = true) (hb : canStore sc b = true) (h : ∀ m' cm' s', FS s₀ g₀ env H (upd b (.dat e) (upd a (.dat d) τ)) g m' cm' s' → Q () s') :
    wpAny X.M A (PySem.assign (.Tuple [.Name a pa, .Name b pb] n pos) env (.ref T)) Q E s := by
  refine wpAny_assign_Tuple r.hh ht (by rfl) (by rfl) fun h' hx => ?_
  have k1 : Keeps s { s with heap := h' } := ⟨h', s.toks, rfl, fun b ob e => hx b ob (Nat.ne_of_lt (Heap.lt_size e)) e⟩
  have F1 := F.ev k1 ⟨.rfl, kp_sub k1, F.st.gh.trans (kp_sub k1), fun _ _ e => .inl e⟩
  show wpAny X.M A (assignInOrder [PySem.assign (.Name a pa) env, PySem.assign (.Name b pb) env] [u, v]) Q E _
  refine wpAny_assignInOrder_more (wpAny_assign_Name (wp_store (lv := .dat d) F1 o ha (o.cells a) hu trivial fun m2 cm2 s2 F2 => ?_))
  refine wpAny_assignInOrder_more (wpAny_assign_Name (wp_store (lv := .dat e) F2 o hb (o.cells b) hv trivial fun m3 cm3 s3 F3 => ?_))
  exact wpAny_assignInOrder_none (h m3 cm3 s3 F3)

/-- what enumerate makes of a value -/
structure Enum (X : Cx) (g : Heap) (s₂ : Shared) (old : Heap) (e it : Addr) (ds : List Dat) (fp : List Addr) (P : Nat → Value → Prop) (St : Nat → Heap → Prop) : Prop where
  draws : ∀ A', A'.handled = none → Draws X.prog X.w A' it fp ds.length P St
  start : St 0 s₂.heap
  enum : IsEnum s₂.heap e it 0 .none
  hei : e ≠ it
  hef : e ∉ fp
  hif : it ∈ fp
  fe : old.get? e = none
  fi : old.get? it = none
  foot : ∀ b ∈ fp, b = it ∨ (g.get? b).isSome
  item : ∀ i v, P i v → ∃ d, ds[i]? = some d ∧ Rep g v d
def EnumOf (X : Cx) (k : Nat) (g : Heap) (s : Shared) (xv : Value) (ds : List Dat) : Prop :=
  ∀ (A : Around) (E : Value → Shared → Prop), Room A k → wpAny X.M A (call (.type "enumerate") [xv]) (fun v s₂ => Keeps s s₂ ∧ ∃ e it fp P St, v = .ref e ∧ Enum X g s₂ s.heap e it ds fp P St) E s

theorem enumOf_str {x : Str} {t : Tok} (kk : Sub g s.heap) : EnumOf X k g s (.str x t) (chars x) := by
  intro A E rm
  have hn : (chars x).length = x.cps.size := by simp [chars]
  refine call_enumerate_str fun h' he hit hsz hk => ⟨⟨h', s.toks, rfl, hk⟩, s.heap.objs.size + 1, s.heap.objs.size, [s.heap.objs.size], (fun i v => ∃ c u, x.cps[i]? = some c ∧ v = .str ⟨#[c]⟩ u), (fun i h => h.IsStrIter s.heap.objs.size (strIterType x) x t i), rfl, ?_⟩
  have big : s.heap.get? (s.heap.objs.size + 1) = none := by
    cases z : s.heap.get? (s.heap.objs.size + 1) with
    | none => rfl
    | some o' => exact absurd (Heap.lt_size z) (Nat.not_lt.mpr (Nat.le_succ _))
  exact {
    draws := fun A' hA => by
      rw [hn]
      cases ha : x.cps.all (· < 128)
      · have e : strIterType x = "str_iterator" := by simp [strIterType, ha]
        rw [e]; exact Draws.strWide hA _ x t
      · have e : strIterType x = "str_ascii_iterator" := by simp [strIterType, ha]
        rw [e]; exact Draws.strAscii hA _ x t
    start := hit
    enum := he
    hei := by intro q; exact absurd q (Nat.succ_ne_self _)
    hef := fun q => absurd (List.mem_singleton.mp q) (Nat.succ_ne_self _)
    hif := by simp
    fe := big
    fi := fresh_size
    foot := fun b hb => .inl (List.mem_singleton.mp hb)
    item := fun i v hv => by
      obtain ⟨c, u, hc, rfl⟩ := hv
      exact ⟨.str ⟨#[c]⟩, by simp [chars, hc], .str _ _⟩ }

/-- for i, c in enumerate(e) -/
theorem Ex.forEnum {xi xc f : Str} {pi pc pt pf pcall pos : Pos} {nt : Nat} {e : Expr} {body : List Stmt} {ds : List Dat} {R : Out → Prop} (hf : EvP X k sc τ (.Name f pf) fun _ u => u = .type "enumerate") {d0 : Dat} (he : Ev X k sc τ e d0)
    (hen : ∀ g s v, Sub g s.heap → Rep g v d0 → EnumOf X k g s v ds) (Inv : Nat → Sto → Prop) (h0 : Inv 0 τ)
    (turn : ∀ i τ' d, ds[i]? = some d → Inv i τ' → Ex X k sc (upd xc (.dat d) (upd xi (.dat (.int i)) τ')) (execs body) (Turn (Inv (i + 1)) R)) (done : ∀ τ', Inv ds.length τ' → R (.next τ'))
    (hx : canStore sc xi = true := by rfl) (hx2 : canStore sc xc = true := by rfl) (hp : plainE e = true := by rfl)
    (hs : ∀ env x, foldedSetIterable (.Call (.Name f pf) [e] [] pcall) env x = pure x := by intro _ _; rfl) :
    Ex X k sc τ (exec (.For (.Tuple [.Name xi pi, .Name xc pc] nt pt) (.Call (.Name f pf) [e] [] pcall) body [] pos)) R := by
  intro A env s₀ g₀ H g m cm s E r o b F
  refine wpAny_For (wpAny_Call_NameR (wp_ev (hf A env g s E r o (b.trans F.st.gg) F.sto) fun u g1 s1 k1 x1 p1 => ?_)) (hs env)
  subst p1
  have F1 := F.ev k1 x1
  refine callWith_of (P := fun h => True) (by rw [plain_any pcall env (es := [e]) (by rw [List.all_cons, hp]; rfl)]; rfl) (fun h _ => ⟨.machine, .inr (.inl rfl), Looks.of_pure rfl⟩)
    (evalArgs_evs (EvL.cons he .nil hp) r o (b.trans F1.st.gg) F1.sto fun vs g2 s2 k2 x2 p2 => ⟨trivial, ?_⟩)
  have F2 := F1.ev k2 x2
  cases p2 with
  | cons p2 pn =>
    rename_i v0 vs0
    cases pn
    refine wpAny_mono (hen g2 s2 v0 x2.gh p2 A E r) (fun ev s3 ⟨k3, e3, it, fp, P, St, hev, W⟩ => ?_) fun _ _ y => y
    subst hev
    have x3 : Step g2 s2.heap g2 s3.heap := ⟨.rfl, kp_sub k3, x2.gh.trans (kp_sub k3), fun _ _ e => .inl e⟩
    have F3' := F2.ev k3 x3
    refine wpAny_pyIter_enum W.enum ?_
    have fresh : ∀ b ∈ [e3, it], s2.heap.get? b = none := by
      intro b hb
      rcases List.mem_cons.mp hb with rfl | hb
      · exact W.fe
      · rw [List.mem_singleton.mp hb]; exact W.fi
    have hd : ∀ p ∈ H, p.1 ∉ [e3, it] := fun p hp q => by
      have := (F2.hold p hp).1
      rw [fresh _ q] at this; cases this
    have F2' : FS s₀ g₀ env H τ g2 m cm { s3 with heap := s2.heap } := by
      obtain ⟨h', tk, rfl, kp⟩ := k3
      exact F2.tok
    have F3 := F3'.more F2' fresh fun b hb => by
      cases z : g2.get? b with
      | none => rfl
      | some o' => have := x2.gh _ _ z; rw [fresh b hb] at this; cases this
    have WT : ∀ A', A'.handled = none → WalksT X.prog X.w A' e3 (e3 :: fp) [e3, it] ds.length _ _ _ := fun A' hA => WalksT.enumerateD (W.draws A'.in1 hA) e3 W.hei W.hef W.hif
    have foot : ∀ b ∈ e3 :: fp, b ∈ [e3, it] ∨ (g2.get? b).isSome := by
      intro b hb
      rcases List.mem_cons.mp hb with rfl | hb
      · exact .inl (by simp)
      · rcases W.foot b hb with rfl | q
        · exact .inl (by simp)
        · exact .inr q
    have live : ∀ (i : Nat) (h : Heap), ((∃ old, IsEnum h e3 it i old) ∧ St i h) → ∀ b ∈ [e3, it], (h.get? b).isSome := by
      rintro i h ⟨⟨old, he⟩, hst⟩ b hb
      rcases List.mem_cons.mp hb with rfl | hb
      · have he' : h.get? b = _ := he
        rw [he']; rfl
      · rw [List.mem_singleton.mp hb]
        obtain ⟨ob, ho⟩ := (W.draws A r.hh).live _ _ hst
        rw [ho]; rfl
    refine codeAny_forLoop_any (fun n s' => ∃ i τ' g' m' cm', n = ds.length - i ∧ i ≤ ds.length ∧ Inv i τ' ∧ FS s₀ g₀ env (objsAt [e3, it] s'.heap ++ H) τ' g' m' cm' s' ∧ ((∃ old, IsEnum s'.heap e3 it i old) ∧ St i s'.heap) ∧ Sub g2 g') ?_ ds.length ⟨0, τ, g2, m, cm, rfl, Nat.zero_le _, h0, F3, ⟨⟨_, W.enum⟩, W.start⟩, .rfl⟩
    rintro n s4 ⟨i, τ', g', m', cm', rfl, hi, hI, F4, hst, hg1⟩
    have hlv := live i _ hst
    rcases Nat.lt_or_ge i ds.length with hlt | hge
    · refine (WT A r.hh).item i s4 _ _ hlt hst fun T vals h' tk hP hTn hT hmid hk' => ?_
      have F5 := F4.wrote (tk := tk) hd hlv hk'
      obtain ⟨t, xv, hPx, rfl⟩ := hP
      obtain ⟨d, hd1, hr⟩ := W.item i xv hPx
      have hTw := (WT A r.hh).apart _ _ _ hmid
      have hlv5 : ∀ b ∈ [e3, it], (h'.get? b).isSome := by
        obtain ⟨⟨xx, ho⟩, hs1, _, _⟩ := hmid
        intro b hb
        rcases List.mem_cons.mp hb with rfl | hb
        · have ho' : h'.get? b = _ := ho
          rw [ho']; rfl
        · rw [List.mem_singleton.mp hb]
          obtain ⟨ob, ho⟩ := (W.draws A r.hh).live _ _ hs1
          rw [ho]; rfl
      refine (WT A r.hh).go _ _ _ i T { s4 with heap := h', toks := tk } _ _ hmid fun h'' hst' hk'' => ?_
      have F6 := F5.wrote (tk := tk) (s := { s4 with heap := h', toks := tk }) hd hlv5 hk''
      have hT6 : h''.IsTuple T #[.int i t, xv] := let ⟨ob, ho, rr⟩ := hT; ⟨ob, hk'' _ _ hTw ho, rr⟩
      refine wp_assign2 F6 o r hT6 (.int i t) (hr.sub hg1) hx hx2 fun m7 cm7 s7 F7 => ?_
      have same : ∀ {s6 : Shared} {τ6 g6 m6 cm6}, FS s₀ g₀ env (objsAt [e3, it] h'' ++ H) τ6 g6 m6 cm6 s6 → Sub g2 g6 → FS s₀ g₀ env (objsAt [e3, it] s6.heap ++ H) τ6 g6 m6 cm6 s6 ∧ ((∃ old, IsEnum s6.heap e3 it (i + 1 : Nat) old) ∧ St (i + 1) s6.heap) := by
        intro s6 τ6 g6 m6 cm6 F8 hg6
        have hat : ∀ c ∈ [e3, it], s6.heap.get? c = h''.get? c := by
          intro c hc
          obtain ⟨ob, hob⟩ := Option.isSome_iff_exists.mp (live _ _ hst' c hc)
          rw [hob]
          exact (F8.hold (c, ob) (List.mem_append_left _ (mem_objsAt.mpr ⟨hc, hob⟩))).1
        refine ⟨F8.less fun p hp => ?_, (WT A r.hh).frame _ _ _ hst' fun c hc ob e => ?_⟩
        · rcases List.mem_append.mp hp with hp | hp
          · obtain ⟨q1, q2⟩ := mem_objsAt.mp hp
            exact List.mem_append_left _ (mem_objsAt.mpr ⟨q1, by rw [← hat _ q1]; exact q2⟩)
          · exact List.mem_append_right _ hp
        · rcases foot c hc with hw | hg
          · rw [hat c hw]; exact e
          · obtain ⟨ob', hg⟩ := Option.isSome_iff_exists.mp hg
            have e1 : h''.get? c = some ob' := F6.st.gh _ _ (hg1 _ _ hg)
            rw [e] at e1; cases e1
            exact F8.st.gh _ _ (hg6 _ _ hg)
      have F7b := F7.base
      refine wpAny_mono (turn i τ' d hd1 hI A env s₀ _ (objsAt [e3, it] h'' ++ H) _ m7 cm7 s7 _ r o (b.trans F7.st.gg) F7b) (fun f s6 x => ?_) fun _ _ y => y
      cases f with
      | next =>
        obtain ⟨τ6, g6, m6, cm6, rr, F8⟩ := x
        obtain ⟨a1, a2⟩ := same (F8.unbase F7.st) (hg1.trans F8.st.gg)
        exact ⟨ds.length - (i + 1), by omega, i + 1, τ6, g6, m6, cm6, rfl, hlt, rr, a1, a2, hg1.trans F8.st.gg⟩
      | cont =>
        obtain ⟨τ6, g6, m6, cm6, rr, F8⟩ := x
        obtain ⟨a1, a2⟩ := same (F8.unbase F7.st) (hg1.trans F8.st.gg)
        exact ⟨ds.length - (i + 1), by omega, i + 1, τ6, g6, m6, cm6, rfl, hlt, rr, a1, a2, hg1.trans F8.st.gg⟩
      | brk =>
        obtain ⟨τ6, g6, m6, cm6, rr, F8⟩ := x
        exact ⟨τ6, g6, m6, cm6, rr, (F8.unbase F7.st).less fun p hp => List.mem_append_right _ hp⟩
      | ret v =>
        obtain ⟨d6, g6, rr, k6, x6, r6⟩ := x
        exact ⟨d6, g6, rr, k6, step_base F7.st x6, r6⟩
    · have hin : i = ds.length := by omega
      subst hin
      refine (WT A r.hh).done s4 _ _ hst fun h' tk hk' => ?_
      have F5 := F4.wrote (tk := tk) hd hlv hk'
      exact wpAny_execs_nil ⟨τ', g', m', cm', done τ' hI, F5.less fun p hp => List.mem_append_right _ hp⟩
end
end Mine

namespace Mine
open PySem PySem.W PyProof.Rows PySem.Calls
set_option Elab.async false
set_option maxRecDepth 100000
set_option linter.unusedVariables false

/-- a comparison of the items of a walk, wherever g stands -/
def CmpG (X : Cx) (k : Nat) (op : CmpOp) (g : Heap) (P : Nat → Value → Prop) (bt : Nat → Nat → Bool) : Prop :=
  ∀ (A : Around) (i j : Nat) (vi vj : Value) (s : Shared) (Q : Value → Shared → Prop) (E : Value → Shared → Prop), Room A k → Sub g s.heap → P i vi → P j vj → Q (.bool (bt i j)) s → wpAny X.M A (richCompare op vi vj) Q E s
theorem CmpG.in1 {X : Cx} {k : Nat} {op : CmpOp} {g : Heap} {P : Nat → Value → Prop} {bt : Nat → Nat → Bool} (h : CmpG X k op g P bt) : CmpG X (k + 1) op g P bt := fun A i j vi vj s Q E r => h A i j vi vj s Q E (r.le (Nat.le_succ _))

section
variable {X : Cx} {k : Nat} {A : Around} {R : Result → Shared → Prop} {g : Heap} {I S : Addr} {fp wr : List Addr} {n : Nat} {P : Nat → Value → Prop} {St : Nat → Heap → Prop}

theorem max_turns (rm : Room A (k + 1)) (W : Walks X.prog X.w A.in1 I fp wr n P St) (bt : Nat → Nat → Bool) (hc : CmpG X k .Gt g P bt) (hS : S ∉ fp) (gS : g.get? S = none) (gw : ∀ b ∈ wr, g.get? b = none) :
    ∀ (todo j : Nat) (s : Shared) (best : Value) (ep : Nat), todo = n - (j + 1) → j < n → Sub g s.heap → St (j + 1) s.heap → P (argBest bt j) best →
    s.heap.get? S = some { cls := .type "list", dict := none, data := .seq #[best, best] ep, slots := #[] } →
    (∀ v h' tk, P (argBest bt (n - 1)) v → (∀ b o, b ∉ wr → b ≠ S → s.heap.get? b = some o → h'.get? b = some o) → R (.ok (.ret v)) { s with heap := h', toks := tk }) →
    codeAny X.M A (.builtin "max.loop" ⟨[.ref I, .none, .ref S], []⟩) R s := by
  have nm : (toString "max" ++ toString ".loop" : String) = "max.loop" := by decide
  have Sw : S ∉ wr := fun q => hS (W.sub _ q)
  intro todo
  induction todo with
  | zero =>
    intro j s best ep ht hj kk hst hP hs hR
    refine codeAny_builtin F.entry_max_loop ?_
    rw [Around.under_plainId F.plain_max_loop _]
    show wpAny _ A.in1 (seqItems? (.ref S) >>= _) _ _ s
    refine wpAny_bind (wpAny_seqItems hs rfl ?_)
    show wpAny _ A.in1 (tryCatch (pyNext (.ref I)) _ >>= _) _ _ s
    have hn : j + 1 = n := by omega
    refine wpAny_bind (wpAny_tryCatch (W.done s _ _ (hn ▸ hst) fun h' tk hk => ?_))
    show wpAny _ A.in1 (updateSeq S (fun _ => #[]) >>= _) _ _ _
    refine wpAny_bind (wpAny_updateSeq (hk S _ Sw hs) rfl (wpAny_bind (wpAny_letGo (wpAny_pure ?_))))
    have hn' : n - 1 = j := by omega
    exact hR best _ tk (by rw [hn']; exact hP) fun b o hb hbS e => (Heap.get?_update_other _ _ (Ne.symm hbS)).trans (hk b o hb e)
  | succ todo ih =>
    intro j s best ep ht hj kk hst hP hs hR
    refine codeAny_builtin F.entry_max_loop ?_
    rw [Around.under_plainId F.plain_max_loop _]
    show wpAny _ A.in1 (seqItems? (.ref S) >>= _) _ _ s
    refine wpAny_bind (wpAny_seqItems hs rfl ?_)
    show wpAny _ A.in1 (tryCatch (pyNext (.ref I)) _ >>= _) _ _ s
    refine wpAny_bind (wpAny_tryCatch (W.item (j + 1) s _ _ (by omega) hst fun v h' tk hPv hst' hk => ?_))
    have kk' : Sub g h' := fun b o e => hk b o (fun q => by rw [gw b q] at e; cases e) (kk b o e)
    have hs' := hk S _ Sw hs
    show wpAny _ A.in1 (tryCatch (holding [v, v] (richCompare .Gt v best >>= _)) _ >>= _) _ _ _
    refine wpAny_bind (wpAny_tryCatch (wpAny_holding (wpAny_bind (hc A.in1 (j + 1) (argBest bt j) v best _ _ _ rm.in1 kk' hPv hP ?_))))
    refine wpAny_bind (wpAny_holding (wpAny_truthy_bool ?_))
    refine wpAny_bind (wpAny_letGo (wpAny_pure ?_))
    cases hb : bt (j + 1) (argBest bt j) with
    | true =>
      simp only [if_true]
      refine wpAny_bind (wpAny_updateSeq hs' rfl (wpAny_bind (wpAny_letGo ?_)))
      rw [nm]
      refine wpAny_pure ⟨plainId_quiet F.plain_max_loop _, ih (j + 1) _ v _ (by omega) (by omega) (fun b o e => ?_) (W.frame _ _ _ hst' fun b hbf o e => ?_) (by simp only [argBest, hb, if_true]; exact hPv) (Heap.get?_update_self _ hs' rfl) fun u h'' tk'' hPu hk'' => ?_⟩
      · exact (Heap.get?_update_other _ _ (fun q => by rw [← q, gS] at e; cases e)).trans (kk' b o e)
      · exact (Heap.get?_update_other _ _ (fun q : S = b => hS (q ▸ hbf))).trans e
      · exact hR u h'' tk'' hPu fun b o hbw hbS e => hk'' b o hbw hbS ((Heap.get?_update_other _ _ (Ne.symm hbS)).trans (hk b o hbw e))
    | false =>
      simp only [Bool.false_eq_true, if_false]
      refine wpAny_bind (wpAny_letGo ?_)
      rw [nm]
      refine wpAny_pure ⟨plainId_quiet F.plain_max_loop _, ih (j + 1) _ best ep (by omega) (by omega) kk' hst' (by simp only [argBest, hb, Bool.false_eq_true, if_false]; exact hP) hs' fun u h'' tk'' hPu hk'' => ?_⟩
      exact hR u h'' tk'' hPu fun b o hbw hbS e => hk'' b o hbw hbS (hk b o hbw e)

theorem max_starts (rm : Room A (k + 1)) (W : Walks X.prog X.w A.in1 I fp wr n P St) (bt : Nat → Nat → Bool) (hc : CmpG X k .Gt g P bt) (hS : S ∉ fp) (gS : g.get? S = none) (gw : ∀ b ∈ wr, g.get? b = none) (hn : 0 < n) {s : Shared} {ep : Nat} (kk : Sub g s.heap) (hst : St 0 s.heap)
    (hs : s.heap.get? S = some { cls := .type "list", dict := none, data := .seq #[] ep, slots := #[] })
    (hR : ∀ v h' tk, P (argBest bt (n - 1)) v → (∀ b o, b ∉ wr → b ≠ S → s.heap.get? b = some o → h'.get? b = some o) → R (.ok (.ret v)) { s with heap := h', toks := tk }) :
    codeAny X.M A (.builtin "max.loop" ⟨[.ref I, .none, .ref S], []⟩) R s := by
  have nm : (toString "max" ++ toString ".loop" : String) = "max.loop" := by decide
  have Sw : S ∉ wr := fun q => hS (W.sub _ q)
  refine codeAny_builtin F.entry_max_loop ?_
  rw [Around.under_plainId F.plain_max_loop _]
  show wpAny _ A.in1 (seqItems? (.ref S) >>= _) _ _ s
  refine wpAny_bind (wpAny_seqItems hs rfl ?_)
  show wpAny _ A.in1 (tryCatch (pyNext (.ref I)) _ >>= _) _ _ s
  refine wpAny_bind (wpAny_tryCatch (W.item 0 s _ _ hn hst fun v h' tk hPv hst' hk => ?_))
  have kk' : Sub g h' := fun b o e => hk b o (fun q => by rw [gw b q] at e; cases e) (kk b o e)
  have hs' := hk S _ Sw hs
  show wpAny _ A.in1 (updateSeq S (fun _ => #[v, v]) >>= _) _ _ _
  refine wpAny_bind (wpAny_updateSeq hs' rfl ?_)
  rw [nm]
  refine wpAny_pure ⟨plainId_quiet F.plain_max_loop _, max_turns rm W bt hc hS gS gw _ 0 _ v _ rfl hn (fun b o e => ?_) (W.frame _ _ _ hst' fun b hbf o e => ?_) hPv (Heap.get?_update_self _ hs' rfl) fun u h'' tk'' hPu hk'' => ?_⟩
  · exact (Heap.get?_update_other _ _ (fun q => by rw [← q, gS] at e; cases e)).trans (kk' b o e)
  · exact (Heap.get?_update_other _ _ (fun q : S = b => hS (q ▸ hbf))).trans e
  · exact hR u h'' tk'' hPu fun b o hbw hbS e => hk'' b o hbw hbS ((Heap.get?_update_other _ _ (Ne.symm hbS)).trans (hk b o hbw e))
end

theorem max_iter {X : Cx} {k : Nat} {A : Around} {E : Value → Shared → Prop} {g : Heap} {s : Shared} {xv : Value} {ds : List Dat} {bt : Nat → Nat → Bool} (rm : Room A (k + 2)) (kk : Sub g s.heap) (hit : IterOf X k g s xv ds) (hn : 0 < ds.length)
    (hc : CmpG X k .Gt g (fun i v => ∃ d, ds[i]? = some d ∧ Rep g v d) bt) :
    wpAny X.M A (call (.builtin "max") [xv]) (Post g s fun g' v => ∃ d, ds[argBest bt (ds.length - 1)]? = some d ∧ Rep g' v d) E s := by
  have nm : (toString "max" ++ toString ".loop" : String) = "max.loop" := by decide
  refine call_function_tree F.kind_max F.plain_max F.entry_max (F.args_max1 _) ?_
  show wpAny _ A.in1 (Builtin.Builtins.bindParams "max" ["key", "default"] 0 ⟨[], []⟩ >>= _) _ _ s
  refine wpAny_bind (wpAny_of_eq (show Builtin.Builtins.bindParams "max" ["key", "default"] 0 ⟨[], []⟩ = pure [none, none] from rfl) ?_)
  refine wpAny_bind (wpAny_pure ?_)
  refine wpAny_bind (wpAny_mono (hit A.in1 E (rm.in1.le (Nat.le_succ _))) (fun it s2 ⟨k2, I, fp, wr, P, St, e, W⟩ => ?_) fun _ _ y => y)
  subst e
  refine wpAny_bind (wpAny_newObj_type ?_)
  have hSf : s2.heap.objs.size ∉ fp := fun hm => Nat.lt_irrefl _ (W.low _ hm)
  have kk2 : Sub g s2.heap := kk.trans (kp_sub k2)
  have none_of : ∀ {b}, s2.heap.get? b = none ∨ s.heap.get? b = none → g.get? b = none := by
    intro b h
    cases z : g.get? b with
    | none => rfl
    | some o =>
      rcases h with h | h
      · have := kk2 _ _ z; rw [h] at this; cases this
      · have := kk _ _ z; rw [h] at this; cases this
  rw [nm]
  refine wpAny_pure ⟨plainId_quiet F.plain_max_loop _, max_starts (k := k + 1) (g := g) rm (W.walks A.in1 rm.hh) bt (fun A' i j vi vj s' Q E' r' kk' hi hj h => hc A' i j vi vj s' Q E' (r'.le (Nat.le_succ _)) kk' (W.item i vi hi) (W.item j vj hj) h) hSf (none_of (.inl fresh_size)) (fun b hb => none_of (.inr (W.fresh b hb))) hn (kk2.trans (Sub.push .rfl _))
    ((W.walks A.in1 rm.hh).frame _ _ _ W.start fun b _ o e => Heap.get?_push_of_some _ e) (Heap.get?_push_size _ rfl) fun v h' tk hP hk => ?_⟩
  obtain ⟨d, hd, hr⟩ := W.item _ _ hP
  have sub : Sub s.heap h' := fun b o e => hk b o (fun q => by rw [W.fresh b q] at e; cases e) (Nat.ne_of_lt (Heap.lt_size (kp_sub k2 _ _ e))) (Heap.get?_push_of_some _ (kp_sub k2 _ _ e))
  refine ⟨?_, g, ⟨.rfl, sub, kk.trans sub, fun _ _ e => .inl e⟩, d, hd, hr⟩
  obtain ⟨h2, t2, rfl, _⟩ := k2
  exact ⟨h', tk, rfl, sub⟩

section
variable {X : Cx} {k : Nat} {A : Around} {R : Result → Shared → Prop} {g : Heap} {I S : Addr} {fp wr : List Addr} {n : Nat} {P : Nat → Value → Prop} {St : Nat → Heap → Prop}

theorem min_turns (rm : Room A (k + 1)) (W : Walks X.prog X.w A.in1 I fp wr n P St) (bt : Nat → Nat → Bool) (hc : CmpG X k .Lt g P bt) (hS : S ∉ fp) (gS : g.get? S = none) (gw : ∀ b ∈ wr, g.get? b = none) :
    ∀ (todo j : Nat) (s : Shared) (best : Value) (ep : Nat), todo = n - (j + 1) → j < n → Sub g s.heap → St (j + 1) s.heap → P (argBest bt j) best →
    s.heap.get? S = some { cls := .type "list", dict := none, data := .seq #[best, best] ep, slots := #[] } →
    (∀ v h' tk, P (argBest bt (n - 1)) v → (∀ b o, b ∉ wr → b ≠ S → s.heap.get? b = some o → h'.get? b = some o) → R (.ok (.ret v)) { s with heap := h', toks := tk }) →
    codeAny X.M A (.builtin "min.loop" ⟨[.ref I, .none, .ref S], []⟩) R s := by
  have nm : (toString "min" ++ toString ".loop" : String) = "min.loop" := by decide
  have Sw : S ∉ wr := fun q => hS (W.sub _ q)
  intro todo
  induction todo with
  | zero =>
    intro j s best ep ht hj kk hst hP hs hR
    refine codeAny_builtin F.entry_min_loop ?_
    rw [Around.under_plainId F.plain_min_loop _]
    show wpAny _ A.in1 (seqItems? (.ref S) >>= _) _ _ s
    refine wpAny_bind (wpAny_seqItems hs rfl ?_)
    show wpAny _ A.in1 (tryCatch (pyNext (.ref I)) _ >>= _) _ _ s
    have hn : j + 1 = n := by omega
    refine wpAny_bind (wpAny_tryCatch (W.done s _ _ (hn ▸ hst) fun h' tk hk => ?_))
    show wpAny _ A.in1 (updateSeq S (fun _ => #[]) >>= _) _ _ _
    refine wpAny_bind (wpAny_updateSeq (hk S _ Sw hs) rfl (wpAny_bind (wpAny_letGo (wpAny_pure ?_))))
    have hn' : n - 1 = j := by omega
    exact hR best _ tk (by rw [hn']; exact hP) fun b o hb hbS e => (Heap.get?_update_other _ _ (Ne.symm hbS)).trans (hk b o hb e)
  | succ todo ih =>
    intro j s best ep ht hj kk hst hP hs hR
    refine codeAny_builtin F.entry_min_loop ?_
    rw [Around.under_plainId F.plain_min_loop _]
    show wpAny _ A.in1 (seqItems? (.ref S) >>= _) _ _ s
    refine wpAny_bind (wpAny_seqItems hs rfl ?_)
    show wpAny _ A.in1 (tryCatch (pyNext (.ref I)) _ >>= _) _ _ s
    refine wpAny_bind (wpAny_tryCatch (W.item (j + 1) s _ _ (by omega) hst fun v h' tk hPv hst' hk => ?_))
    have kk' : Sub g h' := fun b o e => hk b o (fun q => by rw [gw b q] at e; cases e) (kk b o e)
    have hs' := hk S _ Sw hs
    show wpAny _ A.in1 (tryCatch (holding [v, v] (richCompare .Lt v best >>= _)) _ >>= _) _ _ _
    refine wpAny_bind (wpAny_tryCatch (wpAny_holding (wpAny_bind (hc A.in1 (j + 1) (argBest bt j) v best _ _ _ rm.in1 kk' hPv hP ?_))))
    refine wpAny_bind (wpAny_holding (wpAny_truthy_bool ?_))
    refine wpAny_bind (wpAny_letGo (wpAny_pure ?_))
    cases hb : bt (j + 1) (argBest bt j) with
    | true =>
      simp only [if_true]
      refine wpAny_bind (wpAny_updateSeq hs' rfl (wpAny_bind (wpAny_letGo ?_)))
      rw [nm]
      refine wpAny_pure ⟨plainId_quiet F.plain_min_loop _, ih (j + 1) _ v _ (by omega) (by omega) (fun b o e => ?_) (W.frame _ _ _ hst' fun b hbf o e => ?_) (by simp only [argBest, hb, if_true]; exact hPv) (Heap.get?_update_self _ hs' rfl) fun u h'' tk'' hPu hk'' => ?_⟩
      · exact (Heap.get?_update_other _ _ (fun q => by rw [← q, gS] at e; cases e)).trans (kk' b o e)
      · exact (Heap.get?_update_other _ _ (fun q : S = b => hS (q ▸ hbf))).trans e
      · exact hR u h'' tk'' hPu fun b o hbw hbS e => hk'' b o hbw hbS ((Heap.get?_update_other _ _ (Ne.symm hbS)).trans (hk b o hbw e))
    | false =>
      simp only [Bool.false_eq_true, if_false]
      refine wpAny_bind (wpAny_letGo ?_)
      rw [nm]
      refine wpAny_pure ⟨plainId_quiet F.plain_min_loop _, ih (j + 1) _ best ep (by omega) (by omega) kk' hst' (by simp only [argBest, hb, Bool.false_eq_true, if_false]; exact hP) hs' fun u h'' tk'' hPu hk'' => ?_⟩
      exact hR u h'' tk'' hPu fun b o hbw hbS e => hk'' b o hbw hbS (hk b o hbw e)

theorem min_starts (rm : Room A (k + 1)) (W : Walks X.prog X.w A.in1 I fp wr n P St) (bt : Nat → Nat → Bool) (hc : CmpG X k .Lt g P bt) (hS : S ∉ fp) (gS : g.get? S = none) (gw : ∀ b ∈ wr, g.get? b = none) (hn : 0 < n) {s : Shared} {ep : Nat} (kk : Sub g s.heap) (hst : St 0 s.heap)
    (hs : s.heap.get? S = some { cls := .type "list", dict := none, data := .seq #[] ep, slots := #[] })
    (hR : ∀ v h' tk, P (argBest bt (n - 1)) v → (∀ b o, b ∉ wr → b ≠ S → s.heap.get? b = some o → h'.get? b = some o) → R (.ok (.ret v)) { s with heap := h', toks := tk }) :
    codeAny X.M A (.builtin "min.loop" ⟨[.ref I, .none, .ref S], []⟩) R s := by
  have nm : (toString "min" ++ toString ".loop" : String) = "min.loop" := by decide
  have Sw : S ∉ wr := fun q => hS (W.sub _ q)
  refine codeAny_builtin F.entry_min_loop ?_
  rw [Around.under_plainId F.plain_min_loop _]
  show wpAny _ A.in1 (seqItems? (.ref S) >>= _) _ _ s
  refine wpAny_bind (wpAny_seqItems hs rfl ?_)
  show wpAny _ A.in1 (tryCatch (pyNext (.ref I)) _ >>= _) _ _ s
  refine wpAny_bind (wpAny_tryCatch (W.item 0 s _ _ hn hst fun v h' tk hPv hst' hk => ?_))
  have kk' : Sub g h' := fun b o e => hk b o (fun q => by rw [gw b q] at e; cases e) (kk b o e)
  have hs' := hk S _ Sw hs
  show wpAny _ A.in1 (updateSeq S (fun _ => #[v, v]) >>= _) _ _ _
  refine wpAny_bind (wpAny_updateSeq hs' rfl ?_)
  rw [nm]
  refine wpAny_pure ⟨plainId_quiet F.plain_min_loop _, min_turns rm W bt hc hS gS gw _ 0 _ v _ rfl hn (fun b o e => ?_) (W.frame _ _ _ hst' fun b hbf o e => ?_) hPv (Heap.get?_update_self _ hs' rfl) fun u h'' tk'' hPu hk'' => ?_⟩
  · exact (Heap.get?_update_other _ _ (fun q => by rw [← q, gS] at e; cases e)).trans (kk' b o e)
  · exact (Heap.get?_update_other _ _ (fun q : S = b => hS (q ▸ hbf))).trans e
  · exact hR u h'' tk'' hPu fun b o hbw hbS e => hk'' b o hbw hbS ((Heap.get?_update_other _ _ (Ne.symm hbS)).trans (hk b o hbw e))
end

theorem min_iter {X : Cx} {k : Nat} {A : Around} {E : Value → Shared → Prop} {g : Heap} {s : Shared} {xv : Value} {ds : List Dat} {bt : Nat → Nat → Bool} (rm : Room A (k + 2)) (kk : Sub g s.heap) (hit : IterOf X k g s xv ds) (hn : 0 < ds.length)
    (hc : CmpG X k .Lt g (fun i v => ∃ d, ds[i]? = some d ∧ Rep g v d) bt) :
    wpAny X.M A (call (.builtin "min") [xv]) (Post g s fun g' v => ∃ d, ds[argBest bt (ds.length - 1)]? = some d ∧ Rep g' v d) E s := by
  have nm : (toString "min" ++ toString ".loop" : String) = "min.loop" := by decide
  refine call_function_tree F.kind_min F.plain_min F.entry_min (F.args_min1 _) ?_
  show wpAny _ A.in1 (Builtin.Builtins.bindParams "min" ["key", "default"] 0 ⟨[], []⟩ >>= _) _ _ s
  refine wpAny_bind (wpAny_of_eq (show Builtin.Builtins.bindParams "min" ["key", "default"] 0 ⟨[], []⟩ = pure [none, none] from rfl) ?_)
  refine wpAny_bind (wpAny_pure ?_)
  refine wpAny_bind (wpAny_mono (hit A.in1 E (rm.in1.le (Nat.le_succ _))) (fun it s2 ⟨k2, I, fp, wr, P, St, e, W⟩ => ?_) fun _ _ y => y)
  subst e
  refine wpAny_bind (wpAny_newObj_type ?_)
  have hSf : s2.heap.objs.size ∉ fp := fun hm => Nat.lt_irrefl _ (W.low _ hm)
  have kk2 : Sub g s2.heap := kk.trans (kp_sub k2)
  have none_of : ∀ {b}, s2.heap.get? b = none ∨ s.heap.get? b = none → g.get? b = none := by
    intro b h
    cases z : g.get? b with
    | none => rfl
    | some o =>
      rcases h with h | h
      · have := kk2 _ _ z; rw [h] at this; cases this
      · have := kk _ _ z; rw [h] at this; cases this
  rw [nm]
  refine wpAny_pure ⟨plainId_quiet F.plain_min_loop _, min_starts (k := k + 1) (g := g) rm (W.walks A.in1 rm.hh) bt (fun A' i j vi vj s' Q E' r' kk' hi hj h => hc A' i j vi vj s' Q E' (r'.le (Nat.le_succ _)) kk' (W.item i vi hi) (W.item j vj hj) h) hSf (none_of (.inl fresh_size)) (fun b hb => none_of (.inr (W.fresh b hb))) hn (kk2.trans (Sub.push .rfl _))
    ((W.walks A.in1 rm.hh).frame _ _ _ W.start fun b _ o e => Heap.get?_push_of_some _ e) (Heap.get?_push_size _ rfl) fun v h' tk hP hk => ?_⟩
  obtain ⟨d, hd, hr⟩ := W.item _ _ hP
  have sub : Sub s.heap h' := fun b o e => hk b o (fun q => by rw [W.fresh b q] at e; cases e) (Nat.ne_of_lt (Heap.lt_size (kp_sub k2 _ _ e))) (Heap.get?_push_of_some _ (kp_sub k2 _ _ e))
  refine ⟨?_, g, ⟨.rfl, sub, kk.trans sub, fun _ _ e => .inl e⟩, d, hd, hr⟩
  obtain ⟨h2, t2, rfl, _⟩ := k2
  exact ⟨h', tk, rfl, sub⟩
end Mine

namespace Mine
open PySem PySem.W PyProof.Rows PySem.Calls
set_option Elab.async false
set_option maxRecDepth 100000
set_option linter.unusedVariables false

/-- the common head of two rows -/
def lcp2 : List Int → List Int → List Int
  | a :: as, b :: bs => if a = b then a :: lcp2 as bs else []
  | _, _ => []
theorem lcp2_left : ∀ (a b : List Int), lcp2 a b <+: a
  | [], b => by cases b <;> exact List.prefix_rfl
  | a :: as, [] => List.nil_prefix
  | a :: as, b :: bs => by
    unfold lcp2
    split
    · exact List.cons_prefix_cons.mpr ⟨rfl, lcp2_left as bs⟩
    · exact List.nil_prefix
theorem lcp2_right : ∀ (a b : List Int), lcp2 a b <+: b
  | [], b => by cases b <;> exact List.nil_prefix
  | a :: as, [] => List.prefix_rfl
  | a :: as, b :: bs => by
    unfold lcp2
    split
    · rename_i h; exact List.cons_prefix_cons.mpr ⟨h, lcp2_right as bs⟩
    · exact List.nil_prefix
theorem lcp2_most : ∀ {p a b : List Int}, p <+: a → p <+: b → p <+: lcp2 a b
  | [], _, _, _, _ => List.nil_prefix
  | x :: p, [], _, h, _ => by simp at h
  | x :: p, _ :: _, [], _, h => by simp at h
  | x :: p, a :: as, b :: bs, h1, h2 => by
    obtain ⟨e1, h1⟩ := List.cons_prefix_cons.mp h1
    obtain ⟨e2, h2⟩ := List.cons_prefix_cons.mp h2
    unfold lcp2
    rw [if_pos (e1.symm.trans e2)]
    exact List.cons_prefix_cons.mpr ⟨e1, lcp2_most h1 h2⟩
theorem prefix_antisymm {a b : List Int} (h1 : a <+: b) (h2 : b <+: a) : a = b := h1.eq_of_length (Nat.le_antisymm h1.length_le h2.length_le)

/-- c is the common head of all rows -/
def IsCp (rows : List (List Int)) (c : List Int) : Prop := (∀ r ∈ rows, c <+: r) ∧ ∀ p, (∀ r ∈ rows, p <+: r) → p <+: c
theorem IsCp.uniq {rows : List (List Int)} {c d : List Int} (h : IsCp rows c) (h' : IsCp rows d) : c = d := prefix_antisymm (h'.2 c h.1) (h.2 d h'.1)

theorem pre_between : ∀ {p a r b : List Int}, p <+: a → p <+: b → ¬ r < a → ¬ b < r → p <+: r
  | [], _, _, _, _, _, _, _ => List.nil_prefix
  | x :: p, [], _, _, h, _, _, _ => by simp at h
  | x :: p, _ :: _, _, [], _, h, _, _ => by simp at h
  | x :: p, a :: as, [], b :: bs, h1, h2, h3, h4 => absurd (List.nil_lt_cons _ _) h3
  | x :: p, a :: as, y :: r, b :: bs, h1, h2, h3, h4 => by
    obtain ⟨e1, g1⟩ := List.cons_prefix_cons.mp h1
    obtain ⟨e2, g2⟩ := List.cons_prefix_cons.mp h2
    subst e1; subst e2
    rw [List.cons_lt_cons_iff] at h3 h4
    have hy : x = y := by
      rcases Int.lt_trichotomy x y with h | h | h
      · exact absurd (.inl h) h4
      · exact h
      · exact absurd (.inl h) h3
    subst hy
    exact List.cons_prefix_cons.mpr ⟨rfl, pre_between g1 g2 (fun q => h3 (.inr ⟨rfl, q⟩)) fun q => h4 (.inr ⟨rfl, q⟩)⟩

theorem argBest_le (bt : Nat → Nat → Bool) : ∀ n, argBest bt n ≤ n
  | 0 => Nat.le_refl _
  | n + 1 => by
    unfold argBest
    split
    · exact Nat.le_refl _
    · exact Nat.le_succ_of_le (argBest_le bt n)
theorem argBest_spec {bt : Nat → Nat → Bool} (tr : ∀ i j k, bt i j = true → bt j k = true → bt i k = true) (ir : ∀ i, bt i i = false) : ∀ n i, i ≤ n → bt i (argBest bt n) = false
  | 0, i, h => by
    have : i = 0 := by omega
    subst this
    exact ir 0
  | n + 1, i, h => by
    unfold argBest
    have ih := argBest_spec tr ir n
    split
    · rename_i hb
      rcases Nat.lt_or_ge i (n + 1) with hi | hi
      · cases hq : bt i (n + 1) with
        | false => rfl
        | true =>
          have := tr _ _ _ hq hb
          rw [ih i (by omega)] at this
          cases this
      · have : i = n + 1 := by omega
        rw [this]; exact ir _
    · rename_i hb
      rcases Nat.lt_or_ge i (n + 1) with hi | hi
      · exact ih i (by omega)
      · have : i = n + 1 := by omega
        rw [this]; simpa using hb

def rowAt (rows : List (List Int)) (i : Nat) : List Int := rows.getD i []
def btLt (rows : List (List Int)) (i j : Nat) : Bool := decide (rowAt rows i < rowAt rows j)
def btGt (rows : List (List Int)) (i j : Nat) : Bool := decide (rowAt rows j < rowAt rows i)
def minRow (rows : List (List Int)) : List Int := rowAt rows (argBest (btLt rows) (rows.length - 1))
def maxRow (rows : List (List Int)) : List Int := rowAt rows (argBest (btGt rows) (rows.length - 1))
theorem lt_tr {a b c : List Int} (h1 : a < b) (h2 : b < c) : a < c := List.lt_trans h1 h2
theorem minRow_spec {rows : List (List Int)} {r : List Int} (h : r ∈ rows) : ¬ r < minRow rows := by
  obtain ⟨i, hi, rfl⟩ := List.getElem_of_mem h
  have := argBest_spec (bt := btLt rows) (fun i j k h1 h2 => by simp only [btLt, decide_eq_true_eq] at *; exact lt_tr h1 h2) (fun i => by simp [btLt, List.lt_irrefl]) (rows.length - 1) i (by omega)
  simp only [btLt, decide_eq_false_iff_not] at this
  have e : rowAt rows i = rows[i] := by simp [rowAt, hi]
  rw [e] at this
  exact this
theorem maxRow_spec {rows : List (List Int)} {r : List Int} (h : r ∈ rows) : ¬ maxRow rows < r := by
  obtain ⟨i, hi, rfl⟩ := List.getElem_of_mem h
  have := argBest_spec (bt := btGt rows) (fun i j k h1 h2 => by simp only [btGt, decide_eq_true_eq] at *; exact lt_tr h2 h1) (fun i => by simp [btGt, List.lt_irrefl]) (rows.length - 1) i (by omega)
  simp only [btGt, decide_eq_false_iff_not] at this
  have e : rowAt rows i = rows[i] := by simp [rowAt, hi]
  rw [e] at this
  exact this
theorem argBest_mem {rows : List (List Int)} (bt : Nat → Nat → Bool) (h : rows ≠ []) : rowAt rows (argBest bt (rows.length - 1)) ∈ rows := by
  have h0 : 0 < rows.length := List.length_pos_iff.mpr h
  have h1 := argBest_le bt (rows.length - 1)
  have h2 : argBest bt (rows.length - 1) < rows.length := by omega
  have e : rowAt rows (argBest bt (rows.length - 1)) = rows[argBest bt (rows.length - 1)] := by simp [rowAt, h2]
  rw [e]
  exact List.getElem_mem h2
theorem isCp_minMax {rows : List (List Int)} (h : rows ≠ []) : IsCp rows (lcp2 (minRow rows) (maxRow rows)) := by
  refine ⟨fun r hr => pre_between (lcp2_left _ _) (lcp2_right _ _) (minRow_spec hr) (maxRow_spec hr), fun p hp => ?_⟩
  exact lcp2_most (hp _ (argBest_mem _ h)) (hp _ (argBest_mem _ h))

/-- a walk through two rows of which the first isn't above the other -/
theorem lcp2_stop {a b : List Int} {i : Nat} (h : a.take i = b.take i) (ha : i < a.length) (hb : i < b.length) (hne : a[i] ≠ b[i]) : lcp2 a b = a.take i := by
  induction i generalizing a b with
  | zero =>
    cases a with
    | nil => simp at ha
    | cons x a =>
      cases b with
      | nil => simp at hb
      | cons y b =>
        have : x ≠ y := by simpa using hne
        simp [lcp2, this]
  | succ i ih =>
    cases a with
    | nil => simp at ha
    | cons x a =>
      cases b with
      | nil => simp at hb
      | cons y b =>
        simp only [List.take_succ_cons, List.cons.injEq] at h
        obtain ⟨e, h⟩ := h
        unfold lcp2
        rw [if_pos e, ih h (by simpa using ha) (by simpa using hb) (by simpa using hne)]
        simp
theorem lcp2_whole {a b : List Int} (h : a <+: b) : lcp2 a b = a := prefix_antisymm (lcp2_left _ _) (lcp2_most List.prefix_rfl h)
theorem in_bounds {a b : List Int} {i : Nat} (h : a.take i = b.take i) (ha : i < a.length) (hle : ¬ b < a) : i < b.length := by
  induction i generalizing a b with
  | zero =>
    cases b with
    | nil => cases a with
      | nil => simp at ha
      | cons x a => exact absurd (List.nil_lt_cons _ _) hle
    | cons y b => simp
  | succ i ih =>
    cases a with
    | nil => simp at ha
    | cons x a =>
      cases b with
      | nil => exact absurd (List.nil_lt_cons _ _) hle
      | cons y b =>
        simp only [List.take_succ_cons, List.cons.injEq] at h
        obtain ⟨e, h⟩ := h
        subst e
        rw [List.cons_lt_cons_iff] at hle
        have := ih h (by simpa using ha) fun q => hle (.inr ⟨rfl, q⟩)
        simpa using this
end Mine

namespace Mine
open PySem PySem.W PyProof.Rows PySem.Calls
set_option Elab.async false
set_option maxRecDepth 100000
set_option linter.unusedVariables false

/-- the parts of a text's statements -/
def stAt : List Stmt → Nat → Stmt
  | a :: _, 0 => a
  | _ :: r, n + 1 => stAt r n
  | [], _ => .Pass ⟨0, 0, 0, 0⟩
def fnB : Stmt → List Stmt
  | .FunctionDef _ _ body .. => body
  | _ => []
def fnP : Stmt → Arguments
  | .FunctionDef _ p .. => p
  | _ => ⟨[], [], none, [], [], none, []⟩
def fnN : Stmt → List (Str × NameKind)
  | .FunctionDef _ _ _ _ _ _ sc .. => sc.names
  | _ => []
def fnS (st : Stmt) (more : List (Str × Const)) : Scope := ⟨.function, fnN st, false, false, more⟩

/-- a def of the text's stands in the module -/
def Stands (X : Cx) (f : Str) (st : Stmt) : Prop := ∃ m, IsDef X f (fnP st) (fnB st) (fnS st m)

theorem upd_same {x y : Str} {lv : LV} {τ : Sto} (h : x = y) : (upd x lv τ).lookup y = some lv := by rw [lookup_upd, if_pos h.symm]
theorem upd_other {x y : Str} {lv : LV} {τ : Sto} {r : Option LV} (h : x ≠ y) (e : τ.lookup y = r) : (upd x lv τ).lookup y = r := by rw [lookup_upd, if_neg (Ne.symm h), e]

section
variable {X : Cx} {k : Nat} {sc : Scope} {σ τ : Sto}

/-- isinstance(e, (list, tuple)) -/
theorem Ev.isin {f a b : Str} {p pa pb pt pos : Pos} {n : Nat} {e : Expr} {d : Dat} {Tx : String} {b1 b2 : Bool} (hf : EvP X k sc σ (.Name f p) fun _ u => u = .builtin "isinstance") (he : Ev X k sc σ e d)
    (h1 : EvP X k sc σ (.Name a pa) fun _ u => u = .type "list") (h2 : EvP X k sc σ (.Name b pb) fun _ u => u = .type "tuple")
    (hty : ∀ g v s, Rep g v d → Sub g s.heap → Shared.TypeIs s v Tx) (ha : ∀ (g : Heap) (x : Value), Rep g x d → AnswersAll (fun s => s.TypeIs x Tx) x [.type "list", .type "tuple"] [b1, b2]) (hp : plainE e = true := by rfl) :
    Ev X k sc σ (.Call (.Name f p) [e, .Tuple [.Name a pa, .Name b pb] n pt] [] pos) (.bool (b1 || b2)) := by
  intro A env g s E rm o bs q
  refine wpAny_Call_NameR (wp_ev (hf A env g s E rm o bs q) fun u g1 s1 k1 x1 p1 => ?_)
  subst p1
  refine callWith_of (P := fun h => True) (by rw [plain_any pos env (es := [e, .Tuple [.Name a pa, .Name b pb] n pt]) (by rw [List.all_cons, hp]; rfl)]; rfl) (fun h _ => ⟨.machine, .inr (.inl rfl), Looks.of_pure rfl⟩) ?_
  rw [starEach_plain hp]
  refine evalArgs_plain (spliced_cons (wp_ev (he A env g1 s1 E rm o (bs.trans x1.gg) (q.step x1)) fun v g2 s2 k2 x2 p2 => ?_))
  have bs2 := (bs.trans x1.gg).trans x2.gg
  have q2 := (q.step x1).step x2
  rw [starEach_plain (e := .Tuple [.Name a pa, .Name b pb] n pt) rfl]
  show wpAny _ _ (spliced ((false, eval (.Tuple [.Name a pa, .Name b pb] n pt) env) :: backTo pos (starEach [] env))) _ _ _
  refine spliced_cons (Tuple_ ?_)
  rw [starEach_plain (e := .Name a pa) rfl, starEach_plain (e := .Name b pb) rfl]
  show wpAny _ _ (spliced ((false, eval (.Name a pa) env) :: (false, eval (.Name b pb) env) :: backTo pt (starEach [] env))) _ _ _
  refine spliced_cons (wp_ev (h1 A env g2 s2 E rm o bs2 q2) fun v1 g3 s3 k3 x3 p3 => spliced_cons (wp_ev (h2 A env g3 s3 E rm o (bs2.trans x3.gg) (q2.step x3)) fun v2 g4 s4 k4 x4 p4 => wpAny_items_nil ?_))
  subst p3; subst p4
  refine wpAny_newObj_type (wpAny_items_nil ⟨trivial, ?_⟩)
  have x5 := step_push (o := { cls := .type "tuple", data := .seq (List.toArray [Value.type "list", Value.type "tuple"]) }) (x1.trans (x2.trans (x3.trans x4)))
  have k5 : Keeps s { s4 with heap := s4.heap.push { cls := .type "tuple", data := .seq (List.toArray [Value.type "list", Value.type "tuple"]) } } := kp_trans k1 (kp_trans k2 (kp_trans k3 (kp_trans k4 (kp_mk (Sub.push .rfl _)))))
  refine IsiPair.tupleOfB (Tx := Tx) (b := b1 || b2) (ha g2 v p2) (hty g2 v _ p2 ((x2.gh.trans (x3.hh.trans x4.hh)).trans (Sub.push .rfl _))) (Heap.get?_push_size _ rfl) (by cases b1 <;> cases b2 <;> rfl) fun tk => ?_
  exact .trans k5 x5 (Post.tok x5.gh (.bool _))

/-- a kind of row: its data, its items, and what the language does with them -/
structure SeqK (X : Cx) (mk : List Int → Dat) (it : Int → Dat) (ok : List Int → Prop) : Prop where
  lt : ∀ {A : Around} {E : Value → Shared → Prop} {Q : Value → Shared → Prop} {s : Shared} {g : Heap} {u v : Value} {a b : List Int}, ok a → ok b → A.units < cLine → Sub g s.heap → Rep g u (mk a) → Rep g v (mk b) → Q (.bool (decide (a < b))) s → wpAny X.M A (richCompare .Lt u v) Q E s
  gt : ∀ {A : Around} {E : Value → Shared → Prop} {Q : Value → Shared → Prop} {s : Shared} {g : Heap} {u v : Value} {a b : List Int}, ok a → ok b → A.units < cLine → Sub g s.heap → Rep g u (mk a) → Rep g v (mk b) → Q (.bool (decide (b < a))) s → wpAny X.M A (richCompare .Gt u v) Q E s
  enum : ∀ (k : Nat) (g : Heap) (s : Shared) (v : Value) (a : List Int), ok a → Sub g s.heap → Rep g v (mk a) → EnumOf X k g s v (a.map it)
  item : ∀ {k : Nat} {sc : Scope} {σ : Sto} {z : Str} {pz : Pos} {y : Str} {p pos : Pos} {a : List Int} {i : Nat} {c : Int}, ok a → Ev X k sc σ (.Name z pz) (mk a) → Ev X k sc σ (.Name y p) (.int i) → a[i]? = some c → (i : Int) < 2 ^ 62 → Ev X k sc σ (.Subscript (.Name z pz) (.Name y p) pos) (it c)
  ne : ∀ (k : Nat) (a b : List Int) (i j : Int), ok a → ok b → i ∈ a → j ∈ b → Op2 X k (compareOp .NotEq) (it i) (it j) (.bool (i != j))
  slice : ∀ {k : Nat} {sc : Scope} {σ : Sto} {z : Str} {pz : Pos} {y : Str} {p ps pos : Pos} {a : List Int} {i : Nat}, ok a → Ev X k sc σ (.Name z pz) (mk a) → Ev X k sc σ (.Name y p) (.int i) → Ev X k sc σ (.Subscript (.Name z pz) (.Slice Option.none (Option.some (.Name y p)) Option.none ps) pos) (mk (a.take i))

/-- lists of ints -/
def dInts (ns : List Int) : List Dat := ns.map .int
def dList (ns : List Int) : Dat := .list (dInts ns)
theorem intsAre_of : ∀ {ns : List Int} {g : Heap} {vs : List Value}, RepAll g vs (dInts ns) → IntsAre vs ns
  | [], _, _, .nil => .nil
  | n :: ns, _, _, .cons (.int _ t) r => .cons _ _ (intsAre_of r)
/-- the rows stand in a list or a tuple -/
def Cont (mk : List Int → Dat) (rows : List (List Int)) (d : Dat) : Prop := d = .list (rows.map mk) ∨ d = .tuple (rows.map mk)
theorem rowAt_get {rows : List (List Int)} {mk : List Int → Dat} {i : Nat} {d : Dat} (h : (rows.map mk)[i]? = some d) : d = mk (rowAt rows i) ∧ rowAt rows i ∈ rows := by
  rw [List.getElem?_map] at h
  cases e : rows[i]? with
  | none => rw [e] at h; cases h
  | some r =>
    rw [e] at h
    have hr : rowAt rows i = r := by simp [rowAt, e]
    rw [hr]
    exact ⟨by cases h; rfl, List.mem_of_getElem? e⟩
variable {mk : List Int → Dat} {it : Int → Dat} {ok : List Int → Prop}
theorem op_min (K : SeqK X mk it ok) {rows : List (List Int)} {d : Dat} (hc : Cont mk rows d) (hn : rows ≠ []) (ho : ∀ r ∈ rows, ok r) : OpN X (k + 2) (fun vs => call (.builtin "min") vs) [d] fun g v => Rep g v (mk (minRow rows)) := by
  intro g s vs b0 kk r A E rm
  cases r with
  | cons r rn =>
    cases rn
    have hn' : 0 < (rows.map mk).length := by rw [List.length_map]; exact List.length_pos_iff.mpr hn
    refine wpAny_mono (min_iter (k := k) (bt := btLt rows) rm kk (iterOf_dat kk r hc) hn' ?_) (fun v s' x => x.mono fun g' ⟨d', e, r'⟩ => ?_) fun _ _ y => y
    · intro A' i j vi vj s' Q E' rm' kk' ⟨di, ei, ri⟩ ⟨dj, ej, rj⟩ hq
      obtain ⟨e1, m1⟩ := rowAt_get ei
      obtain ⟨e2, m2⟩ := rowAt_get ej
      subst e1; subst e2
      exact K.lt (ho _ m1) (ho _ m2) (by have := rm'.un; omega) kk' ri rj hq
    · rw [List.length_map] at e
      obtain ⟨e1, _⟩ := rowAt_get e
      subst e1
      exact r'
theorem op_max (K : SeqK X mk it ok) {rows : List (List Int)} {d : Dat} (hc : Cont mk rows d) (hn : rows ≠ []) (ho : ∀ r ∈ rows, ok r) : OpN X (k + 2) (fun vs => call (.builtin "max") vs) [d] fun g v => Rep g v (mk (maxRow rows)) := by
  intro g s vs b0 kk r A E rm
  cases r with
  | cons r rn =>
    cases rn
    have hn' : 0 < (rows.map mk).length := by rw [List.length_map]; exact List.length_pos_iff.mpr hn
    refine wpAny_mono (max_iter (k := k) (bt := btGt rows) rm kk (iterOf_dat kk r hc) hn' ?_) (fun v s' x => x.mono fun g' ⟨d', e, r'⟩ => ?_) fun _ _ y => y
    · intro A' i j vi vj s' Q E' rm' kk' ⟨di, ei, ri⟩ ⟨dj, ej, rj⟩ hq
      obtain ⟨e1, m1⟩ := rowAt_get ei
      obtain ⟨e2, m2⟩ := rowAt_get ej
      subst e1; subst e2
      exact K.gt (ho _ m1) (ho _ m2) (by have := rm'.un; omega) kk' ri rj hq
    · rw [List.length_map] at e
      obtain ⟨e1, _⟩ := rowAt_get e
      subst e1
      exact r'
end
end Mine

namespace Mine
open PySem PySem.W PyProof.Rows PySem.Calls
set_option Elab.async false
set_option maxRecDepth 100000
set_option linter.unusedVariables false

section
variable {X : Cx} {k : Nat} {sc : Scope} {σ τ : Sto}
end
end Mine

namespace Mine
open PySem PySem.W PyProof.Rows PySem.Calls
set_option Elab.async false
set_option maxRecDepth 100000
set_option linter.unusedVariables false

theorem Caps.nil {sc scope : Scope} {τ : Sto} : Caps sc scope τ [] := ⟨fun y d e => by simp at e, fun y u e => by simp at e, fun y P mp e => by simp at e⟩
theorem Caps.cons {sc scope : Scope} {τ cap : Sto} {y : Str} {d : Dat} (e : τ.lookup y = some (.dat d)) (r : Caps sc scope τ cap) (h1 : ((y, NameKind.free) ∈ scope.names) := by decide) (h2 : scope.names.lookup y = some .free := by rfl)
    (h3 : sc.names.lookup y = some .cell := by rfl) : Caps sc scope τ ((y, .dat d) :: cap) := by
  refine ⟨fun z d' h => ?_, fun z u h => ?_, fun z P mp h => ?_⟩
  · rw [List.lookup_cons] at h
    by_cases q : z = y
    · subst q
      simp only [beq_self_eq_true] at h
      cases h
      exact ⟨e, h1, h2, h3⟩
    · have : (z == y) = false := by simpa using q
      rw [this] at h
      exact r.sub z d' h
  · rw [List.lookup_cons] at h
    by_cases q : z = y
    · subst q
      simp only [beq_self_eq_true] at h
      cases h
    · have : (z == y) = false := by simpa using q
      rw [this] at h
      exact r.noval z u h
  · rw [List.lookup_cons] at h
    by_cases q : z = y
    · subst q
      simp only [beq_self_eq_true] at h
      cases h
    · have : (z == y) = false := by simpa using q
      rw [this] at h
      exact r.obj z P mp h
theorem Caps.consObj {sc scope : Scope} {τ cap : Sto} {y : Str} {P : Addr → Obj → Heap → Prop} {mp} (e : τ.lookup y = some (.obj P mp)) (r : Caps sc scope τ cap) (h1 : ((y, NameKind.free) ∈ scope.names) := by decide) (h2 : scope.names.lookup y = some .free := by rfl)
    (h3 : sc.names.lookup y = some .cell := by rfl) : Caps sc scope τ ((y, .obj P mp) :: cap) := by
  refine ⟨fun z d' h => ?_, fun z u h => ?_, fun z P' mp' h => ?_⟩
  · rw [List.lookup_cons] at h
    by_cases q : z = y
    · subst q
      simp only [beq_self_eq_true] at h
      cases h
    · have : (z == y) = false := by simpa using q
      rw [this] at h
      exact r.sub z d' h
  · rw [List.lookup_cons] at h
    by_cases q : z = y
    · subst q
      simp only [beq_self_eq_true] at h
      cases h
    · have : (z == y) = false := by simpa using q
      rw [this] at h
      exact r.noval z u h
  · rw [List.lookup_cons] at h
    by_cases q : z = y
    · subst q
      simp only [beq_self_eq_true] at h
      cases h
      exact ⟨e, h1, h2, h3⟩
    · have : (z == y) = false := by simpa using q
      rw [this] at h
      exact r.obj z P' mp' h

section
variable {X : Cx} {k : Nat} {sc scope : Scope} {τ cap : Sto} {α : Type} {l : List α} {toD f : α → Dat} {p : α → Bool}
theorem elts_map {x : Str} {elt : Expr} (el : ∀ a ∈ l, Ev X k (relabelS scope sc) ((x, .dat (toD a)) :: cap) elt (f a)) : Elts X k sc scope cap x [] elt (l.map toD) (l.map fun a => some (f a)) where
  len := by simp
  some_ := fun i d y h1 h2 => by
    rw [List.getElem?_map] at h1 h2
    cases e : l[i]? with
    | none => rw [e] at h1; cases h1
    | some a =>
      rw [e] at h1 h2
      cases h1; cases h2
      exact ⟨.inl ⟨rfl, rfl⟩, el a (List.mem_of_getElem? e)⟩
  none_ := fun i d h1 h2 => by
    rw [List.getElem?_map] at h2
    cases e : l[i]? with
    | none => rw [e] at h2; cases h2
    | some a => rw [e] at h2; cases h2
theorem elts_filt {x : Str} {c elt : Expr} (ht : ∀ a ∈ l, EvT X k (relabelS scope sc) ((x, .dat (toD a)) :: cap) c (p a)) (el : ∀ a ∈ l, p a = true → Ev X k (relabelS scope sc) ((x, .dat (toD a)) :: cap) elt (f a)) :
    Elts X k sc scope cap x [c] elt (l.map toD) (l.map fun a => if p a then some (f a) else none) where
  len := by simp
  some_ := fun i d y h1 h2 => by
    rw [List.getElem?_map] at h1 h2
    cases e : l[i]? with
    | none => rw [e] at h1; cases h1
    | some a =>
      rw [e] at h1 h2
      cases h1
      have hm := List.mem_of_getElem? e
      cases hp : p a with
      | false => simp [hp] at h2
      | true =>
        simp [hp] at h2
        subst h2
        exact ⟨.inr ⟨c, rfl, hp ▸ ht a hm⟩, el a hm hp⟩
  none_ := fun i d h1 h2 => by
    rw [List.getElem?_map] at h1 h2
    cases e : l[i]? with
    | none => rw [e] at h1; cases h1
    | some a =>
      rw [e] at h1 h2
      cases h1
      have hm := List.mem_of_getElem? e
      cases hp : p a with
      | false => exact .inr ⟨c, rfl, hp ▸ ht a hm⟩
      | true => simp [hp] at h2
theorem fm_map : ∀ (l : List α), (l.map fun a => some (f a)).filterMap id = l.map f
  | [] => rfl
  | a :: l => by simp
theorem fm_filt : ∀ (l : List α), (l.map fun a => if p a then some (f a) else none).filterMap id = (l.filter p).map f
  | [] => rfl
  | a :: l => by
    rw [List.map_cons, List.filterMap_cons, fm_filt l]
    cases h : p a <;> simp [h]
theorem Ev.compMap {x : Str} {px pos : Pos} {elt iter : Expr} (hit : Its X k sc τ iter (l.map toD)) (cap : Sto) (c : CompOk sc scope) (cp : Caps sc scope τ cap) (hx : scope.names.lookup x = some .local)
    (el : ∀ a ∈ l, Ev X k (relabelS scope sc) ((x, .dat (toD a)) :: cap) elt (f a)) (hz : l.length ≤ sizeLine) : Ev X k sc τ (.ListComp elt [⟨.Name x px, iter, [], 0⟩] scope pos) (.list (l.map f)) :=
  (Ev.comp hit cap c cp hx (elts_map el) (by simpa using hz)).to (by rw [fm_map])
theorem Ev.compFilt {x : Str} {px pos : Pos} {t elt iter : Expr} (hit : Its X k sc τ iter (l.map toD)) (cap : Sto) (c : CompOk sc scope) (cp : Caps sc scope τ cap) (hx : scope.names.lookup x = some .local)
    (ht : ∀ a ∈ l, EvT X k (relabelS scope sc) ((x, .dat (toD a)) :: cap) t (p a)) (el : ∀ a ∈ l, p a = true → Ev X k (relabelS scope sc) ((x, .dat (toD a)) :: cap) elt (f a)) (hz : l.length ≤ sizeLine) :
    Ev X k sc τ (.ListComp elt [⟨.Name x px, iter, [t], 0⟩] scope pos) (.list ((l.filter p).map f)) :=
  (Ev.comp hit cap c cp hx (elts_filt ht el) (by simpa using hz)).to (by rw [fm_filt])
theorem CompOk.of {sc scope : Scope} (h1 : scope.kind = .function := by rfl) (h2 : ∀ y ∈ scope.names, y.2 ≠ .cell := by decide) (h3 : (scope.names.all fun y => !(y.2 == .free) || sc.names.lookup y.1 == some .cell) = true := by rfl)
        (h4 : ∀ y ∈ scope.names, y.2 = .local → scope.names.lookup y.1 = some .local := by decide) (h5 : ∀ y ∈ scope.names, y.2 = .free → scope.names.lookup y.1 = some .free := by decide) : CompOk sc scope := ⟨h1, h2, fun y hy hf => by
    have := List.all_eq_true.mp h3 y hy
    rw [hf] at this
    simpa using this, h4, h5⟩
end
end Mine

namespace Mine
open PySem PySem.W PyProof.Rows PySem.Calls
set_option Elab.async false
set_option maxRecDepth 100000
set_option linter.unusedVariables false

theorem repAll_of_well {P : Params} {h : Heap} : ∀ {ns : List Int} {vs : List Value}, WellAll P h vs (ofPys (ns.map PyData.int)) → RepAll h vs (dInts ns)
  | [], _, .nil => .nil
  | n :: ns, _, .cons (.int _ t) r => .cons (.int _ t) (repAll_of_well r)
theorem rep_of_well {P : Params} {h : Heap} {l : Addr} {ns : List Int} (w : Well P h (.ref l) (ofPy (PyData.list (ns.map PyData.int)))) : Rep h (.ref l) (dList ns) := by
  have e : ofPy (PyData.list (ns.map PyData.int)) = .list (ofPys (ns.map PyData.int)) := by unfold ofPy; rfl
  rw [e] at w
  cases w with
  | list ho r => exact .list ⟨_, ho⟩ (repAll_of_well r)

theorem law_ends {X : Cx} {k : Nat} {f : Str} {ns : List Int} {c : ClaimW} {cl : Str → Option Addr} {mean : ExcName → Option Value} {args : List WData} {s₁ : Shared} {fa l : Addr} {A : Around} {E : Value → Shared → Prop}
    (hf : FnD X k f [dList ns] (.bool true)) (hfa : X.mg f = some (.ref fa)) (hX : X.h0 = s₁.heap) (r : Rep s₁.heap (.ref l) (dList ns)) (hg : s₁.gens = #[]) (rm : Room A k)
    (hr : ∀ cls, c.raises args cls = false) (hp : c.post args (.bool true) args = true) :
    wpAny X.M A (call (.ref fa) [.ref l]) (fun v s' => GoodWG c cl mean args s₁ (.ok (.ret v)) s') E s₁ := by
  obtain ⟨a, o, fd, h1, h2, h3, hop⟩ := hf
  have e : a = fa := by rw [hfa] at h1; cases h1; rfl
  subst e
  refine wpAny_mono (hop s₁.heap s₁ [.ref l] (hX ▸ .rfl) .rfl (.one r) A E rm) (fun v s' x => ?_) fun _ _ y => y
  obtain ⟨k1, g', x1, p⟩ := x
  cases p
  obtain ⟨h', tk, rfl, kp⟩ := k1
  exact GoodW.toG ⟨.inl ⟨_, .bool true, [], rfl, hr, .bool true, hp, fun _ => ⟨List.nodup_nil, fun _ h => (nomatch h)⟩⟩, kp, rfl, hg⟩
theorem free_of {p : Program} {loose : List Str} {mean : ExcName → Option Value} {mg mb : Str → Option Value} {h : Heap} (T : Top p loose mean mg mb h) (x : Str)
    (hx : decide (x ∉ startupNames ∧ x ∉ loose ∧ x ∉ (recsOf p).map (·.name) ∧ x ∉ (litsOf p).map (·.1) ∧ x ∉ (clssOf p loose).map (·.name)) = true) : mg x = none := by
  obtain ⟨h1, h2, h3, h4, h5⟩ := of_decide_eq_true hx
  exact T.free x h1 h2 h3 h4 h5
theorem fn_of {p : Program} {loose : List Str} {mean : ExcName → Option Value} {mg mb : Str → Option Value} {h : Heap} (T : Top p loose mean mg mb h) (x : Str) {d : DefRec} (hd : (recsOf p).find? (fun d => decide (d.name = x)) = some d) :
    ∃ a o pm code doc, mg d.name = some (.ref a) ∧ h.get? a = some o ∧ o.data = .func (docDef d.name d.params d.body d.scope pm code doc) ∧ h.CodeRec code d.name := T.fn d (List.mem_of_find?_eq_some hd)
end Mine

namespace Mine
open PySem PySem.W PyProof.Rows PySem.Calls
set_option Elab.async false
set_option maxRecDepth 100000
set_option linter.unusedVariables false

theorem slot_map_next : Slot "map" "__next__" "map.__next__" :=
  .of (owner := "map") (n := "__next__") (by rw [typeLookup_type, builtinLookup_eq_fast]; kernel_rfl) (by decide +kernel) (by decide +kernel) (by decide +kernel)
    (by first | exact .inl (by decide +kernel) | exact .inr (by decide +kernel)) (by rw [isSubtype_type]; kernel_rfl)
theorem slot_map_iter : Slot "map" "__iter__" "map.__iter__" :=
  .of (owner := "map") (n := "__iter__") (by rw [typeLookup_type, builtinLookup_eq_fast]; kernel_rfl) (by decide +kernel) (by decide +kernel) (by decide +kernel)
    (by first | exact .inl (by decide +kernel) | exact .inr (by decide +kernel)) (by rw [isSubtype_type]; kernel_rfl)
theorem slot_map_init : Slot "map" "__init__" "object.__init__" :=
  .of (owner := "object") (n := "__init__") (by rw [typeLookup_type, builtinLookup_eq_fast]; kernel_rfl) (by decide +kernel) (by decide +kernel) (by decide +kernel)
    (by first | exact .inl (by decide +kernel) | exact .inr (by decide +kernel)) (by rw [isSubtype_type]; kernel_rfl)
theorem entry_map_next : entryFor table "map.__next__" = some Builtin.«map.__next__» := entryFor_of_tree (by kernel_rfl)
theorem entry_map_new : entryFor table "map.__new__" = some Builtin.«map.__new__» := entryFor_of_tree (by kernel_rfl)
theorem entry_map_iter : entryFor table "map.__iter__" = some Builtin.«dict_keyiterator.__iter__» :=
  entryFor_alias (id' := "dict_keyiterator.__iter__") (by kernel_rfl) (by first | rfl | decide +kernel | (unfold String.splitOn; simp +decide [String.splitOnAux])) (by decide +kernel) (by kernel_rfl)
theorem args_map_next (a : Value) : argsOk "map.__next__" ⟨[a], []⟩ := by unfold argsOk; kernel_rfl
theorem args_map_iter (a : Value) : argsOk "map.__iter__" ⟨[a], []⟩ := by unfold argsOk; kernel_rfl
theorem mro_map : mroOf (.type "map") = pure [.type "map", .type "object"] := by rw [mroOf_type]; kernel_rfl
theorem lookup_map_new : typeLookup (.type "map") "__new__" = pure (some (.builtin "map.__new__")) := by rw [typeLookup_type, builtinLookup_eq_fast]; kernel_rfl
theorem called_map : TypeCalled "map" "map.__new__" "object.__init__" :=
  ⟨by decide +kernel, by decide +kernel, ⟨_, _, mro_map⟩, madeBy_type mro_map lookup_map_new (by decide +kernel), by decide +kernel, by rw [isSubtype_type]; kernel_rfl, slot_map_init⟩
theorem typeCall_map (a b : Value) : checkTypeCall "map" ⟨[a, b], []⟩ = pure () := by kernel_rfl
theorem newCall_map (a b : Value) : checkBuiltinCall "map.__new__" ⟨[.type "map", a, b], []⟩ = pure () := by kernel_rfl
theorem nolen_map : typeLookup (.type "map") "__len__" = pure none := by rw [typeLookup_type, builtinLookup_eq_fast]; kernel_rfl
theorem nohint_map : typeLookup (.type "map") "__length_hint__" = pure none := by rw [typeLookup_type, builtinLookup_eq_fast]; kernel_rfl
theorem sub_map : isSubtype (.type "map") (.type "map") = pure true := by rw [isSubtype_type]; kernel_rfl
theorem meets_map_new (f : Value) (l : Addr) (items : Array Value) (n : Nat) (dct : Option Addr) (sl : Array (Option Value)) :
    Meets (Builtin.«map.__new__» ⟨[.type "map", f, .ref l], []⟩) (fun _ R s => s.heap.get? l = some { cls := .type "list", dict := dct, data := .seq items n, slots := sl } ∧
      R (.ok (.ret (.ref ((s.heap.push { cls := .type "list_iterator", data := .fields #[.ref l, .int 0 0] }).push { cls := .type "tuple", data := .seq #[.ref s.heap.objs.size] }).objs.size)))
        { s with heap := ((s.heap.push { cls := .type "list_iterator", data := .fields #[.ref l, .int 0 0] }).push { cls := .type "tuple", data := .seq #[.ref s.heap.objs.size] }).push { cls := .type "map", data := .fields #[.ref (s.heap.push { cls := .type "list_iterator", data := .fields #[.ref l, .int 0 0] }).objs.size, f] } }) :=
  .of_wp fun prog w A R s h => by
    obtain ⟨hp, g, d, tk, os⟩ := s; obtain ⟨hl, h⟩ := h
    have hsub := sub_map
    have hL : Heap.IsList (Shared.heap ⟨hp, g, d, tk, os⟩) l items := ⟨_, hl, rfl, n, rfl⟩
    wp_walk using wpAny_loadPart' hl, wpAny_pyIter_list hL
    exact ⟨_, rfl, h⟩

/-- a map over a list, as it stands -/
structure IsMap (h : Heap) (M T I l : Addr) (f : Value) (i : Nat) (items : Array Value) : Prop where
  m : h.get? M = some { cls := .type "map", data := .fields #[.ref T, f] }
  t : h.get? T = some { cls := .type "tuple", data := .seq #[.ref I] }
  it : h.IsListIter I l i
  l : h.IsList l items

theorem map_next {prog : Program} {w : World} {A : Around} {E : Value → Shared → Prop} {s : Shared} {M T I l : Addr} {f : Value} {i : Nat} {items : Array Value} {u : Value} {R : PySem.Fin → Shared → Prop} (hm : IsMap s.heap M T I l f i items) (hu : items[i]? = some u) (hMI : M ≠ I)
    (h : ∀ h', h'.IsListIter I l (i + 1) → Heap.SameBut I s.heap h' → wpAny (model prog w) A (call f [u]) (fun v s' => R (.done (.ret v)) s') E { s with heap := h' }) :
    wpAny (model prog w) A (Builtin.«map.__next__» ⟨[.ref M], []⟩) R E s := by
  obtain ⟨hp, g, d, tk, os⟩ := s
  show wpAny _ _ (field (.ref M) 0 >>= _) _ _ _
  refine wpAny_bind (wpAny_field hm.m rfl (x := .ref T) rfl ?_)
  refine wpAny_bind (wpAny_seqItems hm.t rfl ?_)
  show wpAny _ _ (forIn #[Value.ref I] (#[] : Array Value) _ >>= _) _ _ _
  rw [← Array.forIn_toList]
  rw [List.forIn_cons]
  refine wpAny_bind (wpAny_bind (wpAny_bind (wpAny_holding (wpAny_nextOf_list_item hm.it hm.l hu fun h' hit hs => wpAny_pure ?_))))
  show wpAny _ _ (forIn ([] : List Value) _ _) _ _ _
  rw [List.forIn_nil]
  refine wpAny_pure ?_
  have hm' : h'.get? M = _ := (hs.2 M hMI).trans hm.m
  refine wpAny_bind (wpAny_field hm' rfl (x := f) rfl ?_)
  refine wpAny_bind (wpAny_holding (wpAny_mono (h h' hit hs) (fun v s' q => ?_) fun _ _ e => e))
  exact wpAny_bind (wpAny_letGo (wpAny_pure q))
theorem map_end {prog : Program} {w : World} {A : Around} {E : Value → Shared → Prop} {s : Shared} {M T I l : Addr} {f : Value} {items : Array Value} {R : PySem.Fin → Shared → Prop} (hh : A.handled = none) (hm : IsMap s.heap M T I l f items.size items)
    (h : ∀ h' e, Heap.ExtBut I s.heap h' → (∃ o, h'.get? e = some o ∧ o.cls = .type "StopIteration") → E (.ref e) { s with heap := h' }) :
    wpAny (model prog w) A (Builtin.«map.__next__» ⟨[.ref M], []⟩) R E s := by
  obtain ⟨hp, g, d, tk, os⟩ := s
  show wpAny _ _ (field (.ref M) 0 >>= _) _ _ _
  refine wpAny_bind (wpAny_field hm.m rfl (x := .ref T) rfl ?_)
  refine wpAny_bind (wpAny_seqItems hm.t rfl ?_)
  show wpAny _ _ (forIn #[Value.ref I] (#[] : Array Value) _ >>= _) _ _ _
  rw [← Array.forIn_toList]
  rw [List.forIn_cons]
  exact wpAny_bind (wpAny_bind (wpAny_bind (wpAny_holding (wpAny_nextOf_list_end hh hm.it hm.l (by simp) h))))

theorem pyNext_map_item {prog : Program} {w : World} {A : Around} {E : Value → Shared → Prop} {s : Shared} {M T I l : Addr} {f : Value} {i : Nat} {items : Array Value} {u : Value} {Q : Option Value → Shared → Prop} (hm : IsMap s.heap M T I l f i items) (hu : items[i]? = some u) (hMI : M ≠ I)
    (h : ∀ h' E', h'.IsListIter I l (i + 1) → Heap.SameBut I s.heap h' → wpAny (model prog w) A.in1 (call f [u]) (fun v s' => Q (some v) s') E' { s with heap := h' }) : wpAny (model prog w) A (pyNext (.ref M)) Q E s := by
  have hT : s.TypeIs (.ref M) "map" := ⟨_, hm.m, rfl⟩
  unfold pyNext
  exact wpAny_bind (wpAny_attempt (wpAny_callSpecial?_slot (name := Str.ofString "__next__") hT slot_map_next
    (wpAny_call_entry slot_map_next hT entry_map_next (map_next hm hu hMI fun h' hit hs => wpAny_mono (h h' _ hit hs) (fun v s' q => ⟨v, rfl, wpAny_pure q⟩) fun _ _ e => e) (args_map_next _))))
theorem pyNext_map_end {prog : Program} {w : World} {A : Around} {E : Value → Shared → Prop} {s : Shared} {M T I l : Addr} {f : Value} {items : Array Value} {Q : Option Value → Shared → Prop} (hh : A.handled = none) (hm : IsMap s.heap M T I l f items.size items)
    (h : ∀ h', Heap.ExtBut I s.heap h' → Q none { s with heap := h' }) : wpAny (model prog w) A (pyNext (.ref M)) Q E s := by
  have hT : s.TypeIs (.ref M) "map" := ⟨_, hm.m, rfl⟩
  unfold pyNext
  refine wpAny_bind (wpAny_attempt (wpAny_callSpecial?_slot (name := Str.ofString "__next__") hT slot_map_next
    (wpAny_call_entry slot_map_next hT entry_map_next (map_end hh hm fun h' e hx he => ?_) (args_map_next _))))
  obtain ⟨o, ho, hc⟩ := he
  refine wpAny_bind (wpAny_isInstance (T := "StopIteration") (b := true) ⟨o, ho, hc⟩ isSubtype_stop ?_)
  exact wpAny_pure (h _ hx)
theorem pyIter_map {prog : Program} {w : World} {A : Around} {E : Value → Shared → Prop} {s : Shared} {M T : Addr} {f : Value} {Q : Value → Shared → Prop} (hm : s.heap.get? M = some { cls := .type "map", data := .fields #[.ref T, f] }) (h : Q (.ref M) s) : wpAny (model prog w) A (pyIter (.ref M)) Q E s := by
  have hT : s.TypeIs (.ref M) "map" := ⟨_, hm, rfl⟩
  refine wpAny_pyIter_slot hT slot_map_iter (wpAny_call_entry slot_map_iter hT entry_map_iter ?_ (args_map_iter _))
  show wpAny _ _ (ret (.ref M)) _ _ s
  exact wpAny_pure ⟨_, rfl, "map", _, hT, slot_map_next.lookup, h⟩

/-- the addresses of a heap's objects -/
def dom (h : Heap) : List Addr := (List.range h.objs.size).filter fun b => (h.get? b).isSome
theorem mem_dom {h : Heap} {b : Addr} : b ∈ dom h ↔ (h.get? b).isSome = true := by
  unfold dom
  rw [List.mem_filter]
  constructor
  · exact fun x => x.2
  · intro x
    refine ⟨List.mem_range.mpr ?_, x⟩
    obtain ⟨o, ho⟩ := Option.isSome_iff_exists.mp x
    exact Heap.lt_size ho

theorem mapWalks {prog : Program} {w : World} {A : Around} (hh : A.handled = none) {h0 : Heap} {M T I l : Addr} {f : Value} {items : Array Value} (P : Nat → Value → Prop) (hMI : M ≠ I) (hTI : T ≠ I) (hlI : l ≠ I) (h0I : h0.get? I = none)
    (hf : ∀ i u (s : Shared) (Q : Value → Shared → Prop) (E : Value → Shared → Prop), items[i]? = some u → Sub h0 s.heap → (∀ v s', P i v → Keeps s s' → Q v s') → wpAny (model prog w) A.in1 (call f [u]) Q E s) :
    Walks prog w A M (M :: T :: I :: l :: dom h0) [I] items.size P (fun i h => IsMap h M T I l f i items ∧ Sub h0 h) where
  sub := fun b hb => by rw [List.mem_singleton.mp hb]; simp
  frame := fun i h h' ⟨m, k⟩ hk => ⟨⟨hk M (by simp) _ m.m, hk T (by simp) _ m.t, m.it.at fun o e => hk I (by simp) o e, m.l.at fun o e => hk l (by simp) o e⟩, fun b o e => hk b (by
    have : b ∈ dom h0 := mem_dom.mpr (by rw [e]; rfl)
    simp [this]) o (k b o e)⟩
  item := fun i s Q E hi ⟨m, k⟩ hQ => by
    have hu : items[i]? = some items[i] := by simp [hi]
    refine pyNext_map_item m hu hMI fun h' E' hit hs => ?_
    have k' : Sub h0 h' := fun b o e => (hs.2 b (fun q => by rw [q, h0I] at e; cases e)).trans (k b o e)
    refine hf i _ _ _ _ hu k' fun v s' hP hk => ?_
    obtain ⟨h2, tk, rfl, kp⟩ := hk
    exact hQ v h2 tk hP ⟨⟨kp _ _ ((hs.2 M hMI).trans m.m), kp _ _ ((hs.2 T hTI).trans m.t), hit.at fun o e => kp _ _ e, (m.l.at fun o e => (hs.2 l hlI).trans e).at fun o e => kp _ _ e⟩, fun b o e => kp b o (k' b o e)⟩ fun b o hb e => kp b o ((hs.2 b (fun q => hb (by simp [q]))).trans e)
  done := fun s Q E ⟨m, k⟩ hQ => pyNext_map_end hh m fun h' hx => hQ h' s.toks fun b o hb e => hx b o (fun q => hb (by simp [q])) e
  self := fun i s Q E ⟨m, k⟩ hQ => pyIter_map m.m hQ
end Mine

namespace Mine
open PySem PySem.W PyProof.Rows PySem.Calls
set_option Elab.async false
set_option maxRecDepth 100000
set_option linter.unusedVariables false

/-- what a map hands out, gathered -/
theorem collect_map {prog : Program} {w : World} {A : Around} {E : Value → Shared → Prop} {s : Shared} {I : Addr} {fp wr : List Addr} {n : Nat} {P : Nat → Value → Prop} {St : Nat → Heap → Prop} {Q : List Value → Shared → Prop} (W : Walks prog w A.in1 I fp wr n P St)
    (hT : ∀ i (s : Shared), St i s.heap → s.TypeIs (.ref I) "map") (hst : St 0 s.heap) (hfp : ∀ b ∈ fp, b < s.heap.objs.size) (hI : I ∈ fp)
    (hQ : ∀ (h' : Heap) (tk : Tok) (acc : Array Value), (∀ b o, b ∉ wr → s.heap.get? b = some o → h'.get? b = some o) → ItemsOf P acc n → Q acc.toList { s with heap := h', toks := tk }) (hn : n ≤ sizeLine) : wpAny (model prog w) A (collect (.ref I)) Q E s := by
  have hSf : s.heap.objs.size ∉ fp := fun hm => Nat.lt_irrefl _ (hfp _ hm)
  have hSI : s.heap.objs.size ≠ I := fun e => hSf (e ▸ hI)
  have h1 : Builtin.List.listSameRef (.ref s.heap.objs.size) (.ref I) = false := by simp [Builtin.List.listSameRef, hSI]
  have h2 : (Value.type "map" == Value.type "list") = false := by decide
  have h3 : (Value.type "map" == Value.type "tuple") = false := by decide
  generalize hD : s.heap.objs.size = D at *
  unfold collect
  refine wpAny_bind (wpAny_runValue (codeAny_builtin F.entry_proto_collect ?_))
  rw [Around.under_plainId F.plain_proto_collect _]
  show wpAny _ A.in1 (newList [] >>= fun l => again (.builtin "list.__iadd__" ⟨[l, .ref I], []⟩)) _ _ s
  refine wpAny_bind (wpAny_newObj_type ?_)
  rw [hD]
  refine wpAny_pure ⟨plainId_quiet F.plain_list_iadd _, codeAny_builtin F.entry_list_iadd ?_⟩
  rw [Around.under_plainId F.plain_list_iadd _]
  have new : (s.heap.push { cls := .type "list", data := .seq ([] : List Value).toArray }).get? D = some { cls := .type "list", data := .seq ([] : List Value).toArray } := hD ▸ Heap.get?_push_size _ rfl
  have old : ∀ b o, s.heap.get? b = some o → (s.heap.push { cls := .type "list", data := .seq ([] : List Value).toArray }).get? b = some o := fun b o e => Heap.get?_push_of_some _ e
  generalize s.heap.push { cls := .type "list", data := .seq ([] : List Value).toArray } = H at new old ⊢
  have st1 := W.frame 0 s.heap H hst fun b _ o e => old b o e
  show wpAny _ A.in1 (Builtin.List.listExtendWith (.ref D) (.ref I) (.ref D)) _ _ _
  unfold Builtin.List.listExtendWith
  refine wpAny_bind (wpAny_typeOf (hT 0 { s with heap := H } st1) ?_)
  simp only [h1, h2, h3, Bool.or_false, Bool.false_eq_true, if_false]
  refine wpAny_bind (W.self 0 { s with heap := H } _ _ st1 ?_)
  refine wpAny_bind (wpAny_holding ?_)
  unfold Builtin.List.listLengthHint
  refine wpAny_bind (wpAny_specialOf (hT 0 { s with heap := H } st1) nolen_map ?_)
  show wpAny _ A.in1 (specialOf (Value.ref I) (Str.ofString "__length_hint__") >>= _) _ _ _
  refine wpAny_bind (wpAny_specialOf (hT 0 { s with heap := H } st1) nohint_map ?_)
  refine wpAny_pure ?_
  show wpAny _ A.in1 (rule "list.extend.makes-room" >>= fun _ => Builtin.List.listTouch (.ref D) >>= fun _ => again (.builtin "list.extend.loop" ⟨[.ref D, .ref I, .ref D], []⟩)) _ _ _
  refine wpAny_bind (wpAny_rule (wpAny_bind ?_))
  show wpAny _ A.in1 (updateSeq D (·.push .none) >>= fun _ => updateSeq D (·.pop)) _ _ _
  refine wpAny_bind (wpAny_updateSeq new rfl ?_)
  have new2 := Heap.get?_update_self (Obj.mapSeq (·.push Value.none)) new rfl
  refine wpAny_updateSeq new2 rfl ?_
  have new3 := Heap.get?_update_self (Obj.mapSeq (·.pop)) new2 rfl
  have oth : ∀ b o, b ≠ D → H.get? b = some o → ((H.update D (Obj.mapSeq (·.push Value.none))).update D (Obj.mapSeq (·.pop))).get? b = some o :=
    fun b o hb e => (Heap.get?_update_other _ _ (Ne.symm hb)).trans ((Heap.get?_update_other _ _ (Ne.symm hb)).trans e)
  refine wpAny_pure ⟨plainId_quiet F.plain_extend_loop _, codeAny_extend_loopS W.toS hn D hSf _ n 0 _ _ _ rfl (Nat.zero_le _) (W.frame 0 H _ st1 fun b hb o e => oth b o (fun q => hSf (q ▸ hb)) e) new3 (ItemsOf.nil P) fun s' acc' c' hm hS' hacc => ?_⟩
  show wpAny _ A (load D >>= _) _ _ s'
  refine wpAny_bind (wpAny_load hS' (wpAny_pure ?_))
  obtain ⟨h', g', d', tk', os'⟩ := s'
  have e1 : g' = s.gens := hm.gens
  have e2 : d' = s.drawn := hm.drawn
  have e3 : os' = s.os := hm.os
  subst e1 e2 e3
  exact hQ h' tk' acc' (fun b o hb e => by
    have hne : b ≠ D := fun q => by have := Heap.lt_size e; rw [q, ← hD] at this; exact Nat.lt_irrefl _ this
    exact hm.heap b o (fun q => (List.mem_cons.mp q).elim hne hb) (oth b o hne (old b o e))) hacc

theorem call_tuple_map {prog : Program} {w : World} {A : Around} {E : Value → Shared → Prop} {s : Shared} {I : Addr} {fp wr : List Addr} {n : Nat} {P : Nat → Value → Prop} {St : Nat → Heap → Prop} {Q : Value → Shared → Prop} (W : Walks prog w A.in1.in1.in1 I fp wr n P St)
    (hT : ∀ i (s : Shared), St i s.heap → s.TypeIs (.ref I) "map") (hst : St 0 s.heap) (hfp : ∀ b ∈ fp, b < s.heap.objs.size) (hI : I ∈ fp)
    (hQ : ∀ (h' : Heap) (tk : Tok) (acc : Array Value), (∀ b o, b ∉ wr → s.heap.get? b = some o → h'.get? b = some o) → ItemsOf P acc n → Q (.ref h'.objs.size) { s with heap := h'.push { cls := .type "tuple", data := .seq acc }, toks := tk }) (hn : n ≤ sizeLine) :
    wpAny (model prog w) A (call (.type "tuple") [.ref I]) Q E s := by
  refine callType_newIn (S := fun A' R s' => A' = A.in1 ∧ s' = s ∧ ∀ (h' : Heap) (tk : Tok) (acc : Array Value), (∀ b o, b ∉ wr → s.heap.get? b = some o → h'.get? b = some o) → ItemsOf P acc n → R (.ok (.ret (.ref h'.objs.size))) { s with heap := h'.push { cls := .type "tuple", data := .seq acc }, toks := tk })
    F.called_tuple (by decide) (F.typeCall_tuple_1 _) (F.newCall_tuple_1 _) (fun obj => F.args_object_init_2 obj _) F.entry_tuple_new (.of_wp fun A' R s' ⟨e1, e2, h⟩ => ?_) ⟨rfl, rfl, fun h' tk acc hk ha => ⟨⟨_, Heap.get?_push_size _ rfl, rfl⟩, hQ h' tk acc hk ha⟩⟩
  subst e1; subst e2
  have hsub := sub_tuple_self
  have hinit := init_tuple_lookup
  have hmh := madeHere_tuple
  have hTs := hT 0 s' hst
  wp_walk using wpAny_typeOf hTs, collect_map (hn := hn) W hT hst hfp hI
  intro h' tk acc hk ha
  show wpAny _ _ (Builtin.Tuple.tupleExact acc.toList.toArray >>= fun v => ret v) _ _ _
  unfold Builtin.Tuple.tupleExact
  refine wpAny_bind (wpAny_newObj_type ?_ (show acc.toList.toArray.size ≤ sizeLine by simp only [Array.toArray_toList]; rw [ha.1]; exact hn))
  refine wpAny_pure ⟨_, rfl, ?_⟩
  have e : acc.toList.toArray = acc := by simp
  rw [e]
  exact h h' tk acc hk ha

theorem call_map_list {prog : Program} {w : World} {A : Around} {E : Value → Shared → Prop} {s : Shared} {f : Value} {l : Addr} {items : Array Value} {Q : Value → Shared → Prop} (hL : s.heap.IsList l items)
    (h : ∀ h' : Heap, (∀ b o, s.heap.get? b = some o → h'.get? b = some o) → IsMap h' (s.heap.objs.size + 2) (s.heap.objs.size + 1) s.heap.objs.size l f 0 items → Q (.ref (s.heap.objs.size + 2)) { s with heap := h' }) :
    wpAny (model prog w) A (call (.type "map") [f, .ref l]) Q E s := by
  obtain ⟨⟨c, dct, dt, sl⟩, hl, hc, n, hd⟩ := id hL
  replace hc : c = .type "list" := hc
  replace hd : dt = .seq items n := hd
  subst hc hd
  refine callType_new called_map (by decide) (typeCall_map _ _) (newCall_map _ _) (fun obj => F.args_object_init_3 obj _ _) entry_map_new (meets_map_new f l items n dct sl) ⟨hl, ?_⟩
  have z1 : (s.heap.push { cls := .type "list_iterator", data := .fields #[.ref l, .int 0 0] }).objs.size = s.heap.objs.size + 1 := Heap.size_push ..
  show _ ∧ _
  rw [z1]
  have g1 := Heap.get?_push_size s.heap (o := { cls := .type "list_iterator", data := .fields #[.ref l, .int 0 0] }) rfl
  have k1 : ∀ b o, s.heap.get? b = some o → (s.heap.push { cls := .type "list_iterator", data := .fields #[.ref l, .int 0 0] }).get? b = some o := fun b o e => Heap.get?_push_of_some _ e
  generalize s.heap.push { cls := .type "list_iterator", data := .fields #[.ref l, .int 0 0] } = H1 at *
  have g2 := Heap.get?_push_size H1 (o := { cls := .type "tuple", data := .seq #[.ref s.heap.objs.size] }) rfl
  have z2 : (H1.push { cls := .type "tuple", data := .seq #[.ref s.heap.objs.size] }).objs.size = s.heap.objs.size + 2 := by rw [Heap.size_push, z1]
  have k2 : ∀ b o, H1.get? b = some o → (H1.push { cls := .type "tuple", data := .seq #[.ref s.heap.objs.size] }).get? b = some o := fun b o e => Heap.get?_push_of_some _ e
  rw [z1] at g2
  generalize H1.push { cls := .type "tuple", data := .seq #[.ref s.heap.objs.size] } = H2 at *
  have g3 := Heap.get?_push_size H2 (o := { cls := .type "map", data := .fields #[.ref (s.heap.objs.size + 1), f] }) rfl
  have k3 : ∀ b o, H2.get? b = some o → (H2.push { cls := .type "map", data := .fields #[.ref (s.heap.objs.size + 1), f] }).get? b = some o := fun b o e => Heap.get?_push_of_some _ e
  rw [z2] at g3 ⊢
  generalize H2.push { cls := .type "map", data := .fields #[.ref (s.heap.objs.size + 1), f] } = H3 at *
  exact ⟨⟨_, g3, rfl⟩, h H3 (fun b o e => k3 b o (k2 b o (k1 b o e))) ⟨g3, k3 _ _ g2, ⟨_, k3 _ _ (k2 _ _ g1), rfl, rfl⟩, let ⟨o, ho, r⟩ := hL; ⟨o, k3 _ _ (k2 _ _ (k1 _ _ ho)), r⟩⟩⟩

/-- data that hold no other object -/
def Flat : Dat → Prop
  | .str _ => True
  | .bytes _ => True
  | _ => False
theorem Rep.flat {g h : Heap} {v : Value} {d : Dat} (hd : Flat d) (r : Rep g v d) : Rep h v d := by
  cases r with
  | str x t => exact .str x t
  | bytes b t => exact .bytes b t
  | _ => exact hd.elim
theorem repAll_of {h : Heap} : ∀ {vs : List Value} {ds : List Dat}, vs.length = ds.length → (∀ (i : Nat) (v : Value), vs[i]? = some v → ∃ d, ds[i]? = some d ∧ Rep h v d) → RepAll h vs ds
  | [], [], _, _ => .nil
  | v :: vs, d :: ds, hl, hi => by
    obtain ⟨d', e, r⟩ := hi 0 v rfl
    have : d = d' := by simpa using e
    subst this
    exact .cons r (repAll_of (by simpa using hl) fun i u hu => hi (i + 1) u (by simpa using hu))

section
variable {X : Cx} {k : Nat} {sc : Scope} {σ : Sto}
/-- tuple(map(f, m)), f a def of the text's, m a list of texts or octets -/
theorem Ev.tupleMap {ft fm ff : Str} {pt pm pf p1 p2 : Pos} {em : Expr} {ds : List Dat} (ht : EvP X (k + 4) sc σ (.Name ft pt) fun _ u => u = .type "tuple") (hmn : EvP X (k + 4) sc σ (.Name fm pm) fun _ u => u = .type "map") (hm : Ev X (k + 4) sc σ em (.list ds))
    (hk : sc.names.lookup ff = some .globalImplicit) (hfl : ∀ d ∈ ds, Flat d) (hne : ds ≠ []) (hf : ∀ d ∈ ds, FnD X k ff [d] d) (hz : ds.length ≤ sizeLine) (hp : plainE em = true := by rfl)
    (hd : (ff == ("__debug__" : Str)) = false := by decide) : Ev X (k + 4) sc σ (.Call (.Name ft pt) [.Call (.Name fm pm) [.Name ff pf, em] [] p1] [] p2) (.tuple ds) := by
  intro A env g s E rm o bs q
  refine wpAny_Call_NameR (wp_ev (ht A env g s E rm o bs q) fun u g1 s1 k1 x1 p1' => ?_)
  subst p1'
  refine callWith_of (P := fun h => True) (by rw [plain_any p2 env (es := [.Call (.Name fm pm) [.Name ff pf, em] [] p1]) (by rfl)]; rfl) (fun h _ => ⟨.machine, .inr (.inl rfl), Looks.of_pure rfl⟩) ?_
  rw [starEach_plain rfl]
  refine evalArgs_plain (spliced_cons (wpAny_Call_NameR (wp_ev (hmn A env g1 s1 E rm o (bs.trans x1.gg) (q.step x1)) fun u g2 s2 k2 x2 p2' => ?_)))
  subst p2'
  have bs2 := (bs.trans x1.gg).trans x2.gg
  have q2 := (q.step x1).step x2
  refine callWith_of (P := fun h => True) (by rw [plain_any p1 env (es := [.Name ff pf, em]) (by rw [List.all_cons, List.all_cons, hp]; rfl)]; rfl) (fun h _ => ⟨.machine, .inr (.inl rfl), Looks.of_pure rfl⟩) ?_
  obtain ⟨d0, hd0⟩ := List.exists_mem_of_ne_nil ds hne
  obtain ⟨fa, ob, fd, h1, h2, h3, _⟩ := hf d0 hd0
  rw [starEach_plain (e := .Name ff pf) rfl]
  refine evalArgs_plain (spliced_cons (wp_ev (EvP.global hk h1 hd A env g2 s2 E rm o bs2 q2) fun u g3 s3 k3 x3 p3' => ?_))
  subst p3'
  rw [starEach_plain hp]
  show wpAny _ _ (spliced ((false, eval em env) :: backTo p1 (starEach [] env))) _ _ _
  refine spliced_cons (wp_ev (hm A env g3 s3 E rm o (bs2.trans x3.gg) (q2.step x3)) fun v g4 s4 k4 x4 p4 => wpAny_items_nil ⟨trivial, ?_⟩)
  have xx := x1.trans (x2.trans (x3.trans x4))
  have kk := kp_trans k1 (kp_trans k2 (kp_trans k3 k4))
  have bs4 : Sub X.h0 g4 := bs.trans xx.gg
  cases p4 with
  | list il r =>
    rename_i l vs
    have il4 := isList_sub x4.gh il
    refine call_map_list (f := .ref fa) il4 fun h' hk' hM => wpAny_items_nil ⟨trivial, ?_⟩
    have lt_of : ∀ {b : Addr} {o' : Obj}, s4.heap.get? b = some o' → b < s4.heap.objs.size := fun e => Heap.lt_size e
    have s4I : s4.heap.get? s4.heap.objs.size = none := fresh_size
    have h0I : X.h0.get? s4.heap.objs.size = none := by
      cases z : X.h0.get? s4.heap.objs.size with
      | none => rfl
      | some o' => exact absurd (lt_of (x4.gh _ _ (bs4 _ _ z))) (Nat.lt_irrefl _)
    have llt : l < s4.heap.objs.size := let ⟨o', ho', _⟩ := il4; lt_of ho'
    have rm3 : Room A.in1.in1.in1 (k + 1) := ((show Room A ((k + 1) + 1 + 1 + 1) from rm).in1).in1.in1
    have hl := r.length
    have W := mapWalks (prog := X.prog) (w := X.w) (A := A.in1.in1.in1) rm3.hh (h0 := X.h0) (M := s4.heap.objs.size + 2) (T := s4.heap.objs.size + 1) (I := s4.heap.objs.size) (l := l) (f := .ref fa) (items := vs.toArray) (fun i v => ∃ d, ds[i]? = some d ∧ Rep X.h0 v d)
      (by intro e; have : s4.heap.objs.size + 2 = s4.heap.objs.size := e; omega) (by intro e; have : s4.heap.objs.size + 1 = s4.heap.objs.size := e; omega) (Nat.ne_of_lt llt) h0I (fun i u s' Q' E' hu hs0 hq => by
        have hu' : vs[i]? = some u := by simpa using hu
        obtain ⟨d, hd1, hr⟩ := r.get' hu'
        have hm' := List.mem_of_getElem? hd1
        obtain ⟨fa', ob', fd', q1, q2', q3, hop⟩ := hf d hm'
        have : fa' = fa := by rw [h1] at q1; cases q1; rfl
        subst this
        exact wpAny_mono (hop X.h0 s' [u] .rfl hs0 (.one (hr.flat (hfl d hm'))) A.in1.in1.in1.in1 E' rm3.in1) (fun v s'' ⟨k5, g5, x5, p5⟩ => hq v s'' ⟨d, hd1, p5.flat (hfl d hm')⟩ k5) fun _ _ y => y)
    have low : ∀ b ∈ (s4.heap.objs.size + 2) :: (s4.heap.objs.size + 1) :: s4.heap.objs.size :: l :: dom X.h0, b < h'.objs.size := by
      intro b hb
      rcases List.mem_cons.mp hb with rfl | hb
      · exact Heap.lt_size hM.m
      rcases List.mem_cons.mp hb with rfl | hb
      · exact Heap.lt_size hM.t
      rcases List.mem_cons.mp hb with rfl | hb
      · obtain ⟨o', ho', _⟩ := hM.it; exact Heap.lt_size ho'
      rcases List.mem_cons.mp hb with rfl | hb
      · obtain ⟨o', ho', _⟩ := hM.l; exact Heap.lt_size ho'
      obtain ⟨o', ho'⟩ := Option.isSome_iff_exists.mp (mem_dom.mp hb)
      exact Heap.lt_size (hk' _ _ (x4.gh _ _ (bs4 _ _ ho')))
    refine call_tuple_map (A := A) (s := { s4 with heap := h' }) W (fun i s' st => ⟨_, st.1.m, rfl⟩) ⟨hM, fun b o' e => hk' _ _ (x4.gh _ _ (bs4 _ _ e))⟩ low (by simp) (fun h2' tk acc hk2 ha => ?_) (by simp [hl]; exact hz)
    have sub : Sub s4.heap h2' := fun b o' e => hk2 b o' (fun q' => by rw [List.mem_singleton.mp q', s4I] at e; cases e) (hk' b o' e)
    have rr : RepAll g4 acc.toList ds := repAll_of (by rw [Array.length_toList, ha.1]; simpa using hl) fun i v hv => by
      obtain ⟨d, e1, e2⟩ := ha.2 i v (by simpa using hv)
      exact ⟨d, e1, e2.flat (hfl d (List.mem_of_getElem? e1))⟩
    have k5 : Keeps s4 { s4 with heap := h2', toks := tk } := kp_mk sub
    have x5 : Step g4 s4.heap g4 h2' := ⟨.rfl, sub, x4.gh.trans sub, fun _ _ e => .inl e⟩
    have := post_newTuple (s := s) (s' := { s4 with heap := h2', toks := tk }) (kp_trans kk k5) (xx.trans x5) rr
    simpa using this
end
end Mine

namespace Mine
open PySem PySem.W PyProof.Rows PySem.Calls
set_option Elab.async false
set_option maxRecDepth 100000
set_option linter.unusedVariables false

section
variable {prog : Program} {w : World} {A : Around} {E : Value → Shared → Prop} {s : Shared}
theorem subN {D C : String} {b : Bool} (hty : typeOf (.type C) = pure (.type "type")) (htD : typeOf (.type D) = pure (.type "type")) (hsub : isSubtype (.type D) (.type C) = pure b) (dep : Int) (tk : Tok) :
    Meets (Builtin.«issubclass.nested» ⟨[.type D, .type C, .int dep tk], []⟩) (fun _ R s => R (.ok (.ret (.bool b))) s) := by
  intro prog w A R s h
  have hm : (Value.type "type" == Value.type "type") = true := by decide
  repeat (any_goals (first | assumption | (rw [hty]) | (rw [if_pos hm]) | (rw [hsub]) | wp_step))
theorem kind_sub_nested : builtinKind "issubclass.nested" = none := by decide +kernel
theorem plain_sub_nested : plainId "issubclass.nested" = true := by decide +kernel
theorem args_sub_nested_3 (a b c : Value) : argsOk "issubclass.nested" ⟨[a, b, c], []⟩ := by unfold argsOk; kernel_rfl
def SubAll (D : String) : List Value → List Bool → Prop
  | [], [] => True
  | c :: cs, v :: vs => (∃ C, c = .type C ∧ typeOf (.type C) = pure (.type "type") ∧ isSubtype (.type D) (.type C) = pure v) ∧ SubAll D cs vs
  | _, _ => False
theorem sub_items {D : String} {dep : Int} (htD : typeOf (.type D) = pure (.type "type")) : ∀ (cs : List Value) (vs : List Bool) (s : Shared) (Q : Option PySem.Fin × Unit → Shared → Prop),
    SubAll D cs vs → Q (if vs.any id then some (.done (.ret (.bool true))) else none, ()) s →
    wpAny (model prog w) A (forIn cs ((none : Option PySem.Fin), ()) fun c _ => do
      if ← truthy (← call (.builtin "issubclass.nested") [.type D, c, rawInt (dep + 1)]) then
        let r ← ret (.bool true)
        pure (ForInStep.done (some r, ()))
      else pure (ForInStep.yield (none, ()))) Q E s
  | [], [], s, Q, _, h => wpAny_pure h
  | c :: cs, v :: vs, s, Q, ha, h => by
    rw [List.forIn_cons]
    obtain ⟨⟨C, rfl, hty, hsub⟩, hr⟩ := ha
    refine wpAny_bind (wpAny_bind (call_function_meets kind_sub_nested plain_sub_nested F.entry_issubclass_nested (args_sub_nested_3 _ _ _) (subN hty htD hsub _ _) ?_))
    show wpAny _ _ (truthy (.bool v) >>= _) _ _ _
    refine wpAny_bind (m := truthy (.bool v)) (wpAny_pure ?_)
    cases v with
    | true => exact wpAny_bind (wpAny_pure (wpAny_pure (wpAny_pure h)))
    | false => exact wpAny_pure (sub_items htD cs vs _ Q hr h)
theorem sub_tuple {D : String} {tp : Addr} {cs : List Value} {vs : List Bool} {tk : Tok} {s : Shared} {Q : PySem.Fin → Shared → Prop} (htD : typeOf (.type D) = pure (.type "type"))
    (htp : s.heap.get? tp = some { cls := .type "tuple", data := .seq cs.toArray }) (ha : SubAll D cs vs)
    (hq : Q (.done (.ret (.bool (vs.any id)))) s) : wpAny (model prog w) A (Builtin.«issubclass.nested» ⟨[.type D, .ref tp, .int 0 tk], []⟩) Q E s := by
  obtain ⟨h, g, d, t, os⟩ := s
  have hT2 : (⟨h, g, d, t, os⟩ : Shared).TypeIs (.ref tp) "tuple" := ⟨_, htp, rfl⟩
  have f1 := F.isi_sub_tuple
  repeat (any_goals (first | assumption | wp_step))
  refine wpAny_arrayLoop ?_
  simp only [Option.getD_some, List.toList_toArray]
  refine sub_items (dep := 0) htD cs vs _ _ ha ?_
  cases hv : vs.any id with
  | true =>
    simp only [if_true]
    repeat (any_goals (first | assumption | wp_step))
    exact hv ▸ hq
  | false =>
    simp only [Bool.false_eq_true, if_false]
    repeat (any_goals (first | assumption | wp_step))
    exact hv ▸ hq
theorem call_sub_tuple {D : String} {tp : Addr} {cs : List Value} {vs : List Bool} {s : Shared} {Q : Value → Shared → Prop} (htD : typeOf (.type D) = pure (.type "type"))
    (htp : s.heap.get? tp = some { cls := .type "tuple", data := .seq cs.toArray }) (ha : SubAll D cs vs) (hq : Q (.bool (vs.any id)) s) : wpAny (model prog w) A (call (.builtin "issubclass") [.type D, .ref tp]) Q E s := by
  refine call_issubclass (S := fun _ R s' => s'.heap.get? tp = some { cls := .type "tuple", data := .seq cs.toArray } ∧ R (.ok (.ret (.bool (vs.any id)))) s') (fun prog w A R s' hs => issubclass_outer (sub_tuple htD hs.1 ha hs.2)) ⟨htp, hq⟩
end

section
variable {X : Cx} {k : Nat} {sc : Scope} {σ τ : Sto}
/-- issubclass(c, (a, b)), c a class of the language -/
theorem Ev.issub {f a b : Str} {p pa pb pt pos : Pos} {n : Nat} {e : Expr} {D Ta Tb : String} {b1 b2 : Bool} (hf : EvP X k sc σ (.Name f p) fun _ u => u = .builtin "issubclass") (he : EvP X k sc σ e fun _ u => u = .type D)
    (h1 : EvP X k sc σ (.Name a pa) fun _ u => u = .type Ta) (h2 : EvP X k sc σ (.Name b pb) fun _ u => u = .type Tb) (htD : typeOf (.type D) = pure (.type "type")) (ha : SubAll D [.type Ta, .type Tb] [b1, b2]) (hp : plainE e = true := by rfl) :
    Ev X k sc σ (.Call (.Name f p) [e, .Tuple [.Name a pa, .Name b pb] n pt] [] pos) (.bool (b1 || b2)) := by
  intro A env g s E rm o bs q
  refine wpAny_Call_NameR (wp_ev (hf A env g s E rm o bs q) fun u g1 s1 k1 x1 p1 => ?_)
  subst p1
  refine callWith_of (P := fun h => True) (by rw [plain_any pos env (es := [e, .Tuple [.Name a pa, .Name b pb] n pt]) (by rw [List.all_cons, hp]; rfl)]; rfl) (fun h _ => ⟨.machine, .inr (.inl rfl), Looks.of_pure rfl⟩) ?_
  rw [starEach_plain hp]
  refine evalArgs_plain (spliced_cons (wp_ev (he A env g1 s1 E rm o (bs.trans x1.gg) (q.step x1)) fun v g2 s2 k2 x2 p2 => ?_))
  subst p2
  have bs2 := (bs.trans x1.gg).trans x2.gg
  have q2 := (q.step x1).step x2
  rw [starEach_plain (e := .Tuple [.Name a pa, .Name b pb] n pt) rfl]
  show wpAny _ _ (spliced ((false, eval (.Tuple [.Name a pa, .Name b pb] n pt) env) :: backTo pos (starEach [] env))) _ _ _
  refine spliced_cons (Tuple_ ?_)
  rw [starEach_plain (e := .Name a pa) rfl, starEach_plain (e := .Name b pb) rfl]
  show wpAny _ _ (spliced ((false, eval (.Name a pa) env) :: (false, eval (.Name b pb) env) :: backTo pt (starEach [] env))) _ _ _
  refine spliced_cons (wp_ev (h1 A env g2 s2 E rm o bs2 q2) fun v1 g3 s3 k3 x3 p3 => spliced_cons (wp_ev (h2 A env g3 s3 E rm o (bs2.trans x3.gg) (q2.step x3)) fun v2 g4 s4 k4 x4 p4 => wpAny_items_nil ?_))
  subst p3; subst p4
  refine wpAny_newObj_type (wpAny_items_nil ⟨trivial, ?_⟩)
  have x5 := step_push (o := { cls := .type "tuple", data := .seq (List.toArray [Value.type Ta, Value.type Tb]) }) (x1.trans (x2.trans (x3.trans x4)))
  have k5 : Keeps s { s4 with heap := s4.heap.push { cls := .type "tuple", data := .seq (List.toArray [Value.type Ta, Value.type Tb]) } } := kp_trans k1 (kp_trans k2 (kp_trans k3 (kp_trans k4 (kp_mk (Sub.push .rfl _)))))
  refine call_sub_tuple htD (Heap.get?_push_size _ rfl) ha ?_
  have e : [b1, b2].any id = (b1 || b2) := by cases b1 <;> cases b2 <;> rfl
  rw [e]
  exact .trans k5 x5 (Post.here x5.gh (.bool _))

/-- type(e) -/
theorem op_type {d : Dat} {T : String} (hT : ∀ g v s, Rep g v d → Sub g s.heap → Shared.TypeIs s v T) (hn : (Value.type T == Value.type "builtin_function_or_method") = false := by decide) : OpN X k (fun vs => call (.type "type") vs) [d] fun g v => v = .type T := by
  intro g s vs b0 kk r A E rm
  cases r with
  | cons r rn =>
    cases rn
    exact call_type_of (hT _ _ _ r kk) hn (Post.here kk rfl)
end
end Mine

namespace Mine
open PySem PySem.W PyProof.Rows PySem.Calls
set_option Elab.async false
set_option maxRecDepth 100000
set_option linter.unusedVariables false

/-- a text, given by its signs' numbers -/
def strOf (ns : List Int) : Str := ⟨(ns.map Int.toNat).toArray⟩
def dText (ns : List Int) : Dat := .str (strOf ns)
/-- signs' numbers are no less than nought -/
def Pos0 (ns : List Int) : Prop := ∀ n ∈ ns, 0 ≤ n
theorem strOf_length {ns : List Int} : (strOf ns).length = ns.length := by unfold strOf Str.length; simp
theorem strOf_append {a b : List Int} : strOf (a ++ b) = strOf a ++ strOf b := by
  show strOf (a ++ b) = Str.append (strOf a) (strOf b)
  unfold strOf Str.append; simp
theorem toNat_map_inj : ∀ {a b : List Int}, Pos0 a → Pos0 b → a.map Int.toNat = b.map Int.toNat → a = b
  | [], [], _, _, _ => rfl
  | [], _ :: _, _, _, h => by simp at h
  | _ :: _, [], _, _, h => by simp at h
  | x :: a, y :: b, h1, h2, h => by
    simp only [List.map_cons, List.cons.injEq] at h
    have e1 := h1 x (by simp)
    have e2 := h2 y (by simp)
    rw [toNat_map_inj (fun n hn => h1 n (List.mem_cons_of_mem _ hn)) (fun n hn => h2 n (List.mem_cons_of_mem _ hn)) h.2, show x = y by omega]
theorem strOf_inj {a b : List Int} (h1 : Pos0 a) (h2 : Pos0 b) (h : strOf a = strOf b) : a = b := by
  have := congrArg (fun (x : Str) => x.cps.toList) h
  exact toNat_map_inj h1 h2 (by simpa [strOf] using this)
theorem lt_map : ∀ {a b : List Int}, Pos0 a → Pos0 b → (a.map Int.toNat < b.map Int.toNat ↔ a < b)
  | [], [], _, _ => by simp
  | [], _ :: _, _, _ => by simp
  | _ :: _, [], _, _ => by simp
  | x :: a, y :: b, h1, h2 => by
    have e1 := h1 x (by simp)
    have e2 := h2 y (by simp)
    have ih := lt_map (a := a) (b := b) (fun n hn => h1 n (List.mem_cons_of_mem _ hn)) (fun n hn => h2 n (List.mem_cons_of_mem _ hn))
    simp only [List.map_cons, List.cons_lt_cons_iff, ih]
    constructor
    · rintro (h | ⟨h, h'⟩)
      · exact .inl (by omega)
      · exact .inr ⟨by omega, h'⟩
    · rintro (h | ⟨h, h'⟩)
      · exact .inl (by omega)
      · exact .inr ⟨by omega, h'⟩

theorem pick_range {α : Type} (xs : List α) : ∀ (m a : Nat), a + m ≤ xs.length → (List.range' a m).filterMap (xs[·]?) = (xs.drop a).take m
  | 0, a, _ => by simp
  | m + 1, a, h => by
    have ha : a < xs.length := by omega
    rw [List.range'_succ, List.filterMap_cons]
    have e : xs[a]? = some xs[a] := by simp [ha]
    simp only [e]
    rw [pick_range xs m (a + 1) (by omega), List.drop_eq_getElem_cons ha, List.take_succ_cons]
theorem indices_eq (lo hi : Option Int) (n : Nat) : Builtin.Str.strSliceIndices lo hi 1 n = List.range' (kms_lo lo n) (kms_hi hi n - kms_lo lo n) := by
  have key : ∀ a b : Nat, sliceRange (a : Int) (b : Int) 1 = List.range' a (b - a) := by
    intro a b
    unfold sliceRange
    have h1 : (1 : Int) > 0 := by decide
    simp only [h1, if_true]
    rw [List.range'_eq_map_range]
    have e : (if (a : Int) < b then ((b : Int) - a + 1 - 1) / 1 else 0).toNat = b - a := by
      split
      · rw [Int.ediv_one]; omega
      · simp; omega
    rw [e]
    apply List.map_congr_left
    intro k _
    omega
  rw [← key]
  unfold Builtin.Str.strSliceIndices
  have h1 : (1 : Int) > 0 := by decide
  simp only [h1, if_true]
  congr 1
  · cases lo with
    | none => rfl
    | some x =>
      unfold kms_lo
      simp only
      split <;> (try split) <;> omega
  · cases hi with
    | none => rfl
    | some x =>
      unfold kms_hi
      simp only
      split <;> (try split) <;> omega
theorem lo_hi_le (lo hi : Option Int) (n : Nat) : kms_lo lo n ≤ n ∧ kms_hi hi n ≤ n := by
  constructor
  · cases lo <;> unfold kms_lo
    · exact Nat.zero_le _
    · simp only; split <;> omega
  · cases hi <;> unfold kms_hi
    · exact Nat.le_refl _
    · simp only; split <;> omega
/-- a cut of a text -/
def cutS (x : Str) (lo hi : Option Int) : Str := ⟨(cut x.cps.toList lo hi).toArray⟩
theorem picked_eq (x : Str) (lo hi : Option Int) : (⟨((Builtin.Str.strSliceIndices lo hi 1 x.length).filterMap (x.cps[·]?)).toArray⟩ : Str) = cutS x lo hi := by
  rw [indices_eq]
  obtain ⟨h1, h2⟩ := lo_hi_le lo hi x.length
  have hl : x.cps.toList.length = x.length := by rw [Array.length_toList]; rfl
  have e : (fun i : Nat => x.cps[i]?) = fun i => x.cps.toList[i]? := by funext i; simp
  unfold cutS cut
  rw [hl, e]
  rcases Nat.le_total (kms_lo lo x.length) (kms_hi hi x.length) with h | h
  · rw [pick_range x.cps.toList _ _ (by rw [hl]; omega)]
  · have : kms_hi hi x.length - kms_lo lo x.length = 0 := by omega
    rw [this]; simp
theorem cutS_whole {x : Str} {lo hi : Option Int} (h : (Builtin.Str.strSliceIndices lo hi 1 x.length).length = x.length) : cutS x lo hi = x := by
  rw [indices_eq, List.length_range'] at h
  obtain ⟨h1, h2⟩ := lo_hi_le lo hi x.length
  have hl : x.cps.toList.length = x.length := by rw [Array.length_toList]; rfl
  unfold cutS cut
  rw [hl]
  rcases Nat.eq_zero_or_pos x.length with h0 | h0
  · have : x.cps.toList = [] := List.length_eq_zero_iff.mp (hl.trans h0)
    rw [this]
    have e2 : x.cps = #[] := by simpa using this
    cases x
    simp at e2
    subst e2
    rw [List.drop_nil, List.take_nil]
  · have e1 : kms_lo lo x.length = 0 := by omega
    have e2 : kms_hi hi x.length = x.length := by omega
    rw [e1, e2, List.drop_zero, Nat.sub_zero, List.take_of_length_le (by rw [hl]; exact Nat.le_refl _)]
theorem cut_map {α β : Type} (f : α → β) (l : List α) (lo hi : Option Int) : cut (l.map f) lo hi = (cut l lo hi).map f := by
  unfold cut; rw [List.length_map, List.map_take, List.map_drop]
theorem cutS_strOf {ns : List Int} {lo hi : Option Int} : cutS (strOf ns) lo hi = strOf (cut ns lo hi) := by
  unfold cutS strOf
  rw [List.toList_toArray, cut_map]
theorem cutS_length_le {x : Str} {lo hi : Option Int} : (cutS x lo hi).length ≤ x.length := by
  have := cut_length_le x.cps.toList lo hi
  rw [Array.length_toList] at this
  show (cut x.cps.toList lo hi).toArray.size ≤ x.cps.size
  simpa using this

section
variable {X : Cx} {k : Nat} {sc : Scope} {σ τ : Sto}
theorem op_neS {x y : Str} : Op2 X k (compareOp .NotEq) (.str x) (.str y) (.bool (x != y)) := by
  intro g s u v b0 kk hu hv; cases hu; cases hv
  exact Does.tok kk fun A E Q r h => PyProof.Rows.ne_str (h _ _ (.bool _))

theorem made_slice {x : Str} {t : Tok} {l u : Option (Int × Tok)} {g : Heap} {s : Shared} {Q : Value → Shared → Prop} (kk : Sub g s.heap) (hz : x.length ≤ sizeLine)
    (hq : ∀ v s', Post g s (fun g v => Rep g v (.str (cutS x (l.map (·.1)) (u.map (·.1))))) v s' → Q v s') : (sliceMade x t l u none).post Q s := by
  unfold sliceMade
  have ep : slicePicked x l u none = Builtin.Str.strSliceIndices (l.map (·.1)) (u.map (·.1)) 1 x.length := rfl
  rw [ep]
  split
  · rename_i h
    have h' : (Builtin.Str.strSliceIndices (l.map (·.1)) (u.map (·.1)) 1 x.length).length = x.length := by
      simp only [Bool.and_eq_true, beq_iff_eq] at h; exact h.2
    rw [cutS_whole h'] at hq
    exact hq _ _ (Post.here kk (.str _ _))
  · rw [picked_eq]
    exact ⟨Nat.le_trans cutS_length_le hz, hq _ _ (Post.tok kk (.str _ _))⟩
theorem partValue_of {v : Value} {i : Option Int} (h : IsPart v i) : ∃ l : Option (Int × Tok), v = partValue l ∧ l.map (·.1) = i := by
  cases h with
  | none => exact ⟨none, rfl, rfl⟩
  | int i t => exact ⟨some (i, t), rfl, rfl⟩
theorem Ev.sliceS {value : Expr} {lower upper : Option Expr} {p pos : Pos} {x : Str} {lo hi : Option Int} (hv : Ev X k sc σ value (.str x)) (hl : EvO X k sc σ lower lo) (hu : EvO X k sc σ upper hi) (hz : x.length ≤ sizeLine)
    (ht : ∀ o r, letTemporaryGo value o r = pure () := by intro _ _; rfl) : Ev X k sc σ (.Subscript value (.Slice lower upper Option.none p) pos) (.str (cutS x lo hi)) := by
  intro A env g s E rm o bs q
  refine wpAny_Subscript_str_slice (wp_ev (hv A env g s E rm o bs q) fun u g1 s1 k1 x1 p1 => wp_ev (hl A env g1 s1 E rm o (bs.trans x1.gg) (q.step x1)) fun vl g2 s2 k2 x2 p2 =>
    wp_ev (hu A env g2 s2 E rm o ((bs.trans x1.gg).trans x2.gg) ((q.step x1).step x2)) fun vu g3 s3 k3 x3 p3 => ?_) ht
  cases p1
  rename_i tk
  obtain ⟨l, rfl, rfl⟩ := partValue_of p2
  obtain ⟨u, rfl, rfl⟩ := partValue_of p3
  refine ⟨x, tk, l, u, rfl, rfl, rfl, ?_⟩
  have x4 := step_push (o := { cls := .type "slice", data := .fields #[partValue l, partValue u, .none] }) (x1.trans (x2.trans x3))
  have k4 : Keeps s { s3 with heap := s3.heap.push { cls := .type "slice", data := .fields #[partValue l, partValue u, .none] } } := kp_trans k1 (kp_trans k2 (kp_trans k3 (kp_mk (Sub.push .rfl _))))
  exact made_slice (x := x) (t := tk) (l := l) (u := u) (s := { s3 with heap := s3.heap.push { cls := .type "slice", data := .fields #[partValue l, partValue u, .none] } }) x4.gh hz fun v s' y => .trans k4 x4 y
theorem Ev.itemS {value slice : Expr} {pos : Pos} {x : Str} {i : Int} {c : Nat} (hv : Ev X k sc σ value (.str x)) (hi : Ev X k sc σ slice (.int i)) (h0 : 0 ≤ i) (h1 : i < 2 ^ 63) (hc : x.cps[i.toNat]? = some c)
    (hs : ∀ x t i u, subscripted slice false (.str x t) (.int i u) = operate [.str x t, .int i u] (getItem (.str x t) (.int i u)) := by intro _ _ _ _; with_unfolding_all rfl)
    (ht : ∀ x t r, letTemporaryGo value (.str x t) r = pure () := by intro _ _ _; with_unfolding_all rfl) : Ev X k sc σ (.Subscript value slice pos) (.str ⟨#[c]⟩) := by
  intro A env g s E rm o bs q
  refine Subscript_ (wp_ev (hv A env g s E rm o bs q) fun u g1 s1 k1 x1 p1 => wp_ev (hi A env g1 s1 E rm o (bs.trans x1.gg) (q.step x1)) fun v g2 s2 k2 x2 p2 => ?_)
  cases p1; cases p2
  have hlt : i.toNat < x.cps.size := (Array.getElem?_eq_some_iff.mp hc).1
  have hlt' : i < (x.length : Int) := by show i < (x.cps.size : Int); omega
  refine item_str (by unfold fitsSsize; simp; omega) (by omega) hlt' (fun _ => ?_) (hs _ _ _ _) (ht _ _)
  have e : Txt.item x i = ⟨#[c]⟩ := by
    unfold Txt.item Txt.charAt seqIndex?
    have hn : ¬ i < 0 := by omega
    have hb : (decide (0 ≤ i) && decide (i < (x.length : Int))) = true := by simp; omega
    simp only [if_neg hn, hb, if_true, Option.bind_some, hc, Option.getD_some]
  rw [e]
  exact .trans (kp_trans k1 k2) (x1.trans x2) (Post.tok x2.gh (.str _ _))
end
end Mine

namespace Mine
open PySem PySem.W PyProof.Rows PySem.Calls
set_option Elab.async false
set_option maxRecDepth 100000
set_option linter.unusedVariables false

/-- names that the text leaves to the language -/
structure Free (X : Cx) : Prop where
  len : X.mg "len" = none
  min : X.mg "min" = none
  max : X.mg "max" = none
  isinstance : X.mg "isinstance" = none
  list : X.mg "list" = none
  tuple : X.mg "tuple" = none
  enumerate : X.mg "enumerate" = none
  range : X.mg "range" = none
  map : X.mg "map" = none
  type : X.mg "type" = none
  issubclass : X.mg "issubclass" = none
  str : X.mg "str" = none
  bytes : X.mg "bytes" = none
  abs : X.mg "abs" = none
  divmod : X.mg "divmod" = none
  sorted : X.mg "sorted" = none
  sum : X.mg "sum" = none
  set : X.mg "set" = none
  ord : X.mg "ord" = none

def okT (ns : List Int) : Prop := Pos0 ns ∧ ns.length ≤ sizeLine
theorem rc_lt_str {X : Cx} {A : Around} {E : Value → Shared → Prop} {s : Shared} {Q : Value → Shared → Prop} {x y : Str} {t u : Tok} (h : Q (.bool (decide (x.cps.toList < y.cps.toList))) s) : wpAny X.M A (richCompare .Lt (.str x t) (.str y u)) Q E s := by
  show wpAny X.M A (compareOp .Lt (.str x t) (.str y u)) Q E s
  exact PyProof.Rows.lt_str h
theorem rc_gt_str {X : Cx} {A : Around} {E : Value → Shared → Prop} {s : Shared} {Q : Value → Shared → Prop} {x y : Str} {t u : Tok} (h : Q (.bool (decide (y.cps.toList < x.cps.toList))) s) : wpAny X.M A (richCompare .Gt (.str x t) (.str y u)) Q E s := by
  show wpAny X.M A (compareOp .Gt (.str x t) (.str y u)) Q E s
  exact PySem.P.gt_str h
theorem lt_strOf {a b : List Int} (h1 : Pos0 a) (h2 : Pos0 b) : decide ((strOf a).cps.toList < (strOf b).cps.toList) = decide (a < b) := by
  refine decide_eq_decide.mpr ?_
  show (a.map Int.toNat).toArray.toList < (b.map Int.toNat).toArray.toList ↔ a < b
  rw [List.toList_toArray, List.toList_toArray]
  exact lt_map h1 h2
theorem strOf_get {a : List Int} {i : Nat} {c : Int} (h : a[i]? = some c) : (strOf a).cps[i]? = some c.toNat := by
  show (a.map Int.toNat).toArray[i]? = some c.toNat
  rw [List.getElem?_toArray, List.getElem?_map, h]; rfl
theorem seqK_text (X : Cx) : SeqK X dText (fun c => .str ⟨#[c.toNat]⟩) okT where
  lt := by
    intro A E Q s g u v a b h1 h2 hu kk r1 r2 h
    cases r1; cases r2
    refine rc_lt_str ?_
    rw [lt_strOf h1.1 h2.1]; exact h
  gt := by
    intro A E Q s g u v a b h1 h2 hu kk r1 r2 h
    cases r1; cases r2
    refine rc_gt_str ?_
    rw [lt_strOf h2.1 h1.1]; exact h
  enum := by
    intro k g s v a _ kk r
    cases r
    have e : chars (strOf a) = a.map fun c => Dat.str ⟨#[c.toNat]⟩ := by
      unfold chars strOf
      rw [List.toList_toArray, List.map_map]; rfl
    rw [← e]
    exact enumOf_str kk
  item := by
    intro k sc σ z pz y p pos a i c _ hv hi hc hb
    exact Ev.itemS hv hi (by omega) (by omega) (by simpa using strOf_get hc)
  ne := by
    intro k a b i j ha hb hi hj
    have h1 := ha.1 i hi
    have h2 := hb.1 j hj
    have e : ((⟨#[i.toNat]⟩ : Str) != ⟨#[j.toNat]⟩) = (i != j) := by
      by_cases q : i = j
      · subst q; simp
      · have q1 : (i != j) = true := by simpa using q
        have q2 : (⟨#[i.toNat]⟩ : Str) ≠ ⟨#[j.toNat]⟩ := fun x => by
          simp at x; omega
        rw [q1]; simpa using q2
    rw [← e]
    exact op_neS
  slice := by
    intro k sc σ z pz y p ps pos a i ho hv hi
    refine (Ev.sliceS hv .none (.some hi) (by rw [strOf_length]; exact ho.2)).to ?_
    rw [cutS_strOf, cut_upto]; rfl
end Mine

namespace Mine
open PySem PySem.W PyProof.Rows PySem.Calls
set_option Elab.async false
set_option maxRecDepth 100000
set_option linter.unusedVariables false

section
variable {X : Cx} {k : Nat}
theorem op_max2 {a b : Int} : OpN X k (fun vs => call (.builtin "max") vs) [.int a, .int b] fun g v => Rep g v (.int (max a b)) := by
  intro g s vs b0 kk r A E rm
  cases r with
  | cons r1 r =>
    cases r with
    | cons r2 r =>
      cases r; cases r1; cases r2
      refine max_two_ints rm.hh fun h' tk hk => ?_
      refine ⟨kp_mk hk, g, ⟨.rfl, hk, kk.trans hk, fun _ _ e => .inl e⟩, ?_⟩
      split
      · rw [show max a b = b by omega]; exact .int _ _
      · rw [show max a b = a by omega]; exact .int _ _
end

section
variable {X : Cx} {k : Nat} {sc : Scope} {τ : Sto} {s₀ s : Shared} {g₀ g : Heap} {env : Env} {H : List (Addr × Obj)} {m cm : Str → Option Value}
end

section
variable {X : Cx} {k : Nat} {sc : Scope} {τ : Sto} {s₀ s : Shared} {g₀ g : Heap} {env : Env} {H : List (Addr × Obj)} {m cm : Str → Option Value}
end
end Mine

namespace Mine
open PySem PySem.W PyProof.Rows PySem.Calls
set_option Elab.async false
set_option maxRecDepth 100000
set_option linter.unusedVariables false

section
variable {X : Cx} {k : Nat} {sc : Scope} {σ τ : Sto} {s₀ s : Shared} {g₀ g : Heap} {env : Env} {H : List (Addr × Obj)} {m cm : Str → Option Value}

theorem iterOf_strK {x : Str} {t : Tok} {n : String} (kk : Sub g s.heap) (hn : ownedNames.contains n = false)
    (hit : ∀ (A : Around) (E : Value → Shared → Prop) (Q : Value → Shared → Prop), Q (.ref s.heap.objs.size) { s with heap := s.heap.push { cls := .type n, data := .fields #[.str x t, .int 0 0] } } → wpAny X.M A (pyIter (.str x t)) Q E s)
    (hw : ∀ A', A'.handled = none → Walks X.prog X.w A' s.heap.objs.size [s.heap.objs.size] [s.heap.objs.size] x.cps.size (SignAt x) (fun i h => h.IsStrIter s.heap.objs.size n x t i)) : IterOf X k g s (.str x t) (chars x) := by
  intro A E rm
  have hl : (chars x).length = x.cps.size := by simp [chars]
  refine hit A E _ ⟨kp_mk (Sub.push .rfl _), s.heap.objs.size, [s.heap.objs.size], [s.heap.objs.size], SignAt x, (fun i h => h.IsStrIter s.heap.objs.size n x t i), rfl, ?_⟩
  exact {
    walks := fun A' hA => hl ▸ hw A' hA
    start := ⟨_, Heap.get?_push_size _ rfl, rfl, rfl⟩
    low := fun b hb => by
      show b < (s.heap.push _).objs.size
      rw [Heap.size_push, List.mem_singleton.mp hb]
      exact Nat.lt_succ_self _
    fresh := fun b hb => by rw [List.mem_singleton.mp hb]; exact fresh_size
    live := fun i h st b hb => by
      obtain ⟨o, ho, _⟩ := st
      rw [List.mem_singleton.mp hb, ho]; rfl
    foot := fun b hb => .inl hb
    item := fun i v hv => by
      obtain ⟨c, u, hc, rfl⟩ := hv
      exact ⟨.str ⟨#[c]⟩, by simp [chars, hc], .str _ _⟩
    own := fun i A' E' target v s' Q st q => by
      obtain ⟨o, ho, hc, _⟩ := st
      exact letOwned_ok ho hc hn q }
theorem iterOf_str {x : Str} {t : Tok} (kk : Sub g s.heap) : IterOf X k g s (.str x t) (chars x) := by
  cases ha : x.cps.all (· < 128)
  · exact iterOf_strK (n := "str_iterator") kk (by decide) (fun A E Q h => wpAny_pyIter_wide ha h) fun A' hA => Walks.strWide hA _ x t
  · exact iterOf_strK (n := "str_ascii_iterator") kk (by decide) (fun A E Q h => wpAny_pyIter_ascii ha h) fun A' hA => Walks.strAscii hA _ x t
theorem Its.str {e : Expr} {x : Str} (h : Ev X k sc σ e (.str x)) (hs : ∀ env x, foldedSetIterable e env x = pure x := by intro _ _; rfl) : Its X k sc σ e (chars x) :=
  ⟨h.mono fun g v r s kk => by cases r; exact iterOf_str kk, hs⟩
/-- a datum of the state may be read -/
theorem dInts_length {ns : List Int} : (dInts ns).length = ns.length := by simp [dInts]
theorem len_list {X : Cx} {k : Nat} {ds : List Dat} (h : ds.length < 2 ^ 62) : OpN X k (fun vs => call (.builtin "len") vs) [.list ds] fun g v => Rep g v (.int (ds.length : Nat)) :=
  op_len rfl (by omega)
theorem small : ∀ n : Nat, n ≤ 4096 → n ≤ sizeLine := fun n h => Nat.le_trans h (by decide)
theorem len_text {X : Cx} {k : Nat} {w : List Int} (h : w.length < 2 ^ 62) : OpN X k (fun vs => call (.builtin "len") vs) [dText w] fun g v => Rep g v (.int (w.length : Nat)) :=
  op_len (by show (strOf w).length = _; exact strOf_length) (by omega)
end
end Mine

namespace Mine
open PySem PySem.W PyProof.Rows PySem.Calls
set_option Elab.async false
set_option maxRecDepth 100000
set_option linter.unusedVariables false

/-- rows are ordered through and through -/
theorem le_tr {a b c : List Int} (h1 : ¬ b < a) (h2 : ¬ c < b) : ¬ c < a := fun h => by
  have h1' : a ≤ b := h1
  have h2' : b ≤ c := h2
  exact (List.le_trans h1' h2') h
theorem lt_as {a b : List Int} (h : a < b) : ¬ b < a := fun h2 => List.lt_irrefl _ (List.lt_trans h h2)
theorem le_as {a b : List Int} (h1 : ¬ b < a) (h2 : ¬ a < b) : a = b := List.le_antisymm (show a ≤ b from h1) (show b ≤ a from h2)

section
variable {N : Nat} {key : Nat → List Int} {cmp : Nat → Nat → (Bool → Shared → Prop) → Shared → Prop} {I : Shared → Prop}

/-- the questions are answered by the keys -/
def Tells (N : Nat) (key : Nat → List Int) (I : Shared → Prop) (cmp : Nat → Nat → (Bool → Shared → Prop) → Shared → Prop) : Prop :=
  ∀ (i j : Nat) (C : Bool → Shared → Prop) (s : Shared), i < N → j < N → I s → (∀ s', I s' → C (decide (key i < key j)) s') → cmp i j C s
structure Pm (N : Nat) (p : Array Nat) : Prop where
  perm : p.toList.Perm (List.range N)
theorem Pm.size {p : Array Nat} (h : Pm N p) : p.size = N := by
  have := h.perm.length_eq
  rw [List.length_range, Array.length_toList] at this
  exact this
theorem Pm.lt {p : Array Nat} (h : Pm N p) (hN : 0 < N) (x : Nat) : p.getD x 0 < N := by
  by_cases hx : x < p.size
  · have e : p.getD x 0 = p[x] := by simp [Array.getD, hx]
    rw [e]
    have : p[x] ∈ p.toList := by simp
    exact List.mem_range.mp (h.perm.mem_iff.mp this)
  · have e : p.getD x 0 = 0 := by simp [Array.getD, hx]
    rw [e]; exact hN
theorem Pm.rev {p : Array Nat} (h : Pm N p) (i j : Nat) : Pm N (kas_rev p i j) := ⟨(Array.perm_iff_toList_perm.mp (mirror_perm p i j _)).trans h.perm⟩
theorem Pm.bub {p : Array Nat} (h : Pm N p) (i j : Nat) : Pm N (bubble p i j) := ⟨(Array.perm_iff_toList_perm.mp (bubble_perm p i j)).trans h.perm⟩
def K (key : Nat → List Int) (p : Array Nat) (x : Nat) : List Int := key (p.getD x 0)
def Up (key : Nat → List Int) (p : Array Nat) (b : Nat) : Prop := ∀ i j, i < j → j < b → ¬ K key p j < K key p i
def Dn (key : Nat → List Int) (p : Array Nat) (b : Nat) : Prop := ∀ i j, i < j → j < b → ¬ K key p i < K key p j
def Tl (key : Nat → List Int) (p : Array Nat) (n q : Nat) : Prop := ∀ i, n - (q + 1) ≤ i → i < n → ¬ K key p (n - 1) < K key p i
theorem getD_of {p q : Array Nat} {x y : Nat} (h : p[x]? = q[y]?) : p.getD x 0 = q.getD y 0 := by
  rw [Array.getD_eq_getD_getElem?, Array.getD_eq_getD_getElem?, h]
theorem K_rev {p : Array Nat} {i j : Nat} (hj : j ≤ p.size) (x : Nat) : K key (kas_rev p i j) x = if i ≤ x ∧ x < j then K key p (i + j - 1 - x) else K key p x := by
  have e := getElem?_mirror_all (xs := p) (i := i) hj x
  by_cases h : i ≤ x ∧ x < j
  · rw [if_pos h] at e ⊢
    exact congrArg key (getD_of e)
  · rw [if_neg h] at e ⊢
    exact congrArg key (getD_of e)
theorem K_bub {p : Array Nat} {src d : Nat} (hs : src < p.size) (hd : d ≤ src) (x : Nat) : K key (bubble p src d) x = if x = src - d then K key p src else if src - d < x ∧ x ≤ src then K key p (x - 1) else K key p x := by
  have e := getElem?_bubble (xs := p) hs d hd x
  by_cases h : x = src - d
  · rw [if_pos h] at e ⊢
    exact congrArg key (getD_of e)
  · rw [if_neg h] at e ⊢
    by_cases h2 : src - d < x ∧ x ≤ src
    · rw [if_pos h2] at e ⊢
      exact congrArg key (getD_of e)
    · rw [if_neg h2] at e ⊢
      exact congrArg key (getD_of e)
theorem Up.snoc {p : Array Nat} {n : Nat} (h : Up key p n) (hl : ∀ i, i < n → ¬ K key p n < K key p i) : Up key p (n + 1) := fun i j hij hj => by
  rcases Nat.lt_or_ge j n with h2 | h2
  · exact h i j hij h2
  · have : j = n := by omega
    subst this
    exact hl i hij
theorem Dn.snoc {p : Array Nat} {n : Nat} (h : Dn key p n) (hl : ∀ i, i < n → ¬ K key p i < K key p n) : Dn key p (n + 1) := fun i j hij hj => by
  rcases Nat.lt_or_ge j n with h2 | h2
  · exact h i j hij h2
  · have : j = n := by omega
    subst this
    exact hl i hij
theorem Up.last {p : Array Nat} {n i : Nat} (h : Up key p n) (hi : i < n) : ¬ K key p (n - 1) < K key p i := by
  rcases Nat.lt_or_ge i (n - 1) with h2 | h2
  · exact h i (n - 1) h2 (by omega)
  · have : i = n - 1 := by omega
    subst this
    exact List.lt_irrefl _
theorem Dn.last {p : Array Nat} {n i : Nat} (h : Dn key p n) (hi : i < n) : ¬ K key p i < K key p (n - 1) := by
  rcases Nat.lt_or_ge i (n - 1) with h2 | h2
  · exact h i (n - 1) h2 (by omega)
  · have : i = n - 1 := by omega
    subst this
    exact List.lt_irrefl _

variable (T : Tells N key I cmp) (hN : 0 < N)
include T hN
theorem asc_wp {Q : Nat → Shared → Prop} {p : Array Nat} (hp : Pm N p) : ∀ (f n : Nat) (s : Shared), 1 ≤ n → Up key p n → I s →
    (∀ m s', n ≤ m → m ≤ n + f → Up key p m → (m < n + f → K key p m < K key p (m - 1)) → I s' → Q m s') → (kas_asc p f n).kasWp cmp Q s
  | 0, n, s, h1, hu, hs, hQ => hQ n s (Nat.le_refl _) (Nat.le_refl _) hu (fun h => absurd h (Nat.lt_irrefl _)) hs
  | f + 1, n, s, h1, hu, hs, hQ => by
    refine T _ _ _ s (hp.lt hN _) (hp.lt hN _) hs fun s' hs' => ?_
    show KasT.kasWp cmp (if decide (K key p n < K key p (n - 1)) = true then KasT.ret n else kas_asc p f (n + 1)) Q s'
    by_cases hc : K key p n < K key p (n - 1)
    · rw [decide_eq_true hc, if_pos rfl]
      exact hQ n s' (Nat.le_refl _) (by omega) hu (fun _ => hc) hs'
    · rw [decide_eq_false hc, if_neg (by decide)]
      refine asc_wp hp f (n + 1) s' (by omega) (hu.snoc fun i hi => le_tr (hu.last hi) hc) hs' fun m s'' a b c d e => hQ m s'' (by omega) (by omega) c (fun h => d (by omega)) e
omit T hN in
theorem Dn.revTail {p : Array Nat} (hp : Pm N p) {n q : Nat} (hn : n ≤ N) (hq : q + 1 ≤ n) (hd : Dn key p n) (ht : Tl key p n q) : Dn key (kas_rev p (n - (q + 1)) n) n := by
  have hz : n ≤ p.size := by rw [hp.size]; exact hn
  intro i j hij hj
  rw [K_rev hz, K_rev hz]
  by_cases h1 : n - (q + 1) ≤ i
  · rw [if_pos ⟨h1, by omega⟩, if_pos ⟨by omega, hj⟩]
    generalize hx : n - (q + 1) + n - 1 - i = x
    generalize hy : n - (q + 1) + n - 1 - j = y
    exact le_tr (ht y (by omega) (by omega)) (hd.last (by omega))
  · rw [if_neg (fun h => h1 h.1)]
    by_cases h2 : n - (q + 1) ≤ j
    · rw [if_pos ⟨h2, hj⟩]
      exact hd _ _ (by omega) (by omega)
    · rw [if_neg (fun h => h2 h.1)]
      exact hd i j hij hj
theorem desc_wp {Q : Array Nat × Nat × Nat → Shared → Prop} : ∀ (f : Nat) (p : Array Nat) (n q : Nat) (s : Shared), Pm N p → 1 ≤ n → q + 1 ≤ n → n + f ≤ N → Dn key p n → Tl key p n q → I s →
    (∀ p' n' q' s', Pm N p' → n ≤ n' → n' ≤ n + f → q' + 1 ≤ n' → Dn key p' n' → Tl key p' n' q' → I s' → Q (p', n', q') s') → (kas_desc f p n q).kasWp cmp Q s
  | 0, p, n, q, s, hp, h1, h2, h3, hd, ht, hs, hQ => hQ p n q s hp (Nat.le_refl _) (Nat.le_refl _) h2 hd ht hs
  | f + 1, p, n, q, s, hp, h1, h2, h3, hd, ht, hs, hQ => by
    refine T _ _ _ s (hp.lt hN _) (hp.lt hN _) hs fun s' hs' => ?_
    show KasT.kasWp cmp (if decide (K key p n < K key p (n - 1)) = true then (if q > 0 then kas_desc f (kas_rev p (n - (q + 1)) n) (n + 1) 0 else kas_desc f p (n + 1) 0)
      else .ask (p.getD (n - 1) 0) (p.getD n 0) fun d => if d = true then .ret (p, n, q) else kas_desc f p (n + 1) (q + 1)) Q s'
    have hz : n ≤ p.size := by rw [hp.size]; omega
    by_cases hc : K key p n < K key p (n - 1)
    · rw [decide_eq_true hc, if_pos rfl]
      have t0 : ∀ p' : Array Nat, Tl key p' (n + 1) 0 := fun p' i hi hi2 => by
        have : i = n := by omega
        subst this
        exact List.lt_irrefl _
      split
      · refine desc_wp f _ (n + 1) 0 s' (hp.rev _ _) (by omega) (by omega) (by omega) ((hd.revTail hp (by omega) h2 ht).snoc fun i hi => ?_) (t0 _) hs' fun p' n' q' s'' a b c d e g h => hQ p' n' q' s'' a (by omega) (by omega) d e g h
        rw [K_rev hz, K_rev hz]
        have en : ¬ (n - (q + 1) ≤ n ∧ n < n) := fun h => Nat.lt_irrefl _ h.2
        rw [if_neg en]
        split
        · exact le_tr (lt_as hc) (hd.last (by omega))
        · exact le_tr (lt_as hc) (hd.last (by omega))
      · exact desc_wp f p (n + 1) 0 s' hp (by omega) (by omega) (by omega) (hd.snoc fun i hi => le_tr (lt_as hc) (hd.last hi)) (t0 _) hs' fun p' n' q' s'' a b c d e g h => hQ p' n' q' s'' a (by omega) (by omega) d e g h
    · rw [decide_eq_false hc, if_neg (by decide)]
      refine T _ _ _ s' (hp.lt hN _) (hp.lt hN _) hs' fun s2 hs2 => ?_
      show KasT.kasWp cmp (if decide (K key p (n - 1) < K key p n) = true then .ret (p, n, q) else kas_desc f p (n + 1) (q + 1)) Q s2
      by_cases hc2 : K key p (n - 1) < K key p n
      · rw [decide_eq_true hc2, if_pos rfl]
        exact hQ p n q s2 hp (Nat.le_refl _) (by omega) h2 hd ht hs2
      · rw [decide_eq_false hc2, if_neg (by decide)]
        refine desc_wp f p (n + 1) (q + 1) s2 hp (by omega) (by omega) (by omega) (hd.snoc fun i hi => le_tr hc2 (hd.last hi)) (fun i hi hi2 => ?_) hs2 fun p' n' q' s'' a b c d e g h => hQ p' n' q' s'' a (by omega) (by omega) d e g h
        show ¬ K key p n < K key p i
        rcases Nat.lt_or_ge i n with h | h
        · exact le_tr (ht i (by omega) h) hc
        · have : i = n := by omega
          subst this
          exact List.lt_irrefl _
/-- what a count of the first run brings -/
def Run (N : Nat) (key : Nat → List Int) (I : Shared → Prop) (Q : Nat × Array Nat → Shared → Prop) : Prop := ∀ m p' s', 1 ≤ m → m ≤ N → Pm N p' → Up key p' m → I s' → Q (m, p') s'
theorem tail3_wp {Q : Nat × Array Nat → Shared → Prop} {p : Array Nat} {n : Nat} {s : Shared} (hp : Pm N p) (h1 : 1 ≤ n) (hn : n ≤ N) (hd : Dn key p n) (hs : I s) (hQ : Run N key I Q) : (kas_tail3 n N p).kasWp cmp Q s := by
  unfold kas_tail3
  rw [KasT.kasWp_bind]
  have hz : n ≤ p.size := by rw [hp.size]; exact hn
  refine asc_wp T hN (hp.rev 0 n) (N - n) n s h1 (fun i j hij hj => ?_) hs fun m s' a b c d e => hQ m _ s' (by omega) (by omega) (hp.rev 0 n) c e
  rw [K_rev hz, K_rev hz, if_pos ⟨Nat.zero_le _, hj⟩, if_pos ⟨Nat.zero_le _, by omega⟩]
  exact hd _ _ (by omega) (by omega)
theorem descPart_wp {Q : Nat × Array Nat → Shared → Prop} {p : Array Nat} {n : Nat} {s : Shared} (hp : Pm N p) (hn : n + 1 ≤ N) (hd : Dn key p (n + 1)) (hs : I s) (hQ : Run N key I Q) : (kas_descPart n N p).kasWp cmp Q s := by
  unfold kas_descPart
  rw [KasT.kasWp_bind]
  refine desc_wp T hN _ p (n + 1) 0 s hp (by omega) (by omega) (by omega) hd (fun i hi hi2 => ?_) hs fun p' n' q' s' a b c d e g h => ?_
  · have : i = n := by omega
    subst this
    exact List.lt_irrefl _
  · dsimp only
    split
    · exact tail3_wp T hN (a.rev _ _) (by omega) (by omega) (e.revTail a (by omega) d g) h hQ
    · exact tail3_wp T hN a (by omega) (by omega) e h hQ
theorem count_wp {Q : Nat × Array Nat → Shared → Prop} {p : Array Nat} {s : Shared} (hp : Pm N p) (hs : I s) (hQ : Run N key I Q) : (kas_count N p).kasWp cmp Q s := by
  unfold kas_count
  rw [KasT.kasWp_bind]
  refine asc_wp T hN hp (N - 1) 1 s (Nat.le_refl _) (fun i j hij hj => by omega) hs fun m s' a b c d e => ?_
  by_cases hm : m = N
  · rw [if_pos (by rw [hm]; exact beq_self_eq_true _)]
    exact hQ m p s' a (by omega) hp c e
  · rw [if_neg (by simpa using hm)]
    have hlt := d (by omega)
    split
    · rename_i h1
      refine T _ _ _ s' (hp.lt hN _) (hp.lt hN _) e fun s2 hs2 => ?_
      show KasT.kasWp cmp (if decide (K key p 0 < K key p (m - 1)) = true then .ret (m, p) else kas_descPart m N (kas_rev p 0 m)) Q s2
      by_cases hc : K key p 0 < K key p (m - 1)
      · rw [decide_eq_true hc, if_pos rfl]
        exact hQ m p s2 a (by omega) hp c hs2
      · rw [decide_eq_false hc, if_neg (by decide)]
        have hz : m ≤ p.size := by rw [hp.size]; omega
        have first : ∀ i, i < m → ¬ K key p i < K key p 0 := fun i hi => by
          rcases Nat.eq_zero_or_pos i with h | h
          · subst h; exact List.lt_irrefl _
          · exact c 0 i h hi
        have all : ∀ i j, i < m → j < m → ¬ K key p i < K key p j := fun i j hi hj => le_tr (c.last hj) (le_tr hc (first i hi))
        refine descPart_wp T hN (hp.rev _ _) (by omega) (Dn.snoc (fun i j hij hj => ?_) fun i hi => ?_) hs2 hQ
        · rw [K_rev hz, K_rev hz, if_pos ⟨Nat.zero_le _, by omega⟩, if_pos ⟨Nat.zero_le _, hj⟩]
          exact all _ _ (by omega) (by omega)
        · rw [K_rev hz, K_rev hz, if_pos ⟨Nat.zero_le _, hi⟩, if_neg (fun h => Nat.lt_irrefl _ h.2)]
          exact le_tr (lt_as hlt) (all _ _ (by omega) (by omega))
    · have e1 : m = 1 := by omega
      subst e1
      refine descPart_wp T hN hp (by omega) (fun i j hij hj => ?_) e hQ
      have h1 : i = 0 := by omega
      have h2 : j = 1 := by omega
      subst h1; subst h2
      exact lt_as hlt
theorem place_wp {Q : Nat → Shared → Prop} {p : Array Nat} {k : Nat} (hp : Pm N p) (hk : k < N) (hu : Up key p k) : ∀ (f l r : Nat) (s : Shared), l ≤ r → r ≤ k → r - l ≤ f → (∀ i, i < l → ¬ K key p k < K key p i) → (∀ i, r ≤ i → i < k → K key p k < K key p i) → I s →
    (∀ l' s', l' ≤ k → (∀ i, i < l' → ¬ K key p k < K key p i) → (∀ i, l' ≤ i → i < k → K key p k < K key p i) → I s' → Q l' s') → (kas_place p k f l r).kasWp cmp Q s
  | 0, l, r, s, h1, h2, h3, hl, hr, hs, hQ => hQ l s (by omega) hl (fun i hi => hr i (by omega)) hs
  | f + 1, l, r, s, h1, h2, h3, hl, hr, hs, hQ => by
    unfold kas_place
    split
    · exact hQ l s (by omega) hl (fun i hi => hr i (by omega)) hs
    · refine T _ _ _ s (hp.lt hN _) (hp.lt hN _) hs fun s' hs' => ?_
      show KasT.kasWp cmp (if decide (K key p k < K key p ((l + r) / 2)) = true then kas_place p k f l ((l + r) / 2) else kas_place p k f ((l + r) / 2 + 1) r) Q s'
      by_cases hc : K key p k < K key p ((l + r) / 2)
      · rw [decide_eq_true hc, if_pos rfl]
        refine place_wp hp hk hu f l ((l + r) / 2) s' (by omega) (by omega) (by omega) hl (fun i hi hik => ?_) hs' hQ
        rcases Nat.lt_or_ge ((l + r) / 2) i with h | h
        · rcases Classical.em (K key p k < K key p i) with q | q
          · exact q
          · exact absurd hc (le_tr (hu _ _ h hik) q)
        · have : i = (l + r) / 2 := by omega
          subst this; exact hc
      · rw [decide_eq_false hc, if_neg (by decide)]
        refine place_wp hp hk hu f ((l + r) / 2 + 1) r s' (by omega) h2 (by omega) (fun i hi => ?_) hr hs' hQ
        rcases Nat.lt_or_ge i ((l + r) / 2) with h | h
        · exact le_tr (hu _ _ h (by omega)) hc
        · have : i = (l + r) / 2 := by omega
          subst this; exact hc
theorem bin_wp {Q : Array Nat → Shared → Prop} : ∀ (f k : Nat) (p : Array Nat) (s : Shared), Pm N p → k + f = N → Up key p k → I s → (∀ p' s', Pm N p' → Up key p' N → I s' → Q p' s') → (kas_bin f p k).kasWp cmp Q s
  | 0, k, p, s, hp, hk, hu, hs, hQ => hQ p s hp (by rw [← hk]; exact hu) hs
  | f + 1, k, p, s, hp, hk, hu, hs, hQ => by
    unfold kas_bin
    rw [KasT.kasWp_bind]
    refine place_wp T hN hp (by omega) hu k 0 k s (Nat.zero_le _) (Nat.le_refl _) (Nat.le_refl _) (fun i hi => absurd hi (Nat.not_lt_zero _)) (fun i hi hi2 => by omega) hs fun l s' hl h1 h2 hs' => ?_
    refine bin_wp f (k + 1) _ s' (hp.bub _ _) (by omega) (fun i j hij hj => ?_) hs' hQ
    have hz : k < p.size := by rw [hp.size]; omega
    rw [K_bub hz (by omega), K_bub hz (by omega)]
    have el : k - (k - l) = l := by omega
    rw [el]
    by_cases hjl : j = l
    · rw [if_pos hjl, if_neg (by omega), if_neg (by omega)]
      exact h1 i (by omega)
    · rw [if_neg hjl]
      by_cases hil : i = l
      · rw [if_pos hil, if_pos ⟨by omega, by omega⟩]
        exact lt_as (h2 (j - 1) (by omega) (by omega))
      · rw [if_neg hil]
        by_cases ha : l < j ∧ j ≤ k
        · rw [if_pos ha]
          by_cases hb : l < i ∧ i ≤ k
          · rw [if_pos hb]; exact hu _ _ (by omega) (by omega)
          · rw [if_neg hb]
            rcases Nat.lt_or_ge i (j - 1) with h | h
            · exact hu _ _ h (by omega)
            · omega
        · rw [if_neg ha, if_neg (by omega)]
          exact hu _ _ hij (by omega)
theorem sort_wp {Q : Array Nat → Shared → Prop} {s : Shared} (hs : I s) (hQ : ∀ p' s', Pm N p' → Up key p' N → I s' → Q p' s') : (kas_sort N).kasWp cmp Q s := by
  unfold kas_sort
  rw [KasT.kasWp_bind]
  refine count_wp T hN ⟨by simp⟩ hs fun m p' s' a b c d e => ?_
  dsimp only
  split
  · have em : max m 1 = m := by omega
    rw [em]
    exact bin_wp T hN _ m p' s' c (by omega) d e hQ
  · have em : m = N := by omega
    subst em
    exact hQ p' s' c d e
end
end Mine

namespace Mine
open PySem PySem.W PyProof.Rows PySem.Calls
set_option Elab.async false
set_option maxRecDepth 100000
set_option linter.unusedVariables false

section
variable {X : Cx} {k : Nat}

/-- where all keys are one, the first run is the whole row -/
theorem all_wp {N : Nat} {key : Nat → List Int} {cmp : Nat → Nat → (Bool → Shared → Prop) → Shared → Prop} {I : Shared → Prop} (T : Tells N key I cmp) (hN : 0 < N) {Q : Nat × Array Nat → Shared → Prop} {p : Array Nat} {s : Shared} (hp : Pm N p) (he : ∀ i j, i < N → j < N → key i = key j) (hs : I s)
    (hQ : ∀ p' s', Pm N p' → Up key p' N → I s' → Q (N, p') s') : (kas_count N p).kasWp cmp Q s := by
  unfold kas_count
  rw [KasT.kasWp_bind]
  refine asc_wp T hN hp (N - 1) 1 s (Nat.le_refl _) (fun i j hij hj => by omega) hs fun m s' a b c d e => ?_
  have hm : m = N := by
    rcases Nat.lt_or_ge m (1 + (N - 1)) with h | h
    · have := d h
      unfold K at this
      rw [he _ _ (hp.lt hN m) (hp.lt hN (m - 1))] at this
      exact absurd this (List.lt_irrefl _)
    · omega
  subst hm
  rw [if_pos (beq_self_eq_true _)]
  exact hQ p s' hp c e

theorem runs64 {prog : Program} {w : World} {A : Around} {E : Value → Shared → Prop} {κ : SortKind} {it : Array Keyed} {Q : Unit → SortSt → Shared → Prop} {G : Array Nat → Shared → Prop} {s : Shared}
    (hG : ∀ p' st' s', arrOf st' = p'.map (kas_item it) → failedOf st' = none → G p' s' → Q () st' s') (h : (kas_count 64 (List.toArray (List.range 64))).kasWp (kas_cmp prog w A κ it) (fun r s' => r.1 = 64 ∧ G r.2 s') s) :
    kasC (model prog w) A E sortRuns' Q (kas_st κ it (List.toArray (List.range 64))) s := by
  have hrs : (List.toArray (List.range 64)).size = 64 := by simp
  rw [sortRuns'_eq]
  refine kasC_bind (kasC_get ?_)
  dsimp only
  have hsz : (arrOf (kas_st κ it (List.toArray (List.range 64)))).size = 64 := by
    show ((List.toArray (List.range 64)).map (kas_item it)).size = _
    rw [Array.size_map, hrs]
  have hmr : minRun' 64 64 0 = 32 := by
    rw [minRun'_succ, if_neg (by decide), minRun'_succ, if_pos (by decide)]; rfl
  simp only [hsz, hmr]
  refine kasC_bind (kasC_range ?_)
  show kasC _ _ _ (forIn (0 :: List.range' 1 63) _ _) _ _ _
  refine kasC_cons ?_
  dsimp only
  rw [if_neg (by omega)]
  simp only [Nat.sub_zero, Nat.zero_add]
  refine kasC_bind (kas_count_ (by omega) (by rw [hrs]; exact Nat.le_refl _) (fun m p' s' hm1 hm2 hp hg => ?_) h)
  obtain ⟨e, hg'⟩ := hg
  dsimp only at e hg'
  subst e
  dsimp only
  rw [if_neg (by decide)]
  refine kasC_bind (kasC_get ?_)
  rw [show (pendingOf (kas_st κ it p')).back? = none from rfl]
  dsimp only
  refine kasC_bind (kasC_modify (kasC_pure ?_))
  show kasC _ _ _ (forIn (1 :: List.range' 2 62) _ _) _ _ _
  refine kasC_cons ?_
  dsimp only
  rw [if_pos (Nat.le_refl _)]
  refine kasC_pure ?_
  dsimp only
  refine kasC_bind (kasC_range ?_)
  show kasC _ _ _ (forIn (0 :: List.range' 1 63) _ _) _ _ _
  refine kasC_cons ?_
  refine kasC_bind (kasC_get ?_)
  rw [if_pos (show (pendingOf (setPending (kas_st κ it p') ((pendingOf (kas_st κ it p')).push (0, 64, 0)))).size ≤ 1 from Nat.le_refl 1)]
  refine kasC_pure ?_
  dsimp only
  exact kasC_pure (hG p' _ _ rfl rfl hg')

theorem list_sort_core {A : Around} {E : Value → Shared → Prop} {P : PySem.Fin → Shared → Prop} {g : Heap} {s : Shared} {a : Addr} {vs : List Value} {n : Nat} {T : Value} {key : Nat → List Int} (ho : s.heap.get? a = some (seqObj "list" vs.toArray n)) (kk : Sub g s.heap) (ga : g.get? a = none)
    (h64 : vs.length < 64 ∨ (vs.length = 64 ∧ ∀ i j, i < 64 → j < 64 → key i = key j)) (hT : ∀ h, Sub g h → ∀ v ∈ vs, Looks X.M h (typeOf v) T) (hT1 : (T != Value.type "tuple") = true) (hT2 : (T == T) = true)
    (hc : ∀ (i j : Nat) (C : Bool → Shared → Prop) (s1 : Shared), i < vs.length → j < vs.length → Sub g s1.heap → C (decide (key i < key j)) s1 → wpAny X.M A (keyLt' oneType' (vs.getD i Value.none) (vs.getD j Value.none)) C (fun _ _ => False) s1)
    (h : ∀ (p : Array Nat) (h' : Heap) (c : Nat), Pm vs.length p → Up key p vs.length → (∀ b o, b ≠ a → s.heap.get? b = some o → h'.get? b = some o) → h'.get? a = some (seqObj "list" (List.toArray (p.toList.map fun i => vs.getD i Value.none)) c) → P (.done (.ret .none)) { s with heap := h' }) :
    wpAny X.M A (Builtin.«list.sort» ⟨[.ref a], []⟩) P E s := by
  have s1 := Heap.SameBut.update s.heap a (Obj.mapSeq fun _ => (#[] : Array Value))
  obtain ⟨e1, ho1⟩ : ∃ e1, (s.heap.update a (Obj.mapSeq fun _ => (#[] : Array Value))).get? a = some (seqObj "list" #[] e1) := ⟨_, get?_update_seq ho fun _ => #[]⟩
  rw [list_sort_plain]
  refine wpAny_bind (listItems_at ho rfl ?_)
  refine wpAny_bind (listUpdate_at ho rfl ?_ (by rw [List.size_toArray]; exact small _ (by rcases h64 with q | q <;> omega)) (Nat.zero_le _))
  refine wpAny_bind (seqEpoch_at ho1 rfl ?_)
  refine wpAny_bind (wpAny_newTuple ?_ (by show vs.length ≤ _; exact small _ (by rcases h64 with q | q <;> omega)))
  refine wpAny_bind (wpAny_newList ?_ (Nat.zero_le _))
  refine wpAny_holding ?_
  have keep2 : ∀ b o, (s.heap.update a (Obj.mapSeq fun _ => (#[] : Array Value))).get? b = some o → (((s.heap.update a (Obj.mapSeq fun _ => (#[] : Array Value))).push (seqObj "tuple" vs.toArray 0)).push (seqObj "list" #[] 0)).get? b = some o :=
    fun b o e => Heap.get?_push_of_some _ (Heap.get?_push_of_some _ e)
  show wpAny X.M A _ P E { s with heap := ((s.heap.update a (Obj.mapSeq fun _ => (#[] : Array Value))).push (seqObj "tuple" vs.toArray 0)).push (seqObj "list" #[] 0) }
  generalize ((s.heap.update a (Obj.mapSeq fun _ => (#[] : Array Value))).push (seqObj "tuple" vs.toArray 0)).push (seqObj "list" #[] 0) = H at keep2 ⊢
  have hoH := keep2 _ _ ho1
  have old : ∀ b o, b ≠ a → s.heap.get? b = some o → H.get? b = some o := fun b o hb e => keep2 b o (s1.extBut b o hb e)
  have kH : Sub g H := fun b o e => old b o (fun q => by rw [q, ga] at e; cases e) (kk b o e)
  have fin : ∀ (st : SortSt) (p : Array Nat), Pm vs.length p → Up key p vs.length → (arrOf st).map (·.2) = List.toArray (p.toList.map fun i => vs.getD i Value.none) → failedOf st = none →
      wpAny X.M A (do
        let sorted := (arrOf st).map (·.2)
        let touched := (← seqEpoch a) != e1
        Builtin.List.listUpdate (.ref a) fun _ => sorted
        if let some e := failedOf st then rule "list.sort.comparison-raised"; throw e
        if touched then rule "list.sort.modified"; raiseError "ValueError" "list modified during sort"
        ret .none) P E { s with heap := H } := by
    intro st p hp hu hout hf
    have hsz : (List.toArray (p.toList.map fun i => vs.getD i Value.none)).size = vs.length := by rw [List.size_toArray, List.length_map, Array.length_toList, hp.size]
    dsimp only
    rw [hout]
    have s2 := Heap.SameBut.update H a (Obj.mapSeq fun _ => List.toArray (p.toList.map fun i => vs.getD i Value.none))
    obtain ⟨c2, hc2⟩ : ∃ c2, (H.update a (Obj.mapSeq fun _ => List.toArray (p.toList.map fun i => vs.getD i Value.none))).get? a = some (seqObj "list" (List.toArray (p.toList.map fun i => vs.getD i Value.none)) c2) := ⟨_, get?_update_seq hoH fun _ => List.toArray (p.toList.map fun i => vs.getD i Value.none)⟩
    refine wpAny_bind (seqEpoch_at hoH rfl ?_)
    refine wpAny_bind (listUpdate_at hoH rfl ?_ (Nat.zero_le _) (Nat.le_trans (Nat.le_of_eq hsz) (Nat.le_succ_of_le (small _ (by rcases h64 with q | q <;> omega)))))
    rw [hf]
    simp only [bne_self_eq_false, Bool.false_eq_true, if_false]
    exact wpAny_pure (h p _ c2 hp hu (fun b o hb e => s2.extBut b o hb (old b o hb e)) hc2)
  dsimp only
  by_cases h2 : vs.length < 2
  · have hn2 : vs.toArray.size < 2 := by rw [List.size_toArray]; exact h2
    rw [if_pos hn2, if_pos hn2]
    refine wpAny_bind (wpAny_pure ?_)
    refine wpAny_bind (wpAny_pure ?_)
    have e : (List.range vs.length).map (fun i => vs.getD i Value.none) = vs := by
      apply List.ext_getElem (by simp)
      intro i h1 h2
      simp [h2]
    refine fin _ (List.toArray (List.range vs.length)) ⟨by simp⟩ (fun i j hij hj => by
      have h1 : i = 0 := by omega
      have h3 : j = 0 + 1 := by omega
      omega) ?_ rfl
    show (vs.toArray.zip vs.toArray).map (·.2) = _
    rw [List.toList_toArray, e]
    simp
    exact List.map_snd_zip (Nat.le_refl _)
  · have hn2 : ¬ vs.toArray.size < 2 := by rw [List.size_toArray]; exact h2
    rw [if_neg hn2, if_neg hn2]
    refine wpAny_bind (kas_kind (by omega) (hT H kH) hT1 hT2 ?_)
    have est : SortSt.mk' oneType' (vs.toArray.zip vs.toArray) #[] 7 none = kas_st oneType' (pairsOf vs) (List.toArray (List.range vs.length)) := by
      have e := kas_range (pairsOf vs)
      rw [pairsOf_size] at e
      show SortSt.mk' oneType' (pairsOf vs) #[] 7 none = SortSt.mk' oneType' ((List.toArray (List.range vs.length)).map (kas_item (pairsOf vs))) #[] 7 none
      rw [e]
    have tells : Tells vs.length key (fun s' => s' = { s with heap := H }) (kas_ask X.prog X.w A oneType' vs) := by
      intro i j C s' hi hj hs' hC
      subst hs'
      exact hc i j C _ hi hj kH (hC _ rfl)
    have run : kasC (model X.prog X.w) A E sortRuns' (fun _ st' s' => ∃ p : Array Nat, arrOf st' = p.map (kas_item (pairsOf vs)) ∧ failedOf st' = none ∧ s' = { s with heap := H } ∧ Pm vs.length p ∧ Up key p vs.length) (kas_st oneType' (pairsOf vs) (List.toArray (List.range vs.length))) { s with heap := H } := by
      rcases h64 with h64 | ⟨h64, heq⟩
      · have ask := sort_wp (s := { s with heap := H }) tells (by omega) rfl (Q := fun p s' => s' = { s with heap := H } ∧ Pm vs.length p ∧ Up key p vs.length) (fun p' s' a b c => ⟨c, a, b⟩)
        rw [kas_ask_eq] at ask
        exact kas_runs (by omega) h64 (fun p' st' s' a1 a2 a3 a4 => ⟨p', a2, a3, a4⟩) ask
      · have ask := all_wp (s := { s with heap := H }) (p := List.toArray (List.range vs.length)) tells (by omega) ⟨by simp⟩ (fun i j hi hj => by rw [h64] at hi hj; exact heq i j hi hj) rfl (Q := fun r s' => r.1 = vs.length ∧ s' = { s with heap := H } ∧ Pm vs.length r.2 ∧ Up key r.2 vs.length) (fun p' s' a b c => ⟨rfl, c, a, b⟩)
        rw [kas_ask_eq] at ask
        rw [h64] at ask ⊢
        exact runs64 (fun p' st' s' a2 a3 a4 => ⟨p', a2, a3, a4⟩) ask
    rw [← est] at run
    refine wpAny_bind (wpAny_mono run ?_ fun _ _ e => e)
    rintro ⟨⟨⟩, st'⟩ s' ⟨p, har, hf, rfl, hp, hu⟩
    refine fin st' p hp hu ?_ hf
    apply Array.toList_inj.mp
    rw [har, Array.map_map, Array.toList_map]
    exact List.map_congr_left fun i _ => by show (kas_item (pairsOf vs) i).2 = _; rw [kas_item_eq]
end
end Mine

namespace Mine
open PySem PySem.W PyProof.Rows PySem.Calls
set_option Elab.async false
set_option maxRecDepth 100000
set_option linter.unusedVariables false

/-- rows in order -/
def InOrder (rows : List (List Int)) : Prop := rows.Pairwise fun a b => ¬ b < a
theorem sorted_uniq : ∀ {a b : List (List Int)}, a.Perm b → InOrder a → InOrder b → a = b
  | [], b, h, _, _ => h.nil_eq
  | x :: a, [], h, _, _ => h.symm.nil_eq.symm
  | x :: a, y :: b, h, ha, hb => by
    have ha' := List.pairwise_cons.mp ha
    have hb' := List.pairwise_cons.mp hb
    have e : x = y := by
      have h1 : x ∈ y :: b := h.mem_iff.mp (by simp)
      have h2 : y ∈ x :: a := h.mem_iff.mpr (by simp)
      rcases List.mem_cons.mp h1 with h1 | h1
      · exact h1
      rcases List.mem_cons.mp h2 with h2 | h2
      · exact h2.symm
      exact le_as (ha'.1 y h2) (hb'.1 x h1)
    subst e
    rw [sorted_uniq (List.Perm.cons_inv h) ha'.2 hb'.2]
theorem exists_sorted (rows : List (List Int)) : ∃ rows', rows'.Perm rows ∧ InOrder rows' := by
  refine ⟨rows.mergeSort fun a b => decide (¬ b < a), List.mergeSort_perm _ _, ?_⟩
  have := List.pairwise_mergeSort (le := fun a b : List Int => decide (¬ b < a)) (fun a b c h1 h2 => by
    simp only [decide_eq_true_eq] at *; exact le_tr h1 h2) (fun a b => by
    simp only [Bool.or_eq_true, decide_eq_true_eq]
    rcases Classical.em (b < a) with h | h
    · exact .inr (lt_as h)
    · exact .inl h) rows
  exact this.imp fun h => by simpa using h

/-- a kind of data that the language sorts as rows -/
structure SortK (X : Cx) (mk : List Int → Dat) (ok : List Int → Prop) (T : String) : Prop where
  lt : ∀ {A : Around} {E : Value → Shared → Prop} {Q : Bool → Shared → Prop} {s : Shared} {g : Heap} {u v : Value} {a b : List Int}, ok a → ok b → A.units + 1 < cLine → Sub g s.heap → Rep g u (mk a) → Rep g v (mk b) → Q (decide (a < b)) s → wpAny X.M A (keyLt' oneType' u v) Q E s
  ty : ∀ {g h : Heap} {v : Value} {a : List Int}, Rep g v (mk a) → Sub g h → Looks X.M h (typeOf v) (.type T)
  ok1 : (Value.type T != Value.type "tuple") = true
theorem sortK_text (X : Cx) : SortK X dText okT "str" where
  lt := by
    intro A E Q s g u v a b h1 h2 hu kk r1 r2 h
    cases r1; cases r2
    refine kas_lt_str ?_
    rw [lt_strOf h1.1 h2.1]; exact h
  ty := by
    intro g h v a r k
    cases r
    exact Looks.of_pure rfl
  ok1 := by decide
section
variable {X : Cx} {k : Nat} {mk : List Int → Dat} {ok : List Int → Prop} {T : String}
theorem op_sorted (K : SortK X mk ok T) {rows rows' : List (List Int)} (ho : ∀ r ∈ rows, ok r) (h64 : rows.length < 64 ∨ (rows.length = 64 ∧ ∀ r ∈ rows, r = [])) (hp : rows'.Perm rows) (hs : InOrder rows') :
    OpN X (k + 2) (fun vs => call (.builtin "sorted") vs) [.list (rows.map mk)] fun g v => Rep g v (.list (rows'.map mk)) := by
  intro g s vs b0 kk r A E rm
  cases r with
  | cons r rn =>
    cases rn
    cases r with
    | list il rr =>
      rename_i l vs
      have hl := isList_sub kk il
      have hlen : vs.length = rows.length := by rw [rr.length, List.length_map]
      refine Calls.call_function_entry kind_sorted plain_sorted entry_sorted (args_sorted1 _) ?_
      unfold Builtin.«sorted»
      refine wpAny_bind (m := checkCount "sorted" 1 1 _) (wpAny_pure ?_)
      refine wpAny_bind (collect_list hl ?_ (small _ (by rcases h64 with q | q <;> omega)))
      refine wpAny_bind (wpAny_newList ?_ (small _ (by rcases h64 with q | q <;> omega)))
      have hsz : ((s.heap.push (seqObj "list" #[] 0)).update s.heap.objs.size (Obj.mapSeq (· ++ vs.toArray))).objs.size = s.heap.objs.size + 1 := by
        rw [Heap.size_update, Heap.size_push]
      have keep0 : ∀ b o, s.heap.get? b = some o → ((s.heap.push (seqObj "list" #[] 0)).update s.heap.objs.size (Obj.mapSeq (· ++ vs.toArray))).get? b = some o := fun b o q => by
        have hlt : b < s.heap.objs.size := Heap.lt_size q
        rw [Heap.get?_update_ne _ _ _ _ (Nat.ne_of_lt hlt), Heap.get?_push_ne _ _ _ (Nat.ne_of_lt hlt)]
        exact q
      show wpAny _ _ _ _ _ { s with heap := ((s.heap.push (seqObj "list" #[] 0)).update s.heap.objs.size (Obj.mapSeq (· ++ vs.toArray))).push (seqObj "list" vs.toArray 0) }
      rw [hsz]
      generalize (s.heap.push (seqObj "list" #[] 0)).update s.heap.objs.size (Obj.mapSeq (· ++ vs.toArray)) = H at hsz keep0 ⊢
      have hoL : (H.push (seqObj "list" vs.toArray 0)).get? (s.heap.objs.size + 1) = some (seqObj "list" vs.toArray 0) := by
        rw [← hsz]; exact Heap.get?_push_size _ rfl
      have keep : Sub s.heap (H.push (seqObj "list" vs.toArray 0)) := fun b o q => Heap.get?_push_of_some _ (keep0 b o q)
      have none1 : ∀ {h : Heap}, Sub h s.heap → h.get? (s.heap.objs.size + 1) = none := by
        intro h hs'
        cases z : h.get? (s.heap.objs.size + 1) with
        | none => rfl
        | some o' => exact absurd (Heap.lt_size (hs' _ _ z)) (Nat.not_lt.mpr (Nat.le_succ _))
      have getv : ∀ i, i < vs.length → Rep g (vs.getD i Value.none) (mk (rows.getD i [])) := fun i hi => by
        have e : (rows.map mk)[i]? = some (mk (rows.getD i [])) := by
          have : i < rows.length := by omega
          simp [this]
        obtain ⟨v, e1, e2⟩ := rr.get e
        have : vs.getD i Value.none = v := by simp [e1]
        rw [this]; exact e2
      have getok : ∀ i, i < vs.length → ok (rows.getD i []) := fun i hi => by
        have : i < rows.length := by omega
        have e : rows.getD i [] = rows[i] := by simp [this]
        rw [e]; exact ho _ (List.getElem_mem _)
      have hK := K.ok1
      have h64' : vs.length < 64 ∨ (vs.length = 64 ∧ ∀ i j, i < 64 → j < 64 → rows.getD i [] = rows.getD j []) := by
        rcases h64 with q | ⟨q1, q2⟩
        · exact .inl (by omega)
        · refine .inr ⟨by omega, fun i j hi hj => ?_⟩
          have e : ∀ i, i < 64 → rows.getD i [] = [] := fun i hi => by
            have : i < rows.length := by omega
            have e : rows.getD i [] = rows[i] := by simp [this]
            rw [e]; exact q2 _ (List.getElem_mem _)
          rw [e i hi, e j hj]
      refine wpAny_bind (wpAny_holding (wpAny_call_entry slot_list_sort ⟨_, hoL, rfl⟩ entry_list_sort (list_sort_core (T := .type T) (key := fun i => rows.getD i []) hoL (kk.trans keep) (none1 kk) h64' (fun h hg v hv => ?_) hK (by simp) (fun i j C s1 hi hj hg hC => ?_) fun p h' c hpm hup hk hD => ?_) (args_list_sort _)))
      · obtain ⟨i, hi, rfl⟩ := List.getElem_of_mem hv
        have := getv i hi
        have e : vs.getD i Value.none = vs[i] := by simp [hi]
        rw [e] at this
        exact K.ty this hg
      · have hu := rm.in1.in1.un
        exact K.lt (getok i hi) (getok j hj) (by omega) hg (getv i hi) (getv j hj) hC
      · have sub : Sub s.heap h' := fun b o e => hk b o (Nat.ne_of_lt (Nat.lt_succ_of_lt (Heap.lt_size e))) (keep b o e)
        have perm1 : (p.toList.map fun i => rows.getD i []).Perm rows := by
          have e := hpm.perm.map fun i => rows.getD i []
          have e2 : (List.range vs.length).map (fun i => rows.getD i []) = rows := by
            apply List.ext_getElem (by simp [hlen])
            intro i h1 h2
            simp [h2]
          rw [e2] at e
          exact e
        have ord1 : InOrder (p.toList.map fun i => rows.getD i []) := by
          refine List.pairwise_iff_getElem.mpr fun i j hi hj hij => ?_
          have hi' : i < p.size := by simpa using hi
          have hj' : j < p.size := by simpa using hj
          have := hup i j hij (by rw [← hpm.size]; exact hj')
          unfold Mine.K at this
          simp only [List.getElem_map, Array.getElem_toList]
          have e1 : p.getD i 0 = p[i] := by simp [Array.getD, hi']
          have e2 : p.getD j 0 = p[j] := by simp [Array.getD, hj']
          rw [e1, e2] at this
          exact this
        have er : rows' = p.toList.map fun i => rows.getD i [] := sorted_uniq (hp.trans perm1.symm) hs ord1
        refine ⟨_, rfl, wpAny_pure ⟨_, rfl, ?_⟩⟩
        refine ⟨kp_mk (t := s.toks) sub, freeze g s.heap h', Step.of_sub kk sub, ?_⟩
        rw [er]
        refine .list ⟨c, freeze_new hD (none1 .rfl)⟩ ?_
        refine repAll_of (by simp) fun i v hv => ?_
        rw [List.getElem?_map] at hv
        cases e : p.toList[i]? with
        | none => rw [e] at hv; cases hv
        | some q =>
          rw [e] at hv
          cases hv
          have hq : q < vs.length := List.mem_range.mp (hpm.perm.mem_iff.mp (List.mem_of_getElem? e))
          exact ⟨mk (rows.getD q []), by simp [e], (getv q hq).sub (freeze_old kk sub)⟩
end
end Mine

namespace Mine
open PySem PySem.W PyProof.Rows PySem.Calls
set_option Elab.async false
set_option maxRecDepth 100000
set_option linter.unusedVariables false

section
variable {X : Cx} {k : Nat} {sc scope : Scope} {σ τ cap : Sto}
/-- o.name(e), a method of the language's -/
theorem EvP.meth1 {o e : Expr} {name : Str} {apos pos : Pos} {T id : String} {d : Dat} {Po P : Heap → Value → Prop} (ho : EvP X k sc σ o Po) (mono : ∀ g g' v, Sub g g' → Po g v → Po g' v)
    (hT : ∀ g v s, Po g v → Sub g s.heap → Shared.TypeIs s v T ∧ ∀ a, v = .ref a → ∃ ob, s.heap.get? a = some ob ∧ ob.dict = none) (he : Ev X k sc σ e d) (pa : PlainAttrs T) (slot : Slot T name id) (hty : typeOf (.builtin id) = pure (.type "method_descriptor"))
    (hop : ∀ (g : Heap) (s : Shared) (u v : Value), Sub X.h0 g → Sub g s.heap → Po g u → Rep g v d → Does X k (call (.builtin id) [u, v]) g s P)
    (hbase : ∀ env, attributeBase o name env (eval o env) = eval o env := by intro _; rfl) (hline : (apos.endLine == pos.line) = true := by rfl) (hp : plainE e = true := by rfl) :
    EvP X k sc σ (.Call (.Attribute o name apos) [e] [] pos) P := by
  intro A env g s E rm oe bs q
  refine wpAny_Call_method (hbase env) ?_ hline pa slot hty (wp_ev (ho A env g s E rm oe bs q) fun u g1 s1 k1 x1 p1 => ?_)
  · rw [starEach_plain hp]; rfl
  obtain ⟨h1, h2⟩ := hT g1 u s1 p1 x1.gh
  refine ⟨h1, h2, ?_⟩
  rw [starEach_plain hp]
  show wpAny _ _ (callWith pos (.builtin id) [u] ((false, eval e env) :: backTo pos (starEach [] env)) []) _ _ _
  refine Calls.callWith_builtin (by rfl) (evalArgs_plain (spliced_cons (wp_ev (he A env g1 s1 E rm oe (bs.trans x1.gg) (q.step x1)) fun v g2 s2 k2 x2 p2 => wpAny_items_nil ?_)))
  exact wp_fin (kp_trans k1 k2) (x1.trans x2) (hop g2 s2 u v ((bs.trans x1.gg).trans x2.gg) x2.gh (mono _ _ _ x2.gg p1) p2 A E rm)

theorem strsAre_of : ∀ {rows : List (List Int)} {g : Heap} {vs : List Value}, RepAll g vs (rows.map dText) → StrsAre vs (rows.map strOf)
  | [], _, _, .nil => .nil
  | r :: rows, _, _, .cons (.str _ t) rr => .cons _ _ (strsAre_of rr)
end
end Mine

namespace Mine
open PySem PySem.W PyProof.Rows PySem.Calls
set_option Elab.async false
set_option maxRecDepth 100000
set_option linter.unusedVariables false

section
variable {X : Cx} {k : Nat} {sc : Scope} {σ τ : Sto} {s₀ s : Shared} {g₀ g : Heap} {env : Env} {H : List (Addr × Obj)} {m cm : Str → Option Value}

/-- a new object of the frame's own gets its name -/
theorem wp_own {A : Around} {E : Value → Shared → Prop} {x : Str} {ob : Obj} {P : Addr → Obj → Heap → Prop} {mp} {Q : Unit → Shared → Prop} (F : FS s₀ g₀ env H τ g m cm s) (o : EnvOk env sc) (hx : canStore sc x = true) (hf : ob.isFreed = false) (hP : P s.heap.objs.size ob g)
    (h : ∀ m' cm' s', FS s₀ g₀ env H (upd x (.obj P mp) τ) g m' cm' s' → Q () s') : wpAny X.M A (storeName env x (.ref s.heap.objs.size)) Q E { s with heap := s.heap.push ob } := by
  have k1 : Keeps s { s with heap := s.heap.push ob } := kp_mk (Sub.push .rfl _)
  have x1 : Step g s.heap g (s.heap.push ob) := ⟨.rfl, Sub.push .rfl _, F.st.gh.trans (Sub.push .rfl _), fun _ _ e => .inl e⟩
  have none_of : ∀ {h : Heap}, Sub h s.heap → h.get? s.heap.objs.size = none := by
    intro h hs
    cases z : h.get? s.heap.objs.size with
    | none => rfl
    | some o => have := hs _ _ z; rw [fresh_size] at this; cases this
  have ne_of : ∀ {a : Addr} {ob : Obj}, s.heap.get? a = some ob → a ≠ s.heap.objs.size := fun e q => by rw [q, fresh_size] at e; cases e
  refine wp_store (lv := .obj P mp) (F.ev k1 x1) o hx (o.cells x) ?_ ?_ fun m' cm' s'' F' => h _ _ _ F'
  · refine ⟨_, _, rfl, Heap.get?_push_size _ hf, hP, none_of F.st.gh, none_of F.st.hh, ?_, ?_, ?_⟩
    · obtain ⟨ob, _, _, ho, _⟩ := F.call.toInCall.ns
      exact (ne_of ho).symm
    · intro n c hc
      obtain ⟨ob, ho, _⟩ := F.call.cell n c hc
      exact ne_of ho
    · intro p hp
      exact ne_of (F.hold p hp).1
  · intro y P' mp' hy e hh
    obtain ⟨v, hv, lv⟩ := F.var y _ e
    obtain ⟨a, ob', rfl, ho, _⟩ := lv
    have := hv.fun hh
    cases this
    rw [fresh_size] at ho; cases ho

/-- a name that holds an object of the frame's own -/
theorem wp_nameO {A : Around} {E : Value → Shared → Prop} {x : Str} {pos : Pos} {P : Addr → Obj → Heap → Prop} {mp} {Q : Value → Shared → Prop} (o : EnvOk env sc) (q : StoIn σ env g s) (e : σ.lookup x = some (.obj P mp)) (h : ∀ a ob, s.heap.get? a = some ob → P a ob g → Q (.ref a) s)
    (hd : (x == ("__debug__" : Str)) = false := by decide) (hn : (x == ("__classdict__" : Str)) = false := by decide) : wpAny X.M A (eval (.Name x pos) env) Q E s := by
  obtain ⟨a, ob, hv, ho, hp⟩ := q.obj x P mp e
  rcases hv with ⟨hl, m, ns, hm⟩ | ⟨hl, c, hc, hv⟩
  · exact wpAny_Name (wpAny_loadName_local o.ek hl ns hm (h a ob ho hp)) hd
  · rcases hl with hl | hl
    · exact wpAny_Name (wpAny_loadName_cell o.ek hl hc hv (h a ob ho hp)) hd
    · exact wpAny_Name (wpAny_loadName_free o.ek hl hc hv (h a ob ho hp) hn) hd

/-- a range downwards -/
theorem join_nil : ∀ ys : List Str, Str.join (Str.ofString "") ys = ys.foldr (fun a b => a ++ b) ⟨#[]⟩
  | [] => rfl
  | [x] => by
    show x = x ++ (⟨#[]⟩ : Str)
    cases x
    show _ = Str.append _ _
    simp [Str.append]
  | x :: y :: r => by
    have ih := join_nil (y :: r)
    show x ++ Str.ofString "" ++ Str.join (Str.ofString "") (y :: r) = _
    rw [ih]
    have e : x ++ Str.ofString "" = x := by
      have e0 : Str.ofString "" = ⟨#[]⟩ := by decide
      rw [e0]
      cases x
      show Str.append _ _ = _
      simp [Str.append]
    rw [e]; rfl
theorem join_rows : ∀ rows : List (List Int), (rows.map strOf).foldr (fun a b => a ++ b) (⟨#[]⟩ : Str) = strOf rows.flatten
  | [] => rfl
  | r :: rows => by
    rw [List.map_cons, List.foldr_cons, join_rows rows, List.flatten_cons, strOf_append]
/-- ''.join(texts) -/
theorem Ev.join0 {n : Nat} {pc apos pos : Pos} {e : Expr} {rows : List (List Int)} (he : Ev X k sc σ e (.list (rows.map dText))) (hz : (rows.map (·.length)).sum ≤ 65536) (hline : (apos.endLine == pos.line) = true := by rfl) (hp : plainE e = true := by rfl)
    (hbase : ∀ env, attributeBase (.Constant (.str "") n pc) "join" env (eval (.Constant (.str "") n pc) env) = eval (.Constant (.str "") n pc) env := by intro _; rfl) :
    Ev X k sc σ (.Call (.Attribute (.Constant (.str "") n pc) "join" apos) [e] [] pos) (dText rows.flatten) := by
  refine EvP.meth1 (T := "str") (id := "str.join") (Po := fun g v => Rep g v (.str (Str.ofString ""))) Ev.str (fun _ _ _ k r => r.sub k) (fun g v s r kk => ?_) he F.plainAttrs_str F.slot_str_join F.type_str_join (fun g s u v b kk hu hv A E rm => ?_) hbase hline hp
  · cases r
    exact ⟨typeIs_str _ _ _, fun a e => nomatch e⟩
  · cases hu
    cases hv with
    | list i r =>
      have hi := strsAre_of r
      refine join_list (isList_sub kk i) (by rw [List.toList_toArray]; exact hi) ?_ fun t' tk => ?_
      · have e1 : ((rows.map strOf).map (·.length)) = rows.map (·.length) := by
          rw [List.map_map]
          apply List.map_congr_left
          intro r _
          exact strOf_length
        have e2 : (Str.ofString "").length = 0 := by decide
        rw [e1, e2, Nat.mul_zero]
        omega
      · have e : Txt.join (Str.ofString "") (rows.map strOf) = strOf rows.flatten := by
          rw [← join_rows, ← join_nil]; exact beq_iff_eq.mp (PyProof.Rows.join_plain_closes _ _)
        rw [e]
        exact Post.tok kk (.str _ _)
end
end Mine

namespace Mine
open PySem PySem.W PyProof.Rows PySem.Calls
set_option Elab.async false
set_option maxRecDepth 100000
set_option linter.unusedVariables false

/-- a table by texts -/
abbrev Tab := List (Str × Dat)
def tget (al : Tab) (k : Str) : Option Dat := (al.find? fun p => decide (p.1 = k)).map (·.2)
def tput (al : Tab) (k : Str) (d : Dat) : Tab := if al.any (fun p => decide (p.1 = k)) then al.map (fun p => if p.1 = k then (p.1, d) else p) else al ++ [(k, d)]
theorem tput_length_le (al : Tab) (k : Str) (d : Dat) : (tput al k d).length ≤ al.length + 1 := by
  unfold tput
  split
  · rw [List.length_map]; omega
  · rw [List.length_append]; exact Nat.le_refl _
theorem tget_tput (al : Tab) (k j : Str) (d : Dat) : tget (tput al k d) j = if j = k then some d else tget al j := by
  have hmap : ∀ al : Tab, ((al.map (fun p => if p.1 = k then (p.1, d) else p)).find? fun p => decide (p.1 = j)).map (·.2) = if j = k then (if al.any (fun p => decide (p.1 = k)) then some d else none) else tget al j := by
    intro al
    induction al with
    | nil => simp [tget]
    | cons a al ih =>
      rw [List.map_cons, List.find?_cons]
      by_cases h1 : a.1 = k
      · rw [if_pos h1]
        by_cases h2 : j = k
        · subst h2
          simp [h1]
        · have : ¬ a.1 = j := fun q => h2 (q.symm.trans h1)
          simp only [this, decide_false, if_neg h2] at ih ⊢
          rw [ih]
          unfold tget
          rw [List.find?_cons]
          simp [this]
      · rw [if_neg h1]
        by_cases h2 : a.1 = j
        · have : ¬ j = k := fun q => h1 (h2.trans q)
          simp only [h2, decide_true, if_neg this, Option.map_some]
          unfold tget
          rw [List.find?_cons]
          simp [h2]
        · simp only [h2, decide_false]
          rw [ih]
          by_cases h3 : j = k
          · subst h3
            have e : decide (a.1 = j) = false := by simpa using h2
            rw [if_pos rfl, if_pos rfl, List.any_cons, e, Bool.false_or]
          · rw [if_neg h3, if_neg h3]
            unfold tget
            rw [List.find?_cons]
            simp [h2]
  unfold tput
  by_cases ha : al.any (fun p => decide (p.1 = k)) = true
  · rw [if_pos ha]
    have := hmap al
    rw [if_pos ha] at this
    exact this
  · rw [if_neg ha]
    unfold tget
    rw [List.find?_append]
    have hno : al.find? (fun p => decide (p.1 = k)) = none := by
      rw [List.find?_eq_none]
      intro p hp hq
      exact ha (List.any_eq_true.mpr ⟨p, hp, hq⟩)
    by_cases h3 : j = k
    · subst h3
      rw [hno]; simp
    · rw [if_neg h3]
      have : ¬ k = j := fun q => h3 q.symm
      simp [this]

def keysV (al : Tab) (vs : List Value) : List (Str × Value) := (al.map (·.1)).zip vs
theorem keysV_get {g : Heap} : ∀ {al : Tab} {vs : List Value}, RepAll g vs (al.map (·.2)) → ∀ k : Str, match tget al k with | some d => ∃ v, valueAt (keysV al vs) k = some v ∧ Rep g v d | none => valueAt (keysV al vs) k = none
  | [], _, .nil, k => by simp [tget, keysV, valueAt]
  | p :: al, _, .cons (v := v) (vs := vs) r rr, k => by
    have ih := keysV_get rr k
    unfold tget keysV valueAt at *
    simp only [List.map_cons, List.zip_cons_cons, List.find?_cons]
    by_cases h : p.1 = k
    · simp only [h, decide_true, Option.map_some]
      exact ⟨v, rfl, r⟩
    · simp only [h, decide_false]
      exact ih
theorem keysV_any {al : Tab} {vs : List Value} (hl : vs.length = al.length) (k : Str) : (keysV al vs).any (fun kv => decide (kv.1 = k)) = al.any (fun p => decide (p.1 = k)) := by
  induction al generalizing vs with
  | nil => simp [keysV]
  | cons p al ih =>
    cases vs with
    | nil => simp at hl
    | cons v vs =>
      have := ih (vs := vs) (by simpa using hl)
      unfold keysV at *
      simp only [List.map_cons, List.zip_cons_cons, List.any_cons, this]
theorem keysV_put {g : Heap} {al : Tab} {vs : List Value} {k : Str} {v : Value} {d : Dat} (r : RepAll g vs (al.map (·.2))) (hv : Rep g v d) : ∃ vs', stored (keysV al vs) k v = keysV (tput al k d) vs' ∧ RepAll g vs' ((tput al k d).map (·.2)) := by
  have hl : vs.length = al.length := by rw [r.length, List.length_map]
  unfold stored tput
  rw [show ((keysV al vs).any fun kv => decide (kv.1 = k)) = al.any (fun p => decide (p.1 = k)) from keysV_any hl k]
  split
  · clear hl
    induction al generalizing vs with
    | nil => cases r; exact ⟨[], by simp [keysV], .nil⟩
    | cons p al ih =>
      cases r with
      | cons r1 r =>
        rename_i h v1 vs1
        by_cases hany : al.any (fun p => decide (p.1 = k)) = true
        · obtain ⟨vs', e1, e2⟩ := ih r hany
          by_cases hp : p.1 = k
          · refine ⟨v :: vs', ?_, ?_⟩
            · unfold keysV at *
              simp only [List.map_cons, List.zip_cons_cons, hp, if_true, e1]
            · simp only [List.map_cons, hp, if_true]; exact .cons hv e2
          · refine ⟨v1 :: vs', ?_, ?_⟩
            · unfold keysV at *
              simp only [List.map_cons, List.zip_cons_cons, hp, if_false, e1]
            · simp only [List.map_cons, hp, if_false]; exact .cons r1 e2
        · have none1 : ∀ q ∈ al, ¬ q.1 = k := fun q hq e => hany (List.any_eq_true.mpr ⟨q, hq, by simpa using e⟩)
          have same1 : al.map (fun p => if p.1 = k then (p.1, d) else p) = al := by
            have : ∀ l : Tab, (∀ q ∈ l, ¬ q.1 = k) → l.map (fun p => if p.1 = k then (p.1, d) else p) = l := by
              intro l hh
              induction l with
              | nil => rfl
              | cons a l ih => rw [List.map_cons, if_neg (hh a (by simp)), ih fun q hq => hh q (List.mem_cons_of_mem _ hq)]
            exact this al none1
          have same2 : (keysV al vs1).map (fun kv => if kv.1 = k then (kv.1, v) else kv) = keysV al vs1 := by
            have : ∀ l : List (Str × Value), (∀ q ∈ l, ¬ q.1 = k) → l.map (fun kv => if kv.1 = k then (kv.1, v) else kv) = l := by
              intro l hh
              induction l with
              | nil => rfl
              | cons a l ih => rw [List.map_cons, if_neg (hh a (by simp)), ih fun q hq => hh q (List.mem_cons_of_mem _ hq)]
            refine this _ fun q hq => ?_
            have := (List.of_mem_zip hq).1
            obtain ⟨q', h1, h2⟩ := List.mem_map.mp this
            rw [← h2]; exact none1 q' h1
          have hp : p.1 = k := by
            rw [List.any_cons, Bool.or_eq_true] at h
            rcases h with q | q
            · simpa using q
            · exact absurd q hany
          refine ⟨v :: vs1, ?_, ?_⟩
          · unfold keysV at *
            simp only [List.map_cons, List.zip_cons_cons, hp, if_true, same1, same2]
          · simp only [List.map_cons, hp, if_true, same1]; exact .cons hv r
  · refine ⟨vs ++ [v], ?_, ?_⟩
    · unfold keysV
      rw [List.map_append, List.zip_append (by rw [List.length_map]; exact hl.symm)]; rfl
    · rw [List.map_append]
      exact (RepAll.one hv).append r

def tabP (X : Cx) (al : Tab) (a : Addr) (o : Obj) (g : Heap) : Prop := sysModules < a ∧ ∃ vs, o.IsDictOf (strKind X.prog X.w) (keysV al vs) ∧ RepAll g vs (al.map (·.2))
def LV.tab (X : Cx) (al : Tab) : LV := .obj (tabP X al) fun _ _ _ _ k ⟨b, vs, e, r⟩ => ⟨b, vs, e, r.sub k⟩
theorem big_of {X : Cx} {g : Heap} {s : Shared} (b : Sub X.h0 g) (kk : Sub g s.heap) : sysModules < s.heap.objs.size := by
  obtain ⟨ob, _, _, ho, _⟩ := X.hg
  have := Heap.lt_size (kk _ _ (b _ _ ho))
  exact Nat.lt_trans (show sysModules < mainGlobals by decide) this

section
variable {X : Cx} {k : Nat} {sc : Scope} {σ τ : Sto}
/-- x = {} -/
theorem Ex.assignTab {x : Str} {px pos pl : Pos} {R : Out → Prop} (hr : R (.next (upd x (LV.tab X []) τ))) (hx : canStore sc x = true := by rfl)
    (hs : ∀ env, swapsWith (.Dict [] [] pl) (some (.Name x px)) pos.line env = pure false := by intro _; rfl) : Ex X k sc τ (exec (.Assign [.Name x px] (.Dict [] [] pl) pos)) R := by
  intro A env s₀ g₀ H g m cm s E r o b F
  refine wpAny_Assign_Name (wpAny_Dict_empty ?_) (hs env)
  have isd : ({ cls := .type "dict", data := .dict #[] } : Obj).IsDictOf (strKind X.prog X.w) [] := by
    obtain ⟨o', h1, h2⟩ := Heap.dictOf_iff.mp (Heap.DictOf.new (knd := strKind X.prog X.w) s.heap)
    rw [Heap.get?_push_size _ rfl] at h1
    cases h1
    exact h2
  exact wp_own (P := tabP X []) F o hx rfl ⟨big_of (b.trans F.st.gg) F.st.gh, [], isd, .nil⟩ fun m' cm' s' F' => ⟨_, g, m', cm', hr, F'⟩

theorem isText (prog : Program) (w : World) (y : Str) (t : Tok) : (strKind prog w).is y (.str y t) = true := strKind_is prog w y t
/-- x[e1] = e2 of an own table -/
theorem Ex.setTab {x : Str} {px ps pos : Pos} {e1 e2 : Expr} {al : Tab} {y : Str} {d : Dat} {R : Out → Prop} (hx : τ.lookup x = some (LV.tab X al)) (h2 : Ev X k sc τ e2 d) (h1 : Ev X k sc τ e1 (.str y)) (hz : al.length ≤ sizeLine)
    (hr : R (.next (upd x (LV.tab X (tput al y d)) τ))) (hs : ∀ env, swapsWith e2 (some (.Subscript (.Name x px) e1 ps)) pos.line env = pure false := by intro _; rfl) (hd1 : (x == ("__debug__" : Str)) = false := by decide) :
    Ex X k sc τ (exec (.Assign [.Subscript (.Name x px) e1 ps] e2 pos)) R := by
  intro A env s₀ g₀ H g m cm s E r o b F
  refine wpAny_Assign_Subscript (wp_ev (h2 A env g s E r o (b.trans F.st.gg) F.sto) fun v g1 s1 k1 x1 p1 => ?_) (hs env)
  have F1 := F.ev k1 x1
  obtain ⟨w, hv, ad, ob, ev, o1, ⟨hb, vs, hdi, rp⟩, o3, o4, o5, o6, o7⟩ := F1.var x _ hx
  subst ev
  refine holds_name F1 o hv ?_ hd1
  refine wp_ev (h1 A env g1 s1 E r o (b.trans F1.st.gg) F1.sto) fun u g2 s2 k2 x2 p2 => ?_
  have F2 := F1.ev k2 x2
  cases p2
  have dm : s2.heap.DictOf (strKind X.prog X.w) ad (keysV al vs) := Heap.dictOf_iff.mpr ⟨ob, x2.hh _ _ o1, hdi⟩
  obtain ⟨vs', ep, rp'⟩ := keysV_put (k := y) (rp.sub x2.gg) (p1.sub x2.gg)
  have hkl : (keysV al vs).length ≤ sizeLine := by
    unfold keysV
    rw [List.length_zip, List.length_map]
    omega
  refine wpAny_setItem_pairs (isText _ _ y _) dm (fun h' hm hs' => ?_) hkl
  rw [ep] at hm
  obtain ⟨ob', ho', hd'⟩ := Heap.dictOf_iff.mp hm
  exact ⟨_, g2, m, cm, hr, F2.mutate (lv := LV.tab X al) (tk := s2.toks + 1) hx hv hs'.extBut ⟨ob', ho', hb, vs', hd', rp'⟩⟩
end
end Mine

namespace Mine
open PySem PySem.W PyProof.Rows PySem.Calls
set_option Elab.async false
set_option maxRecDepth 100000
set_option linter.unusedVariables false
section
variable {X : Cx} {k : Nat} {sc : Scope} {σ τ : Sto}
end
end Mine

namespace Mine
open PySem PySem.W PyProof.Rows PySem.Calls
set_option Elab.async false
set_option maxRecDepth 100000
set_option linter.unusedVariables false

/-- g without one object -/
def without (g : Heap) (a : Addr) : Heap := keepOnly (fun b => b != a) g
theorem without_ne {g : Heap} {a b : Addr} (h : b ≠ a) : (without g a).get? b = g.get? b := by
  unfold without; rw [keepOnly_get]
  have : (b != a) = true := by simpa using h
  rw [this, if_pos rfl]
theorem without_self {g : Heap} {a : Addr} : (without g a).get? a = none := by
  unfold without; rw [keepOnly_get]
  simp
theorem without_sub {g : Heap} {a : Addr} : Sub (without g a) g := fun b o e => by
  by_cases h : b = a
  · subst h; rw [without_self] at e; cases e
  · rwa [without_ne h] at e
/-- an object that is no row -/
def NoSeq (o : Obj) : Prop := ∀ xs n, o.data ≠ .seq xs n
mutual
theorem Rep.without {g : Heap} {a : Addr} {o : Obj} (ho : g.get? a = some o) (hn : NoSeq o) : ∀ {v d}, Rep g v d → Rep (without g a) v d
  | _, _, .none => .none
  | _, _, .bool b => .bool b
  | _, _, .int i t => .int i t
  | _, _, .str x t => .str x t
  | _, _, .bytes b t => .bytes b t
  | _, _, .tuple (a := c) ⟨n, i⟩ r => .tuple ⟨n, by
      have : c ≠ a := fun q => by rw [q, ho] at i; cases i; exact hn _ _ rfl
      rw [without_ne this]; exact i⟩ (RepAll.without ho hn r)
  | _, _, .list (a := c) ⟨n, i⟩ r => .list ⟨n, by
      have : c ≠ a := fun q => by rw [q, ho] at i; cases i; exact hn _ _ rfl
      rw [without_ne this]; exact i⟩ (RepAll.without ho hn r)
theorem RepAll.without {g : Heap} {a : Addr} {o : Obj} (ho : g.get? a = some o) (hn : NoSeq o) : ∀ {vs ds}, RepAll g vs ds → RepAll (without g a) vs ds
  | _, _, .nil => .nil
  | _, _, .cons x r => .cons (Rep.without ho hn x) (RepAll.without ho hn r)
end

/-- an own object that stands still for a while -/
def frzP (P : Addr → Obj → Heap → Prop) (a : Addr) (o : Obj) (g : Heap) : Prop := P a o g ∧ g.get? a = some o
theorem frzP_mono {P : Addr → Obj → Heap → Prop} (mp : ∀ a o g g', Sub g g' → P a o g → P a o g') : ∀ a o g g', Sub g g' → frzP P a o g → frzP P a o g' := fun a o g g' k ⟨h1, h2⟩ => ⟨mp a o g g' k h1, k _ _ h2⟩
def LV.frz (P : Addr → Obj → Heap → Prop) (mp : ∀ a o g g', Sub g g' → P a o g → P a o g') : LV := .obj (frzP P) (frzP_mono mp)

section
variable {X : Cx} {k : Nat} {sc : Scope} {σ τ : Sto} {s₀ s s' : Shared} {g₀ g : Heap} {env : Env} {H : List (Addr × Obj)} {m cm : Str → Option Value}

theorem sto_frz {g' : Heap} {x : Str} {P : Addr → Obj → Heap → Prop} {mp} {a : Addr} {ob : Obj} (q : StoIn σ env g s) (hv : VarIs env s.heap x (.ref a)) (ho : s.heap.get? a = some ob) (hp : P a ob g) (h1 : Sub g g') (h2 : Sub g' s.heap) (h3 : g'.get? a = some ob) : StoIn (upd x (LV.frz P mp) σ) env g' s where
  sub := h2
  var := fun y d e => by
    rw [lookup_upd] at e
    by_cases w : y = x
    · rw [if_pos w] at e; cases e
    · rw [if_neg w] at e
      obtain ⟨v, a1, a2⟩ := q.var y d e
      exact ⟨v, a1, a2.sub h1⟩
  val := fun y u e => by
    rw [lookup_upd] at e
    by_cases w : y = x
    · rw [if_pos w] at e; cases e
    · rw [if_neg w] at e; exact q.val y u e
  obj := fun y P' mp' e => by
    rw [lookup_upd] at e
    by_cases w : y = x
    · rw [if_pos w] at e
      cases e
      subst w
      exact ⟨a, ob, hv, ho, mp _ _ _ _ h1 hp, h3⟩
    · rw [if_neg w] at e
      obtain ⟨b, o', a1, a2, a3⟩ := q.obj y P' mp' e
      exact ⟨b, o', a1, a2, mp' _ _ _ _ h1 a3⟩
theorem EvP.frz {x : Str} {e : Expr} {P : Addr → Obj → Heap → Prop} {mp} {Q : Heap → Value → Prop} (hx : σ.lookup x = some (.obj P mp)) (h : EvP X k sc (upd x (LV.frz P mp) σ) e Q)
    (hQ : ∀ g a o g0 v, P a o g0 → g.get? a = some o → Q g v → Q (without g a) v) : EvP X k sc σ e Q := by
  intro A env g s E rm o bs q
  obtain ⟨a, ob, hv, ho, hp⟩ := q.obj x P mp hx
  cases hg : g.get? a with
  | none =>
    have s1 : Sub g (withObj g s.heap a) := withObj_sub q.sub
    refine wpAny_mono (h A env (withObj g s.heap a) s E rm o (bs.trans s1) (sto_frz q hv ho hp s1 withObj_in (withObj_self ho))) (fun v s' ⟨k1, g2, x2, p2⟩ => ?_) fun _ _ y => y
    have e2 := x2.gg _ _ (withObj_self ho)
    refine ⟨k1, without g2 a, ⟨fun b o' e => ?_, x2.hh, without_sub.trans x2.gh, fun b o' e => ?_⟩, hQ _ _ _ _ _ hp e2 p2⟩
    · rw [without_ne (fun q => by rw [q, hg] at e; cases e)]
      exact x2.gg _ _ (s1 _ _ e)
    · by_cases w : b = a
      · subst w; rw [without_self] at e; cases e
      · rw [without_ne w] at e
        rcases x2.new b o' e with z | z
        · left
          cases y : g.get? b with
          | none => rw [withObj_other y w] at z; cases z
          | some o2 => have := s1 _ _ y; rw [z] at this; exact this.symm
        · exact .inr z
  | some o' =>
    have e := q.sub _ _ hg
    rw [ho] at e
    cases e
    exact h A env g s E rm o bs (sto_frz q hv ho hp .rfl q.sub hg)
theorem Ev.frz {x : Str} {e : Expr} {P : Addr → Obj → Heap → Prop} {mp} {d : Dat} (hx : σ.lookup x = some (.obj P mp)) (h : Ev X k sc (upd x (LV.frz P mp) σ) e d) (hP : ∀ a o g, P a o g → NoSeq o) : Ev X k sc σ e d :=
  EvP.frz hx h fun g a o g0 v hp ho r => r.without ho (hP _ _ _ hp)

/-- a new object gets its name -/
theorem wp_ownNew {A : Around} {E : Value → Shared → Prop} {x : Str} {a : Addr} {ob : Obj} {P : Addr → Obj → Heap → Prop} {mp} {Q : Unit → Shared → Prop} (F : FS s₀ g₀ env H τ g m cm s) (o : EnvOk env sc) (hx : canStore sc x = true) (kk : Keeps s s') (ho : s'.heap.get? a = some ob) (hn : s.heap.get? a = none) (hP : P a ob g)
    (h : ∀ m' cm' s', FS s₀ g₀ env H (upd x (.obj P mp) τ) g m' cm' s' → Q () s') : wpAny X.M A (storeName env x (.ref a)) Q E s' := by
  have x1 : Step g s.heap g s'.heap := ⟨.rfl, kp_sub kk, F.st.gh.trans (kp_sub kk), fun _ _ e => .inl e⟩
  have none_of : ∀ {h : Heap}, Sub h s.heap → h.get? a = none := by
    intro h hs
    cases z : h.get? a with
    | none => rfl
    | some o => have := hs _ _ z; rw [hn] at this; cases this
  have ne_of : ∀ {b : Addr} {ob : Obj}, s.heap.get? b = some ob → b ≠ a := fun e q => by rw [q, hn] at e; cases e
  refine wp_store (lv := .obj P mp) (F.ev kk x1) o hx (o.cells x) ?_ ?_ fun m' cm' s'' F' => h _ _ _ F'
  · refine ⟨_, _, rfl, ho, hP, none_of F.st.gh, none_of F.st.hh, ?_, ?_, ?_⟩
    · obtain ⟨ob, _, _, ho, _⟩ := F.call.toInCall.ns
      exact (ne_of ho).symm
    · intro n c hc
      obtain ⟨ob, ho, _⟩ := F.call.cell n c hc
      exact ne_of ho
    · intro p hp
      exact ne_of (F.hold p hp).1
  · intro y P' mp' hy e hh
    obtain ⟨v, hv, lv⟩ := F.var y _ e
    obtain ⟨b, ob', rfl, ho', _⟩ := lv
    have := hv.fun hh
    cases this
    rw [hn] at ho'; cases ho'

theorem few_ok (pos : Pos) (env : Env) : ∀ {es : List Expr}, es.all plainE = true → (backTo pos (starEach es env)).all (fun x => !x.1) = true
  | [], _ => rfl
  | e :: es, h => by
    rw [List.all_cons, Bool.and_eq_true] at h
    rw [starEach_plain h.1]
    show (true && (backTo pos (starEach es env)).all (fun x => !x.1)) = true
    rw [few_ok pos env h.2]; rfl
theorem few_form {pos : Pos} {env : Env} {es : List Expr} (h : es.all plainE = true) (hl : es.length < 30) :
    ((backTo pos (starEach es env)).all (fun x => !x.1) && (backToKw pos (keywordEach [] env)).all (fun x => x.1.isSome) && decide (es.length + ([] : List Keyword).length + (if ([] : List Keyword).isEmpty then 0 else 1) < 30)) = true := by
  rw [few_ok pos env h]
  show (true && decide (es.length + 0 + 0 < 30)) = true
  simpa using hl

/-- x.name(..), x an object of the frame's own that is turned by it -/
theorem Ex.methO {x name : Str} {px apos cpos pos : Pos} {e : Expr} {es : List Expr} {ds : List Dat} {T id : String} {P P' : Addr → Obj → Heap → Prop} {mp mp'} {R : Out → Prop} (hx : τ.lookup x = some (.obj P mp)) (he : EvL X k sc τ (e :: es) ds)
    (pa : PlainAttrs T) (slot : Slot T name id) (hty : typeOf (.builtin id) = pure (.type "method_descriptor")) (hT : ∀ a o g, P a o g → o.cls = .type T ∧ o.dict = none)
    (hop : ∀ (g : Heap) (s : Shared) (a : Addr) (ob : Obj) (vs : List Value) (A : Around) (E : Value → Shared → Prop), Sub X.h0 g → Sub g s.heap → s.heap.get? a = some ob → P a ob g → RepAll g vs ds → Room A k →
      wpAny X.M A (call (.builtin id) (.ref a :: vs)) (fun v s' => v = .none ∧ ∃ h' tk ob', s' = { s with heap := h', toks := tk } ∧ Heap.ExtBut a s.heap h' ∧ h'.get? a = some ob' ∧ P' a ob' g) E s)
    (hr : R (.next (upd x (.obj P' mp') τ))) (hline : (apos.endLine == cpos.line) = true := by decide) (hl : (e :: es).length < 30 := by simp) (hd : (x == ("__debug__" : Str)) = false := by decide)
    (hbase : ∀ env, attributeBase (.Name x px) name env (eval (.Name x px) env) = eval (.Name x px) env := by intro _; rfl)
    (hs : ∀ env, swapsWith (.Call (.Attribute (.Name x px) name apos) (e :: es) [] cpos) none pos.line env = pure false := by intro _; rfl) :
    Ex X k sc τ (exec (.Expr (.Call (.Attribute (.Name x px) name apos) (e :: es) [] cpos) pos)) R := by
  intro A env s₀ g₀ H g m cm s E r o b F
  obtain ⟨v, hv, ad, ob, ev, h1, hp, h3, h4, h5, h6, h7⟩ := F.var x _ hx
  subst ev
  obtain ⟨t1, t2⟩ := hT _ _ _ hp
  refine wpAny_Expr ?_ o.quiet (hs env)
  refine wpAny_Call_method (hbase env) (few_form he.1 hl) hline pa slot hty (holds_name F o hv ⟨⟨ob, h1, t1⟩, fun a e => by cases e; exact ⟨ob, h1, t2⟩, ?_⟩ hd)
  refine Calls.callWith_builtin (plain_any _ _ he.1) (evalArgs_evs he r o (b.trans F.st.gg) F.sto fun vs g1 s1 k1 x1 p1 => ?_)
  have F1 := F.ev k1 x1
  refine wpAny_mono (hop g1 s1 ad ob vs A E (b.trans F1.st.gg) x1.gh (x1.hh _ _ h1) (mp _ _ _ _ x1.gg hp) p1 r) (fun v s' ⟨ev, h', tk, ob', es', hE, ho', hP'⟩ => ?_) fun _ _ y => y
  subst ev; subst es'
  exact ⟨_, g1, m, cm, hr, F1.mutate (lv := .obj P' mp') hx hv hE ⟨ob', ho', hP'⟩⟩

/-- x = f(), f a kind of the language's -/
theorem Ex.assignNew0 {x f : Str} {px pf pc pos : Pos} {T : String} {P : Addr → Obj → Heap → Prop} {mp} {R : Out → Prop} (hf : EvP X k sc τ (.Name f pf) fun _ u => u = .type T)
    (hop : ∀ (g : Heap) (s : Shared) (A : Around) (E : Value → Shared → Prop), Sub X.h0 g → Sub g s.heap → Room A k → wpAny X.M A (call (.type T) []) (fun v s' => Keeps s s' ∧ ∃ a ob, v = .ref a ∧ s'.heap.get? a = some ob ∧ s.heap.get? a = none ∧ P a ob g) E s)
    (hr : R (.next (upd x (.obj P mp) τ))) (hx : canStore sc x = true := by rfl) (hs : ∀ env, swapsWith (.Call (.Name f pf) [] [] pc) (some (.Name x px)) pos.line env = pure false := by intro _; rfl) :
    Ex X k sc τ (exec (.Assign [.Name x px] (.Call (.Name f pf) [] [] pc) pos)) R := by
  intro A env s₀ g₀ H g m cm s E r o b F
  refine wpAny_Assign_Name (wpAny_Call_NameR (wp_ev (hf A env g s E r o (b.trans F.st.gg) F.sto) fun u g1 s1 k1 x1 p1 => ?_)) (hs env)
  subst p1
  have F1 := F.ev k1 x1
  refine callWith_of (P := fun h => True) (by rfl) (fun h _ => ⟨.machine, .inr (.inl rfl), Looks.of_pure rfl⟩) (PySem.evalArgs_none ⟨trivial, ?_⟩)
  refine wpAny_mono (hop g1 s1 A E (b.trans F1.st.gg) F1.st.gh r) (fun v s' ⟨k2, a, ob, ev, ho, hn, hP⟩ => ?_) fun _ _ y => y
  subst ev
  exact wp_ownNew F1 o hx k2 ho hn hP fun m' cm' s'' F' => ⟨_, g1, m', cm', hr, F'⟩
end
end Mine

namespace Mine
open PySem PySem.W PyProof.Rows PySem.Calls
set_option Elab.async false
set_option maxRecDepth 100000
set_option linter.unusedVariables false

section
variable {K : Type} [DecidableEq K]
/-- keys, one behind the other, each once -/
def addK (ks : List K) (k : K) : List K := if k ∈ ks then ks else ks ++ [k]
theorem mem_addK {ks : List K} {k j : K} : j ∈ addK ks k ↔ j ∈ ks ∨ j = k := by
  unfold addK
  split
  · rename_i h
    exact ⟨.inl, fun q => q.elim id fun e => e ▸ h⟩
  · simp
theorem addK_nodup {ks : List K} {k : K} (h : ks.Nodup) : (addK ks k).Nodup := by
  unfold addK
  split
  · exact h
  · rename_i hk
    rw [List.nodup_append]
    exact ⟨h, by simp, fun a ha b hb => by rw [List.mem_singleton.mp hb]; exact fun q => hk (q ▸ ha)⟩
theorem addK_length {ks : List K} {k : K} : (addK ks k).length = if k ∈ ks then ks.length else ks.length + 1 := by
  unfold addK; split <;> simp
theorem addK_length_le {ks : List K} {k : K} : (addK ks k).length ≤ ks.length + 1 := by
  rw [addK_length]; split <;> omega
def keysOf (xs : List K) : List K := xs.foldl addK []
theorem keysOf_snoc (xs : List K) (x : K) : keysOf (xs ++ [x]) = addK (keysOf xs) x := by
  unfold keysOf; rw [List.foldl_append]; rfl
theorem keysOf_spec : ∀ n (xs : List K), xs.length = n → (∀ k, k ∈ keysOf xs ↔ k ∈ xs) ∧ (keysOf xs).Nodup ∧ (keysOf xs).length ≤ xs.length := by
  intro n
  induction n with
  | zero =>
    intro xs h
    have : xs = [] := List.length_eq_zero_iff.mp h
    subst this
    exact ⟨fun k => by simp [keysOf], by simp [keysOf], by simp [keysOf]⟩
  | succ n ih =>
    intro xs h
    rcases List.eq_nil_or_concat xs with e | ⟨ys, y, e⟩
    · subst e; simp at h
    · subst e
      rw [List.concat_eq_append] at *
      obtain ⟨h1, h2, h3⟩ := ih ys (by simpa using h)
      rw [keysOf_snoc]
      refine ⟨fun k => ?_, addK_nodup h2, ?_⟩
      · rw [mem_addK, h1]; simp
      · have := addK_length_le (ks := keysOf ys) (k := y)
        simp; omega
theorem mem_keysOf {xs : List K} {k : K} : k ∈ keysOf xs ↔ k ∈ xs := (keysOf_spec _ xs rfl).1 k
theorem keysOf_nodup {xs : List K} : (keysOf xs).Nodup := (keysOf_spec _ xs rfl).2.1
theorem keysOf_length_le {xs : List K} : (keysOf xs).length ≤ xs.length := (keysOf_spec _ xs rfl).2.2
end

def newSetObj (led : Bool) : Obj := { cls := .type "set", dict := none, data := .set #[] 0 (.fresh 0 0 led) }

/-- a kind of sets, and what is known of their objects -/
structure SetT {K : Type} [DecidableEq K] (X : Cx) (knd : KeyKind X.prog X.w K) (SP : List K → Obj → Prop) : Prop where
  exact : ∀ {ks o}, SP ks o → o.ExactSet ∧ NoSeq o
  fresh : SP [] (newSetObj (!X.w.params.followText "set-order"))
  add : ∀ {A : Around} {E : Value → Shared → Prop} {s : Shared} {a : Addr} {o : Obj} {ks : List K} {k : K} {x : Value} {Q : Bool → Shared → Prop}, knd.is k x = true → x.scannable = true → s.heap.get? a = some o → SP ks o → ks.length + 1 < scanBound →
    (∀ b h' o', Heap.SameBut a s.heap h' → h'.get? a = some o' → SP (addK ks k) o' → Q b { s with heap := h' }) → wpAny X.M A (setAddHashed a x (knd.hash k)) Q E s

section
variable {K : Type} [DecidableEq K] {X : Cx} {knd : KeyKind X.prog X.w K} {SP : List K → Obj → Prop} {k : Nat} {sc : Scope} {σ τ : Sto}

theorem newSet_led {A : Around} {E : Value → Shared → Prop} {s : Shared} {Q : Value → Shared → Prop} (h : Q (.ref s.heap.objs.size) { s with heap := s.heap.push (newSetObj (!X.w.params.followText "set-order")) }) :
    wpAny X.M A (newSet (.type "set")) Q E s := by
  unfold newSet setsByText
  refine wpAny_bind (wpAny_bind (wpAny_askSetting (wpAny_pure ?_)))
  dsimp only
  simp only [newObj]
  exact wpAny_bind (wpAny_alloc (wpAny_pure h))

theorem code_new1 {A : Around} {E : Value → Shared → Prop} {s : Shared} (a : Value) {Q₁ : Value → Shared → Prop} (h : Q₁ (.ref s.heap.objs.size) { s with heap := s.heap.push (newSetObj (!X.w.params.followText "set-order")) }) :
    codeAny X.M A (.call (.builtin "set.__new__") ⟨[.type "set", a], []⟩) (wants Q₁ E) s := by
  refine codeAny_of_tree ?_
  show wpAny _ A.in1 (do checkBuiltinCall "set.__new__" ⟨[.type "set", a], []⟩; again (.builtin "set.__new__" ⟨[.type "set", a], []⟩)) _ _ s
  refine wpAny_bind (wpAny_of_eq (F.newCall_set_1 a) (wpAny_pure ⟨plainId_quiet F.plain_set_new _, codeAny_builtin F.entry_set_new ?_⟩))
  rw [Around.under_plainId F.plain_set_new _]
  unfold Builtin.«set.__new__» Builtin.Frozenset.newClass
  have hsub := sub_set_self
  generalize hN : newSet = N
  obtain ⟨hp, g, d, tk, os⟩ := s
  dsimp only
  wp_walk
  subst hN
  exact newSet_led (wpAny_pure h)

theorem set_loop (T : SetT X knd SP) {A : Around} {R : Result → Shared → Prop} {I S : Addr} {fp wr : List Addr} {n : Nat} {P : Nat → Value → Prop} {St : Nat → Heap → Prop} (W : Walks X.prog X.w A.in1 I fp wr n P St) (hS : S ∉ fp) {xs : List K} (hn : xs.length = n)
    (hval : ∀ i v x, P i v → xs[i]? = some x → knd.is x v = true ∧ v.scannable = true) (hb : n + 1 < scanBound) :
    ∀ (j i : Nat) (s : Shared) (o : Obj), n - i = j → i ≤ n → St i s.heap → s.heap.get? S = some o → SP (keysOf (xs.take i)) o →
      (∀ h' tk o', (∀ b o, b ≠ S → b ∉ wr → s.heap.get? b = some o → h'.get? b = some o) → h'.get? S = some o' → SP (keysOf xs) o' → R (.ok (.ret .none)) { s with heap := h', toks := tk }) →
      codeAny X.M A (.builtin "set.update.loop" ⟨[.ref S, .ref I], []⟩) R s := by
  have Sw : S ∉ wr := fun q => hS (W.sub _ q)
  intro j
  induction j with
  | zero =>
    intro i s o hk hi hst ho hSP hR
    have hin : i = n := by omega
    subst hin
    refine codeAny_builtin F.entry_set_update_loop ?_
    rw [Around.under_plainId F.plain_set_update_loop _]
    show wpAny _ A.in1 (pyNext (.ref I) >>= _) _ _ s
    refine wpAny_bind (W.done s _ _ hst fun h' tk hk' => ?_)
    show wpAny _ A.in1 (ret Value.none) _ _ _
    refine wpAny_pure (hR h' tk o (fun b o hb hw e => hk' b o hw e) (hk' S o Sw ho) ?_)
    rw [List.take_of_length_le (by omega)] at hSP
    exact hSP
  | succ j ih =>
    intro i s o hk hi hst ho hSP hR
    have hlt : i < n := by omega
    refine codeAny_builtin F.entry_set_update_loop ?_
    rw [Around.under_plainId F.plain_set_update_loop _]
    show wpAny _ A.in1 (pyNext (.ref I) >>= _) _ _ s
    refine wpAny_bind (W.item i s _ _ hlt hst fun v h1 tk hP hst' hk1 => ?_)
    obtain ⟨x, hx⟩ : ∃ x, xs[i]? = some x := ⟨_, List.getElem?_eq_getElem (by omega)⟩
    obtain ⟨hkey, hsc⟩ := hval i v x hP hx
    show wpAny _ A.in1 (holding [v] (setAdd S v) >>= _) _ _ _
    refine wpAny_bind (wpAny_holding ?_)
    unfold setAdd
    refine wpAny_holding ?_
    refine wpAny_bind (knd.pyHash hkey ?_)
    have hroom : (keysOf (xs.take i)).length + 1 < scanBound := by
      have := keysOf_length_le (xs := xs.take i)
      rw [List.length_take] at this
      omega
    refine T.add (s := { s with heap := h1, toks := tk + 1 }) hkey hsc (hk1 S o Sw ho) hSP hroom fun b h' o' hsb ho' hSP' => ?_
    have e : xs.take (i + 1) = xs.take i ++ [x] := by rw [List.take_add_one, hx]; rfl
    refine wpAny_pure ⟨plainId_quiet F.plain_set_update_loop _, ih (i + 1) _ o' (by omega) hlt (W.frame _ _ _ hst' fun c hc o2 e2 => ?_) ho' (by rw [e, keysOf_snoc]; exact hSP') fun h2 tk2 o2 hk2 ho2 hSP2 => ?_⟩
    · have hne : c ≠ S := fun q => hS (q ▸ hc)
      exact (hsb.2 c hne).trans e2
    · exact hR h2 tk2 o2 (fun b o3 hb hw e3 => hk2 b o3 hb hw ((hsb.2 b hb).trans (hk1 b o3 hw e3))) ho2 hSP2

set_option maxHeartbeats 4000000 in
/-- set(xs) of a list -/
theorem call_set_of (T : SetT X knd SP) {A : Around} {E : Value → Shared → Prop} {s : Shared} {l : Addr} {vs : List Value} {xs : List K} {Q : Value → Shared → Prop} (hh : A.handled = none) (hl : s.heap.IsList l vs.toArray) (hn : xs.length = vs.length)
    (hval : ∀ (i : Nat) v x, vs[i]? = some v → xs[i]? = some x → knd.is x v = true ∧ v.scannable = true) (hb : vs.length + 1 < scanBound)
    (h : ∀ h' tk o', h'.get? s.heap.objs.size = some o' → SP (keysOf xs) o' → (∀ b o, s.heap.get? b = some o → h'.get? b = some o) → Q (.ref s.heap.objs.size) { s with heap := h', toks := tk }) :
    wpAny X.M A (call (.type "set") [.ref l]) Q E s := by
  obtain ⟨c, tl, hmro⟩ := F.called_set.mro
  have hmade := F.called_set.made
  have hsub := F.called_set.sub
  refine wpAny_call (codeAny_of_tree ?_)
  show wpAny _ _ (callAny (.type "set") _) _ _ _
  refine wpAny_pure ⟨Code.quiet_builtin _ (by decide +kernel), codeAny_builtin F.entry_type_call ?_⟩
  rw [Around.under_plain (weight_type_call_type "set" [.ref l] []) rfl]
  have h1 := F.called_set.notType
  have h2 := F.called_set.canCreate
  have hct := F.typeCall_set_1 (.ref l)
  repeat (any_goals (first | assumption | wp_step))
  generalize hled : (!X.w.params.followText "set-order") = led
  refine codeAny_mono (code_new1 (X := X) (.ref l) (E := E) (Q₁ := fun obj s₁ => obj = .ref s.heap.objs.size ∧ s₁ = { s with heap := s.heap.push (newSetObj led) }) (by rw [hled]; exact ⟨rfl, rfl⟩)) fun r s₁ hr => ?_
  cases r with
  | error e => exact hr
  | ok fl =>
    cases fl with
    | ret obj =>
      obtain ⟨rfl, rfl⟩ := hr
      have hS : (s.heap.push (newSetObj led)).get? s.heap.objs.size = some (newSetObj led) := Heap.get?_push_size _ rfl
      have hT : Shared.TypeIs { s with heap := s.heap.push (newSetObj led) } (.ref s.heap.objs.size) "set" := ⟨_, hS, rfl⟩
      have hli := F.called_set.init.lookup
      have hbi := F.called_set.init.bind (.ref s.heap.objs.size)
      repeat (any_goals (first | assumption | wp_step))
      refine codeAny_mono (codeAny_call_builtin (R := wants (fun r s₂ => r = .none ∧ ∃ h' tk o', s₂ = { s with heap := h', toks := tk } ∧ h'.get? s.heap.objs.size = some o' ∧ SP (keysOf xs) o' ∧ (∀ b o, s.heap.get? b = some o → h'.get? b = some o)) E)
        F.called_set.init.plain F.entry_set_init (check_set_init_1 hT ?_)) fun r₂ s₂ hr₂ => ?_
      · obtain ⟨ol, hol, hcl, nl, hdl⟩ := hl
        obtain ⟨ocls, odict, odata, oslots⟩ := ol
        simp only at hcl hdl
        subst hcl; subst hdl
        have hol' : (s.heap.push (newSetObj led)).get? l = some { cls := .type "list", dict := odict, data := .seq vs.toArray nl, slots := oslots } := Heap.get?_push_of_some _ hol
        have hsls := F.sub_list_set
        have hslf := F.sub_list_frozenset
        have hne : (Value.type "list" == Value.type "dict") = false := by decide
        have hl1 : (s.heap.push (newSetObj led)).IsList l vs.toArray := ⟨_, hol', rfl, nl, rfl⟩
        have hS' : (s.heap.push (newSetObj led)).get? s.heap.objs.size = some { cls := .type "set", dict := none, data := .set #[] 0 (.fresh 0 0 led) } := hS
        unfold Builtin.«set.__init__» noKeywords Builtin.Frozenset.updateFrom
        generalize hPI : pyIter = PI
        generalize hHp : s.heap.push (newSetObj led) = HH at *
        wp_walk
        subst hPI; subst hHp
        refine wpAny_pyIter_list hl1 ?_
        refine wpAny_bind (wpAny_runValue ?_)
        have hlS : l < s.heap.objs.size := Heap.lt_size hol
        have hh3 : A.in1.in1.in1.handled = none := by simp [hh]
        have hsz : (s.heap.push (newSetObj led)).objs.size = s.heap.objs.size + 1 := Heap.size_push ..
        have hneI : l ≠ (s.heap.push (newSetObj led)).objs.size := by
          rw [hsz]; exact Nat.ne_of_lt (Nat.lt_succ_of_lt hlS)
        have hSf : s.heap.objs.size ∉ [(s.heap.push (newSetObj led)).objs.size, l] := by
          rw [hsz]; simp only [List.mem_cons, List.not_mem_nil, or_false, not_or]
          exact ⟨Nat.ne_of_lt (Nat.lt_succ_self _), Nat.ne_of_gt hlS⟩
        have hvs : vs.toArray.size = vs.length := List.size_toArray
        refine set_loop T (Walks.list hh3 _ l hneI vs.toArray) hSf (xs := xs) (by rw [hvs]; exact hn) (fun i v x hv hx => hval i v x (by simpa using hv) hx) (by rw [hvs]; exact hb) (vs.toArray.size - 0) 0 _ (newSetObj led) rfl (Nat.zero_le _)
          ⟨⟨_, Heap.get?_push_size _ rfl, rfl, rfl⟩, (hl1.push _)⟩ (Heap.get?_push_of_some _ hS) (by rw [← hled]; exact T.fresh) fun h' tk' o' hk' ho' hSP' => ?_
        show wpAny _ _ _ _ _ _
        refine wpAny_pure ?_
        show wpAny _ _ (ret Value.none) _ _ _
        refine wpAny_pure ⟨rfl, h', tk', o', rfl, ho', hSP', fun b o e => ?_⟩
        have hb := Heap.lt_size e
        refine hk' b o (Nat.ne_of_lt hb) (fun q => ?_) (Heap.get?_push_of_some _ (Heap.get?_push_of_some _ e))
        rw [List.mem_singleton.mp q, hsz] at hb
        exact absurd hb (Nat.not_lt.mpr (Nat.le_succ _))
      · cases r₂ with
        | error e => exact hr₂
        | ok fl₂ =>
          cases fl₂ with
          | ret r =>
            obtain ⟨rfl, h', tk, o', rfl, ho', hSP', hk'⟩ := hr₂
            repeat (any_goals (first | assumption | wp_step))
            exact h _ _ _ ho' hSP' hk'
          | _ => exact hr₂.elim
    | _ => exact hr.elim
end
end Mine

namespace Mine
open PySem PySem.W PyProof.Rows PySem.Calls
set_option Elab.async false
set_option maxRecDepth 100000
set_option linter.unusedVariables false

section
variable {X : Cx} {k : Nat} {sc : Scope} {σ τ : Sto}

theorem tab_noseq {al : Tab} {a : Addr} {o : Obj} {g : Heap} (h : tabP X al a o g) : NoSeq o := by
  obtain ⟨_, vs, ⟨es, ep, _, hd, _⟩, _⟩ := h
  intro xs n e
  rw [hd] at e; cases e
/-- x.get(e, f) of an own table -/
theorem Ev.getTab {x : Str} {px apos pos : Pos} {e f : Expr} {al : Tab} {y : Str} {d0 : Dat} (hx : σ.lookup x = some (LV.tab X al)) (he : Ev X k sc σ e (.str y)) (hf : Ev X k sc σ f d0)
    (hline : (apos.endLine == pos.line) = true := by rfl) (hp : plainE e = true := by rfl) (hp2 : plainE f = true := by rfl) (hbase : ∀ env, attributeBase (.Name x px) "get" env (eval (.Name x px) env) = eval (.Name x px) env := by intro _; rfl)
    (hd1 : (x == ("__debug__" : Str)) = false := by decide) (hn1 : (x == ("__classdict__" : Str)) = false := by decide) :
    Ev X k sc σ (.Call (.Attribute (.Name x px) "get" apos) [e, f] [] pos) ((tget al y).getD d0) := by
  intro A env g s E rm o bs q
  have hpl : [e, f].all plainE = true := by rw [List.all_cons, List.all_cons, hp, hp2]; rfl
  refine wpAny_Call_method (hbase env) (few_form hpl (by simp)) hline F.plainAttrs_dict F.slot_dict_get F.type_dict_get (wp_nameO o q hx (fun a ob ho ⟨hb, vs, hdi, hv⟩ => ?_) hd1 hn1)
  have dm : s.heap.DictOf (strKind X.prog X.w) a (keysV al vs) := Heap.dictOf_iff.mpr ⟨ob, ho, hdi⟩
  refine ⟨dm.typeIs, dm.mapOf.noDict, ?_⟩
  rw [starEach_plain hp, starEach_plain hp2]
  show wpAny _ _ (callWith pos (.builtin "dict.get") [.ref a] [(false, eval e env), (false, eval f env)] []) _ _ _
  refine wpAny_dict_get2 (knd := strKind X.prog X.w) (by simpa using Nat.ne_of_gt hb) (wp_ev (he A env g s E rm o bs q) fun u g1 s1 k1 x1 p1 => wp_ev (hf A env g1 s1 E rm o (bs.trans x1.gg) (q.step x1)) fun v g2 s2 k2 x2 p2 => ?_)
  cases p1
  have dm2 : s2.heap.DictOf (strKind X.prog X.w) a (keysV al vs) := Heap.dictOf_iff.mpr ⟨ob, x2.hh _ _ (x1.hh _ _ ho), hdi⟩
  refine ⟨y, _, isText _ _ y _, dm2.mapOf, ?_⟩
  refine .trans (kp_trans k1 k2) (x1.trans x2) (Post.tok x2.gh ?_)
  have := keysV_get hv y
  cases h : tget al y with
  | none =>
    rw [h] at this
    simp only at this
    rw [this]
    exact p2
  | some d =>
    rw [h] at this
    obtain ⟨w, e1, e2⟩ := this
    rw [e1]
    exact e2.sub (x1.gg.trans x2.gg)

theorem keysV_at {al : Tab} {vs : List Value} {i : Nat} {y : Str} {v : Value} (h : (keysV al vs)[i]? = some (y, v)) : (al.map fun p => Dat.str p.1)[i]? = some (.str y) := by
  unfold keysV at h
  have h1 := List.getElem?_zip_eq_some.mp h
  have h2 := h1.1
  rw [List.getElem?_map] at h2 ⊢
  cases e : al[i]? with
  | none => rw [e] at h2; cases h2
  | some p => rw [e] at h2; cases h2; rfl
theorem keysV_length {al : Tab} {vs : List Value} (h : vs.length = al.length) : (keysV al vs).length = al.length := by
  unfold keysV; rw [List.length_zip, List.length_map]; omega

/-- going over an own table that stands still -/
theorem iterOf_tab {al : Tab} {a : Addr} {ob : Obj} {g : Heap} {s : Shared} (kk : Sub g s.heap) (hp : tabP X al a ob g) (hg : g.get? a = some ob) : IterOf X k g s (.ref a) (al.map fun p => Dat.str p.1) := by
  intro A E rm
  obtain ⟨hb, vs, hdi, hv⟩ := hp
  have hl : vs.length = al.length := by rw [hv.length, List.length_map]
  have ho := kk _ _ hg
  have dm : s.heap.DictOf (strKind X.prog X.w) a (keysV al vs) := Heap.dictOf_iff.mpr ⟨ob, ho, hdi⟩
  obtain ⟨ep, da⟩ := dm.dictAt
  have hlt : a < s.heap.objs.size := Heap.lt_size ho
  have hn : (al.map fun p => Dat.str p.1).length = (keysV al vs).length := by rw [List.length_map, keysV_length hl]
  refine wpAny_pyIter_dict (by simpa using Nat.ne_of_gt hb) da ⟨kp_mk (Sub.push .rfl _), s.heap.objs.size, [s.heap.objs.size, a], [s.heap.objs.size], (fun i v => ∃ k x, (keysV al vs)[i]? = some (k, x) ∧ (strKind X.prog X.w).is k v = true),
    (fun i h => h.IsKeyIter s.heap.objs.size a i (keysV al vs).length ep ∧ h.DictAt (strKind X.prog X.w) a (keysV al vs) ep), rfl, ?_⟩
  exact {
    walks := fun A' hA => by rw [hn]; exact Walks.dictKeys hA s.heap.objs.size a (Nat.ne_of_lt hlt) (keysV al vs) ep
    start := ⟨⟨_, Heap.get?_push_size _ rfl, rfl, rfl⟩, da.push _⟩
    low := fun b hb => by
      show b < (s.heap.push _).objs.size
      rw [Heap.size_push]
      rcases List.mem_cons.mp hb with rfl | hb
      · exact Nat.lt_succ_self _
      · rcases List.mem_cons.mp hb with rfl | hb
        · exact Nat.lt_succ_of_lt hlt
        · cases hb
    fresh := fun b hb => by rw [List.mem_singleton.mp hb]; exact fresh_size
    live := fun i h st b hb => by
      obtain ⟨⟨o, ho, _⟩, _⟩ := st
      rw [List.mem_singleton.mp hb, ho]; rfl
    foot := fun b hb => by
      rcases List.mem_cons.mp hb with rfl | hb
      · exact .inl (List.mem_singleton.mpr rfl)
      · rw [List.mem_singleton.mp hb, hg]
        exact .inr rfl
    item := fun i v hv => by
      obtain ⟨y, x, e, hk⟩ := hv
      obtain ⟨t, rfl⟩ := Value.isStrOf_shape hk
      exact ⟨_, keysV_at e, .str _ _⟩
    own := fun i A' E' target v s' Q st q => by
      obtain ⟨⟨o, ho, hc, _⟩, _⟩ := st
      exact letOwned_ok ho hc (by decide) q }
theorem Its.tab {x : Str} {px : Pos} {al : Tab} {mp} (hx : σ.lookup x = some (.obj (frzP (tabP X al)) mp)) (hd1 : (x == ("__debug__" : Str)) = false := by decide) (hn1 : (x == ("__classdict__" : Str)) = false := by decide)
    (hs : ∀ env v, foldedSetIterable (.Name x px) env v = pure v := by intro _ _; rfl) : Its X k sc σ (.Name x px) (al.map fun p => Dat.str p.1) := by
  refine ⟨fun A env g s E rm o bs q => wp_nameO o q hx (fun a ob ho ⟨hp, hg⟩ => ?_) hd1 hn1, hs⟩
  exact Post.here q.sub fun s' kk => iterOf_tab kk hp hg
end
end Mine

namespace Mine
open PySem PySem.W PyProof.Rows PySem.Calls
set_option Elab.async false
set_option maxRecDepth 100000
set_option linter.unusedVariables false

/-- sets of texts -/
def TS (X : Cx) (ks : List Str) (o : Obj) : Prop := o.SetObjOf (strKind X.prog X.w) (fun k => decide (k ∈ ks)) ks.length
theorem ts_noseq {X : Cx} {ks : List Str} {o : Obj} (h : TS X ks o) : NoSeq o := by
  obtain ⟨_, es, ep, t, hd, _⟩ := h
  intro xs n e
  rw [hd] at e; cases e
theorem ts_congr {X : Cx} {ks : List Str} {o : Obj} {S : Str → Bool} {n : Nat} (h : o.SetObjOf (strKind X.prog X.w) S n) (e : ∀ k, S k = decide (k ∈ ks)) (en : n = ks.length) : TS X ks o := by
  have : S = fun k => decide (k ∈ ks) := funext e
  subst this; subst en; exact h
theorem setT_text (X : Cx) : SetT X (strKind X.prog X.w) (TS X) where
  exact := fun h => ⟨h.1, ts_noseq h⟩
  fresh := ts_congr (setObjOf_fresh (knd := strKind X.prog X.w) _) (fun k => by simp) rfl
  add := by
    intro A E s a o ks k x Q hkey hsc ho hS hroom h
    have hS' := hS.setOf ho (by omega)
    refine wpAny_setAddHashed_of hkey hsc hS' hroom fun h' hsb hn => ?_
    obtain ⟨o', ho', hso⟩ := hn.objOf
    refine h _ h' o' hsb ho' (ts_congr hso (fun j => ?_) ?_)
    · rw [← Bool.decide_or]
      exact decide_eq_decide.mpr mem_addK.symm
    · rw [addK_length]
      by_cases hk : k ∈ ks <;> simp [hk]

def tsP (X : Cx) (ks : List Str) (_ : Addr) (o : Obj) (_ : Heap) : Prop := TS X ks o
def LV.tset (X : Cx) (ks : List Str) : LV := .obj (tsP X ks) fun _ _ _ _ _ h => h

section
variable {X : Cx} {k : Nat} {sc : Scope} {σ τ : Sto}
/-- x = set(), of texts -/
theorem Ex.assignTset {x f : Str} {px pf pc pos : Pos} {R : Out → Prop} (hf : EvP X k sc τ (.Name f pf) fun _ u => u = .type "set") (hr : R (.next (upd x (LV.tset X []) τ))) (hx : canStore sc x = true := by rfl)
    (hs : ∀ env, swapsWith (.Call (.Name f pf) [] [] pc) (some (.Name x px)) pos.line env = pure false := by intro _; rfl) : Ex X k sc τ (exec (.Assign [.Name x px] (.Call (.Name f pf) [] [] pc) pos)) R :=
  Ex.assignNew0 (P := tsP X []) hf (fun g s A E _ kk _ => call_set_0 fun led => ⟨kp_mk (Sub.push .rfl _), _, _, rfl, Heap.get?_push_size _ rfl, fresh_size, ts_congr (setObjOf_fresh (knd := strKind X.prog X.w) led) (fun k => by simp) rfl⟩) hr hx hs
/-- x.add(e) of an own set of texts -/
theorem Ex.addTset {x : Str} {px apos cpos pos : Pos} {e : Expr} {ks : List Str} {y : Str} {R : Out → Prop} (hx : τ.lookup x = some (LV.tset X ks)) (he : Ev X k sc τ e (.str y)) (hz : ks.length + 1 < scanBound)
    (hr : R (.next (upd x (LV.tset X (addK ks y)) τ))) (hline : (apos.endLine == cpos.line) = true := by decide) (hp : plainE e = true := by rfl) (hd : (x == ("__debug__" : Str)) = false := by decide)
    (hbase : ∀ env, attributeBase (.Name x px) "add" env (eval (.Name x px) env) = eval (.Name x px) env := by intro _; rfl)
    (hs : ∀ env, swapsWith (.Call (.Attribute (.Name x px) "add" apos) [e] [] cpos) none pos.line env = pure false := by intro _; rfl) :
    Ex X k sc τ (exec (.Expr (.Call (.Attribute (.Name x px) "add" apos) [e] [] cpos) pos)) R := by
  refine Ex.methO (T := "set") (id := "set.add") (P' := tsP X (addK ks y)) hx (.cons he .nil hp) F.plainAttrs_set F.slot_set_add F.type_set_add (fun a o g h => ⟨h.1.1, h.1.2.1⟩) (fun g s a ob vs A E b0 kk ho hP hv rm => ?_) hr hline (by simp) hd hbase hs
  cases hv with
  | cons hv hn =>
    cases hn
    cases hv
    rename_i tk
    have hS : TS X ks ob := hP
    refine call_set_add (knd := strKind X.prog X.w) (k := y) (strKind_is _ _ _ _) rfl (hS.setOf ho (by omega)) hz fun h' hsb hn => ?_
    obtain ⟨o', ho', hso⟩ := hn.objOf
    refine ⟨rfl, h', _, o', rfl, hsb.extBut, ho', ts_congr hso (fun j => ?_) ?_⟩
    · rw [← Bool.decide_or]
      exact decide_eq_decide.mpr mem_addK.symm
    · rw [addK_length]
      by_cases hk : y ∈ ks <;> simp [hk]
/-- a set of texts in g -/
def TsIn (X : Cx) (ks : List Str) (g : Heap) (v : Value) : Prop := ∃ a o, v = .ref a ∧ g.get? a = some o ∧ TS X ks o
theorem op_tset {ys : List Str} (hb : ys.length + 1 < scanBound) : OpN X (k + 1) (fun vs => call (.type "set") vs) [.list (ys.map .str)] (TsIn X (keysOf ys)) := by
  intro g s vs b0 kk r A E rm
  cases r with
  | cons r rn =>
    cases rn
    cases r with
    | list il rr =>
      rename_i l vs
      have hlen : vs.length = ys.length := by rw [rr.length, List.length_map]
      refine call_set_of (setT_text X) rm.hh (isList_sub kk il) hlen.symm (fun i v x hv hx => ?_) (by omega) fun h' tk o' ho' hS hk => ?_
      · obtain ⟨d, e1, e2⟩ := rr.get' hv
        rw [List.getElem?_map, hx] at e1
        cases e1
        cases e2
        exact ⟨strKind_is _ _ _ _, rfl⟩
      · refine ⟨kp_mk hk, _, Step.of_sub kk hk, _, o', rfl, freeze_new ho' fresh_size, hS⟩

theorem entry_set_eq : entryFor table "set.__eq__" = some Builtin.«frozenset.__eq__» :=
  entryFor_alias (id' := "frozenset.__eq__") (by kernel_rfl) rfl (by decide +kernel) (by kernel_rfl)
theorem sub_set_frozen : isSubtype (.type "set") (.type "frozenset") = pure false := by rw [isSubtype_type]; kernel_rfl

theorem forIn_quiet {M : Model} {A : Around} {E : Value → Shared → Prop} {s : Shared} {β γ : Type} {Q : β → Shared → Prop} {init : β} {body : γ → β → Sem (ForInStep β)} : ∀ (l : List γ), (∀ e ∈ l, ∀ Q' : ForInStep β → Shared → Prop, Q' (.yield init) s → wpAny M A (body e init) Q' E s) → Q init s → wpAny M A (forIn l init body) Q E s
  | [], _, h => by rw [List.forIn_nil]; exact wpAny_pure h
  | e :: l, hb, h => by
    rw [List.forIn_cons]
    refine wpAny_bind (hb e (by simp) _ ?_)
    exact forIn_quiet l (fun e' he => hb e' (List.mem_cons_of_mem _ he)) h
theorem forIn_all {M : Model} {A : Around} {E : Value → Shared → Prop} {s : Shared} {β γ : Type} {Q : β → Shared → Prop} {init stop : β} {body : γ → β → Sem (ForInStep β)} (p : γ → Bool) : ∀ (l : List γ),
    (∀ e ∈ l, ∀ Q' : ForInStep β → Shared → Prop, Q' (if p e then .yield init else .done stop) s → wpAny M A (body e init) Q' E s) → Q (if l.all p then init else stop) s → wpAny M A (forIn l init body) Q E s
  | [], _, h => by rw [List.forIn_nil]; exact wpAny_pure h
  | e :: l, hb, h => by
    rw [List.forIn_cons]
    refine wpAny_bind (hb e (by simp) _ ?_)
    rw [List.all_cons] at h
    cases hp : p e with
    | true =>
      rw [hp, Bool.true_and] at h
      simp only [if_true]
      exact forIn_all p l (fun e' he => hb e' (List.mem_cons_of_mem _ he)) h
    | false =>
      rw [hp, Bool.false_and] at h
      simp only [Bool.false_eq_true, if_false] at h ⊢
      exact wpAny_pure h
theorem quietEq_scan {M : Model} {A : Around} {E : Value → Shared → Prop} {s : Shared} {Q : Bool → Shared → Prop} {x : Value} (hx : x.scannable = true) (h : Q true s) : wpAny M A (Builtin.Frozenset.quietEq x) Q E s := by
  unfold Builtin.Frozenset.quietEq
  cases x <;> first | exact wpAny_pure h | cases hx
theorem subset_of {A : Around} {E : Value → Shared → Prop} {s : Shared} {a b : Addr} {o1 o2 : Obj} {ks1 ks2 : List Str} {Q : Bool → Shared → Prop} {id : String} (ha : s.heap.get? a = some o1) (hb : s.heap.get? b = some o2) (h1 : TS X ks1 o1) (h2 : TS X ks2 o2)
    (n1 : ks1.length < scanBound) (n2 : ks2.length < scanBound) (hn : ks1.length = ks2.length) (h : Q (decide (∀ y ∈ ks1, y ∈ ks2)) s) : wpAny X.M A (Builtin.Frozenset.subsetOf id a b) Q E s := by
  have h2' := h2
  obtain ⟨x1, es1, ep1, tb1, d1, el1, me1, sz1, fi1⟩ := h1
  obtain ⟨x2, es2, ep2, tb2, d2, el2, me2, sz2, fi2⟩ := h2
  unfold Builtin.Frozenset.subsetOf Builtin.Frozenset.walkUnseen Builtin.Frozenset.sizeOf
  refine wpAny_bind (wpAny_bind (wpAny_setEntries_of ha d1 fi1 (wpAny_pure ?_)))
  refine wpAny_bind (wpAny_bind (wpAny_setEntries_of hb d2 fi2 (wpAny_pure ?_)))
  rw [if_neg (by omega)]
  refine wpAny_bind (wpAny_setEpoch_of ha d1 fi1 ?_)
  refine wpAny_bind (wpAny_bind (wpAny_setEntries_of ha d1 fi1 (wpAny_bind (wpAny_setEntries_of hb d2 fi2 (wpAny_bind ?_)))))
  refine forIn_quiet _ (fun e he Q' hq => ?_) ?_
  · have hsc : e.2.scannable = true := by
      rcases List.mem_append.mp he with h | h
      · exact (el1 e h).2
      · exact (el2 e h).2
    obtain ⟨hh, x⟩ := e
    refine wpAny_bind (quietEq_scan hsc ?_)
    rw [if_neg (by decide)]
    exact wpAny_pure hq
  dsimp only
  refine wpAny_pure (wpAny_bind ?_)
  refine forIn_all (fun e => match e.2 with | .str y _ => decide (y ∈ ks2) | _ => true) (stop := (some false, ())) _ (fun e he Q' hq => ?_) ?_
  · obtain ⟨⟨y, hk, hh⟩, hsc⟩ := el1 e he
    obtain ⟨hash, x⟩ := e
    obtain ⟨t, rfl⟩ := Value.isStrOf_shape hk
    dsimp only at hh hq
    subst hh
    refine wpAny_bind (wpAny_holding (wpAny_setFind_of (knd := strKind X.prog X.w) hk hsc (h2'.setOf hb n2) fun r hr => ?_))
    have hr2 : r.isSome = decide (y ∈ ks2) := hr
    have hr' : r.isNone = !decide (y ∈ ks2) := by
      rw [← hr2]; cases r <;> rfl
    rw [hr']
    by_cases hy : y ∈ ks2
    · simp only [hy, decide_true, Bool.not_true, Bool.false_eq_true, if_false] at hq ⊢
      unfold Builtin.Frozenset.unchanged
      refine wpAny_bind (wpAny_bind (wpAny_setEpoch_of ha d1 fi1 ?_))
      rw [if_neg (by simp)]
      exact wpAny_pure (wpAny_pure hq)
    · simp only [hy, decide_false, Bool.not_false, if_true, Bool.false_eq_true, if_false] at hq ⊢
      exact wpAny_pure hq
  · have e : es1.toList.all (fun e => match e.2 with | .str y _ => decide (y ∈ ks2) | _ => true) = decide (∀ y ∈ ks1, y ∈ ks2) := by
      rw [Bool.eq_iff_iff, List.all_eq_true, decide_eq_true_eq]
      constructor
      · intro h y hy
        obtain ⟨e, he, hk⟩ := (me1 y).mp (by simpa using hy)
        obtain ⟨t, ht⟩ := Value.isStrOf_shape hk
        have := h e he
        rw [ht] at this
        simpa using this
      · intro h e he
        obtain ⟨⟨y, hk, _⟩, _⟩ := el1 e he
        obtain ⟨t, ht⟩ := Value.isStrOf_shape hk
        rw [ht]
        have : y ∈ ks1 := by simpa using (me1 y).mpr ⟨e, he, hk⟩
        simpa using h y this
    rw [e]
    by_cases hall : ∀ y ∈ ks1, y ∈ ks2
    · rw [decide_eq_true hall] at h ⊢
      exact wpAny_pure h
    · rw [decide_eq_false hall] at h ⊢
      exact wpAny_pure h
theorem tset_eq {A : Around} {E : Value → Shared → Prop} {s : Shared} {a b : Addr} {o1 o2 : Obj} {ks1 ks2 : List Str} {Q : Value → Shared → Prop} (ha : s.heap.get? a = some o1) (hb : s.heap.get? b = some o2) (h1 : TS X ks1 o1) (h2 : TS X ks2 o2)
    (n1 : ks1.length < scanBound) (n2 : ks2.length < scanBound) (hu : A.units < cLine) (h : Q (.bool (decide (ks1.length = ks2.length ∧ ∀ y ∈ ks1, y ∈ ks2))) s) : wpAny X.M A (compareOp .Eq (.ref a) (.ref b)) Q E s := by
  have t1 : s.TypeIs (.ref a) "set" := ⟨o1, ha, h1.1.1⟩
  have t2 : s.TypeIs (.ref b) "set" := ⟨o2, hb, h2.1.1⟩
  show wpAny X.M A (richCompare .Eq (.ref a) (.ref b)) Q E s
  refine wpAny_richCompare_same_room t1 t2 F.slot_set_eq (wpAny_call_entry F.slot_set_eq t1 entry_set_eq ?_ (F.args_set_eq_2 _ _)) hu
  obtain ⟨x1, es1, ep1, tb1, d1, el1, me1, sz1, fi1⟩ := h1
  obtain ⟨x2, es2, ep2, tb2, d2, el2, me2, sz2, fi2⟩ := h2
  unfold Builtin.«frozenset.__eq__»
  show wpAny _ _ (Builtin.Frozenset.slot1 "__eq__" ⟨[.ref a, .ref b], []⟩ >>= _) _ _ s
  refine wpAny_bind (wpAny_of_eq (show Builtin.Frozenset.slot1 "__eq__" ⟨[.ref a, .ref b], []⟩ = pure (.ref a, .ref b) from rfl) ?_)
  show wpAny _ _ (Builtin.Frozenset.isAnySet (.ref b) >>= _) _ _ s
  refine wpAny_bind ?_
  unfold Builtin.Frozenset.isAnySet
  refine wpAny_bind (m := isInstance (.ref b) (.type "set")) (wpAny_isInstance t2 sub_set_self ?_)
  refine wpAny_pure ?_
  show wpAny _ _ (if (!true) = true then _ else _) _ _ s
  rw [if_neg (by decide)]
  show wpAny _ _ (Builtin.Frozenset.addrOf (.ref a) >>= _) _ _ s
  refine wpAny_bind (wpAny_pure ?_)
  show wpAny _ _ (Builtin.Frozenset.addrOf (.ref b) >>= _) _ _ s
  refine wpAny_bind (wpAny_pure ?_)
  show wpAny _ _ (Builtin.Frozenset.sizeOf a >>= _) _ _ s
  unfold Builtin.Frozenset.sizeOf
  refine wpAny_bind (wpAny_bind (wpAny_setEntries_of ha d1 fi1 (wpAny_pure ?_)))
  refine wpAny_bind (wpAny_bind (wpAny_setEntries_of hb d2 fi2 (wpAny_pure ?_)))
  dsimp only
  refine wpAny_bind ?_
  by_cases hn : ks1.length = ks2.length
  · rw [if_neg (by simp; omega)]
    refine wpAny_bind (wpAny_bind (wpAny_isInstance t1 sub_set_frozen (wpAny_pure ?_)))
    rw [if_neg (by decide)]
    refine subset_of ha hb ⟨x1, es1, ep1, tb1, d1, el1, me1, sz1, fi1⟩ ⟨x2, es2, ep2, tb2, d2, el2, me2, sz2, fi2⟩ n1 n2 hn (wpAny_pure ⟨_, rfl, ⟨(by intro q; cases q), ?_⟩⟩)
    have e : decide (ks1.length = ks2.length ∧ ∀ y ∈ ks1, y ∈ ks2) = decide (∀ y ∈ ks1, y ∈ ks2) := by simp [hn]
    rw [e] at h
    exact h
  · rw [if_pos (by simp; omega)]
    refine wpAny_pure (wpAny_pure ⟨_, rfl, ⟨(by intro q; cases q), ?_⟩⟩)
    have e : decide (ks1.length = ks2.length ∧ ∀ y ∈ ks1, y ∈ ks2) = false := by simp [hn]
    rw [e] at h
    exact h
/-- x == e, x an own set of texts -/
theorem Ev.eqTset {x : Str} {px pos : Pos} {e : Expr} {ks1 ks2 : List Str} (hx : σ.lookup x = some (LV.tset X ks1)) (he : EvP X k sc σ e (TsIn X ks2)) (n1 : ks1.length < scanBound) (n2 : ks2.length < scanBound) (hm : behindInMarks .Eq e = false := by with_unfolding_all rfl)
    (hd1 : (x == ("__debug__" : Str)) = false := by decide) (hn1 : (x == ("__classdict__" : Str)) = false := by decide) :
    Ev X k sc σ (.Compare (.Name x px) [.Eq] [e] pos) (.bool (decide (ks1.length = ks2.length ∧ ∀ y ∈ ks1, y ∈ ks2))) := by
  intro A env g s E rm o bs q
  refine wpAny_Compare1 (wp_nameO o q hx (fun a ob ho hP => wp_ev (he A env g s E rm o bs q) fun v g1 s1 k1 x1 p1 => ?_) hd1 hn1) hm
  obtain ⟨b, o2, rfl, hb, h2⟩ := p1
  exact tset_eq (x1.hh _ _ ho) (x1.gh _ _ hb) hP h2 n1 n2 (by have := rm.un; omega) (.trans k1 x1 (Post.here x1.gh (.bool _)))
end
end Mine

namespace Mine
open PySem PySem.W PyProof.Rows PySem.Calls
set_option Elab.async false
set_option maxRecDepth 100000
set_option linter.unusedVariables false
section
variable {X : Cx} {k : Nat} {sc : Scope} {σ τ : Sto}

/-- sum of a list of whole numbers -/
theorem op_sum {ns : List Int} : OpN X (k + 1) (fun vs => call (.builtin "sum") vs) [dList ns] fun g v => Rep g v (.int ns.sum) := by
  intro g s vs b0 kk r A E rm
  cases r with
  | cons r rn =>
    cases rn
    cases r with
    | list il rr =>
      rename_i l vs
      have hi := intsAre_of rr
      obtain ⟨xs, hxs⟩ := hi.allInts.items
      have hl := isList_sub kk il
      rw [hxs] at hl
      refine sum_intListG rm.hh hl fun h' tk t' hk => ?_
      have e : preSum (numAt xs) xs.size = ns.sum := by
        have e1 : numsOf (intItems xs).toList = ns := by rw [← hxs]; exact hi.numsOf
        rw [nums_intItems] at e1
        rw [← e1, preSum_eq, List.take_of_length_le (by simp)]
      rw [e]
      exact ⟨kp_mk hk, g, ⟨.rfl, hk, kk.trans hk, fun _ _ e => .inl e⟩, .int _ _⟩

section
variable {A : Around} {E : Value → Shared → Prop} {s : Shared} {a kS : Addr} {vs : List Value} {kz : List Int} {keys : Array Value} {e e1 : Nat} {P : PySem.Fin → Shared → Prop}
set_option maxHeartbeats 2000000 in
theorem keyed_tail {st : SortSt} (nk : s.heap.get? kS = some (seqObj "list" keys e)) (na : s.heap.get? a = some (seqObj "list" #[] e1)) (hka : kS ≠ a) (hz : keys.size ≤ 64) (hz2 : (arrOf st).size ≤ 64) (hfl : failedOf st = none)
    (h : ∀ h' c, (∀ b o, b ≠ a → b ≠ kS → s.heap.get? b = some o → h'.get? b = some o) → h'.get? a = some (seqObj "list" ((arrOf st).map (·.2)) c) → P (.done (.ret .none)) { s with heap := h' }) :
    wpAny X.M A (ksk_tail a false e1 (.ref kS) st) P E s := by
  have s1 := Heap.SameBut.update s.heap kS (Obj.mapSeq fun _ => (#[] : Array Value))
  have na1 : (s.heap.update kS (Obj.mapSeq fun _ => (#[] : Array Value))).get? a = some (seqObj "list" #[] e1) := (s1.2 a hka.symm).trans na
  have s2 := Heap.SameBut.update (s.heap.update kS (Obj.mapSeq fun _ => (#[] : Array Value))) a (Obj.mapSeq fun _ => (arrOf st).map (·.2))
  obtain ⟨c2, hc2⟩ : ∃ c2, ((s.heap.update kS (Obj.mapSeq fun _ => (#[] : Array Value))).update a (Obj.mapSeq fun _ => (arrOf st).map (·.2))).get? a = some (seqObj "list" ((arrOf st).map (·.2)) c2) :=
    ⟨_, get?_update_seq na1 fun _ => (arrOf st).map (·.2)⟩
  have hout : ((arrOf st).map (·.2)).size = (arrOf st).size := Array.size_map ..
  unfold ksk_tail
  dsimp only
  refine wpAny_bind (listUpdate_at nk rfl ?_ (by rw [sizeLine_eq]; omega) (Nat.zero_le _))
  refine wpAny_bind (wpAny_letGo ?_)
  refine wpAny_bind (seqEpoch_at na1 rfl ?_)
  simp only [Bool.false_eq_true, if_false]
  refine wpAny_bind (listUpdate_at na1 rfl ?_ (Nat.zero_le _) (Nat.le_trans (Nat.le_of_eq hout) (by rw [sizeLine_eq]; omega)))
  rw [hfl]
  simp only [bne_self_eq_false, Bool.false_eq_true, if_false]
  exact wpAny_pure (h _ c2 (fun b o h1 h2 e => s2.extBut b o h1 (s1.extBut b o h2 e)) hc2)
theorem keyed_end (nk : s.heap.get? kS = some (seqObj "list" keys e)) (na : s.heap.get? a = some (seqObj "list" #[] e1)) (hka : kS ≠ a) (hk : IntsAre keys.toList kz) (hlen : kz.length = vs.length) (h64 : vs.length < 64)
    (h : ∀ h' c out, (∀ b o, b ≠ a → b ≠ kS → s.heap.get? b = some o → h'.get? b = some o) → h'.get? a = some (seqObj "list" (List.toArray out) c) → out.Perm vs → P (.done (.ret .none)) { s with heap := h' }) :
    wpAny X.M A (ksk_end a false vs.toArray e1 (.ref kS) keys) P E s := by
  have hsz : keys.size = vs.length := by
    have h1 := hk.length
    rw [Array.length_toList] at h1
    omega
  have hzs : (keys.zip vs.toArray).size = vs.length := by rw [Array.size_zip, hsz, List.size_toArray, Nat.min_self]
  have fin : ∀ st : SortSt, (arrOf st).Perm (keys.zip vs.toArray) → failedOf st = none → wpAny X.M A (ksk_tail a false e1 (.ref kS) st) P E s := by
    intro st hp hf
    have hps : (arrOf st).size = vs.length := by rw [hp.size_eq, hzs]
    refine keyed_tail nk na hka (by omega) (by omega) hf fun h' c k1 k2 => ?_
    refine h h' c ((arrOf st).map (·.2)).toList k1 (by rw [Array.toArray_toList]; exact k2) ?_
    have h1 : ((arrOf st).toList.map (·.2)).Perm ((keys.zip vs.toArray).toList.map (·.2)) := (Array.perm_iff_toList_perm.mp hp).map _
    rw [ksk_zip, List.map_snd_zip (by have h0 : keys.toList.length = keys.size := Array.length_toList; rw [h0, hsz]; exact Nat.le_refl _)] at h1
    rw [Array.toList_map]
    exact h1
  unfold ksk_end
  dsimp only
  rw [if_neg (by decide)]
  by_cases h2 : vs.toArray.size < 2
  · rw [if_pos h2, if_pos h2]
    refine wpAny_bind (wpAny_pure ?_)
    rw [StateT.run_pure]
    refine wpAny_bind (wpAny_pure ?_)
    exact fin _ (Array.Perm.refl _) rfl
  · rw [if_neg h2, if_neg h2]
    rw [List.size_toArray] at h2
    rw [ksk_kind hk (by rw [hsz]; omega)]
    refine wpAny_bind (wpAny_pure ?_)
    refine wpAny_bind (wpAny_mono (wpS_sortRuns (a₀ := keys.zip vs.toArray) (st := SortSt.mk' oneType' (keys.zip vs.toArray) #[] 7 none)
      (Q := fun _ st' => (arrOf st').Perm (keys.zip vs.toArray) ∧ failedOf st' = none) (ksk_intKeys hk) ⟨Array.Perm.refl _, rfl, rfl, rfl⟩ (by rw [hzs]; omega) (by rw [hzs]; exact h64) fun st' a1 a2 a3 => ⟨a1, a2⟩) ?_ fun _ _ e => e)
    rintro ⟨⟨⟩, st'⟩ s' ⟨rfl, hp, hf⟩
    exact fin st' hp hf
theorem keyed_rest {f : Value} (nk : s.heap.get? kS = some (seqObj "list" #[] 0)) (na : s.heap.get? a = some (seqObj "list" #[] e1)) (hka : kS ≠ a) (hlen : kz.length = vs.length) (h64 : vs.length < 64)
    (turn : ∀ (i : Nat) (v : Value) (n : Int) (s : Shared) (Q : Value → Shared → Prop) (E : Value → Shared → Prop), vs[i]? = some v → kz[i]? = some n → (∀ t tk, Q (.int n t) { s with toks := tk }) → wpAny X.M A (call f [v]) Q E s)
    (h : ∀ h' c tk out, (∀ b o, b ≠ a → b ≠ kS → s.heap.get? b = some o → h'.get? b = some o) → h'.get? a = some (seqObj "list" (List.toArray out) c) → out.Perm vs → P (.done (.ret .none)) { s with heap := h', toks := tk }) :
    wpAny X.M A (ksk_rest a f false vs.toArray e1 (.ref kS)) P E s := by
  unfold ksk_rest
  refine wpAny_bind (wpAny_rule ?_)
  rw [List.forIn_toArray]
  refine wpAny_bind (ksk_fold (fun i s' => ∃ h' tk kA e, s' = { s with heap := h', toks := tk } ∧ (∀ b o, b ≠ kS → s.heap.get? b = some o → h'.get? b = some o) ∧ h'.get? kS = some (seqObj "list" kA e) ∧ IntsAre kA.toList (kz.take i)) vs 0 s
    ⟨s.heap, s.toks, #[], 0, rfl, fun _ _ _ e => e, nk, by simpa using IntsAre.nil⟩ (fun j x s' hx hI => ?_) (fun s' hI => ?_))
  · obtain ⟨h', tk, kA, e, rfl, kp, nk', hk⟩ := hI
    simp only [Nat.zero_add] at hk ⊢
    have hj : j < vs.length := (List.getElem?_eq_some_iff.mp hx).1
    obtain ⟨n, hkj⟩ : ∃ n, kz[j]? = some n := ⟨_, List.getElem?_eq_getElem (by omega)⟩
    have hz : kA.size ≤ vs.length := by
      have h1 := hk.length
      rw [Array.length_toList, List.length_take] at h1
      omega
    refine wpAny_bind (wpAny_attempt (turn j x n _ _ _ hx hkj fun t2 tk2 => ?_))
    dsimp only
    have s1 := Heap.SameBut.update h' kS (Obj.mapSeq (·.push (.int n t2)))
    obtain ⟨c2, hc2⟩ : ∃ c2, (h'.update kS (Obj.mapSeq (·.push (.int n t2)))).get? kS = some (seqObj "list" (kA.push (.int n t2)) c2) := ⟨_, get?_update_seq nk' (·.push (.int n t2))⟩
    have ek : kz.take (j + 1) = kz.take j ++ [n] := by rw [List.take_add_one, hkj]; simp
    have ea : (kA.push (Value.int n t2)).toList = kA.toList ++ [Value.int n t2] := by simp
    refine wpAny_bind (listUpdate_at nk' rfl ?_ (small _ (by omega)) (Nat.le_trans (Nat.le_of_eq (Array.size_push ..)) (Nat.succ_le_succ (small _ (by omega)))))
    exact wpAny_pure ⟨rfl, _, _, kA.push (.int n t2), c2, rfl, fun b o hb e => s1.extBut b o hb (kp b o hb e), hc2, by rw [ea, ek]; exact ksk_snoc hk⟩
  · obtain ⟨h', tk, kA, e, rfl, kp, nk', hk⟩ := hI
    have hk' : IntsAre kA.toList kz := by
      have e3 : kz.take (0 + vs.length) = kz := List.take_of_length_le (by omega)
      rw [e3] at hk
      exact hk
    refine wpAny_bind (listItems_at nk' rfl ?_)
    exact keyed_end nk' (kp _ _ hka.symm na) hka hk' hlen h64 fun h3 c out k1 k2 k3 => h h3 c tk out (fun b o h1 h2 e => k1 b o h1 h2 (kp b o h2 e)) k2 k3
theorem keyed_sort {f : Value} {n : Nat} (ho : s.heap.get? a = some (seqObj "list" vs.toArray n)) (hlen : kz.length = vs.length) (h64 : vs.length < 64)
    (turn : ∀ (i : Nat) (v : Value) (n : Int) (s : Shared) (Q : Value → Shared → Prop) (E : Value → Shared → Prop), vs[i]? = some v → kz[i]? = some n → (∀ t tk, Q (.int n t) { s with toks := tk }) → wpAny X.M A (call f [v]) Q E s)
    (h : ∀ h' c tk out, (∀ b o, b ≠ a → s.heap.get? b = some o → h'.get? b = some o) → h'.get? a = some (seqObj "list" (List.toArray out) c) → out.Perm vs → P (.done (.ret .none)) { s with heap := h', toks := tk }) :
    wpAny X.M A (ksk_tree a f false) P E s := by
  have ha : a < s.heap.objs.size := Heap.lt_size ho
  have s1 := Heap.SameBut.update s.heap a (Obj.mapSeq fun _ => (#[] : Array Value))
  obtain ⟨e1, ho1⟩ : ∃ e1, (s.heap.update a (Obj.mapSeq fun _ => (#[] : Array Value))).get? a = some (seqObj "list" #[] e1) := ⟨_, get?_update_seq ho fun _ => #[]⟩
  have hkS : ((s.heap.update a (Obj.mapSeq fun _ => (#[] : Array Value))).push (seqObj "tuple" vs.toArray 0)).objs.size = s.heap.objs.size + 1 := by rw [Heap.size_push, Heap.size_update]
  unfold ksk_tree
  refine wpAny_bind (listItems_at ho rfl ?_)
  refine wpAny_bind (listUpdate_at ho rfl ?_ (by rw [List.size_toArray]; exact small _ (by omega)) (Nat.zero_le _))
  refine wpAny_bind (seqEpoch_at ho1 rfl ?_)
  refine wpAny_bind (wpAny_newTuple ?_ (by show vs.length ≤ _; exact small _ (by omega)))
  refine wpAny_bind (wpAny_newList ?_ (Nat.zero_le _))
  refine wpAny_holding ?_
  have old : ∀ b o, b ≠ a → s.heap.get? b = some o → (((s.heap.update a (Obj.mapSeq fun _ => (#[] : Array Value))).push (seqObj "tuple" vs.toArray 0)).push (seqObj "list" #[] 0)).get? b = some o := fun b o hb e =>
    Heap.get?_push_of_some _ (Heap.get?_push_of_some _ (s1.extBut b o hb e))
  refine keyed_rest (s := { s with heap := ((s.heap.update a (Obj.mapSeq fun _ => (#[] : Array Value))).push (seqObj "tuple" vs.toArray 0)).push (seqObj "list" #[] 0) }) (kS := ((s.heap.update a (Obj.mapSeq fun _ => (#[] : Array Value))).push (seqObj "tuple" vs.toArray 0)).objs.size)
    (Heap.get?_push_size _ rfl) (Heap.get?_push_of_some _ (Heap.get?_push_of_some _ ho1)) (by rw [hkS]; exact Nat.ne_of_gt (Nat.lt_succ_of_lt ha)) hlen h64 turn fun h' c tk out k1 k2 k3 => h h' c tk out (fun b o hb e => k1 b o hb ?_ (old b o hb e)) k2 k3
  rw [hkS]
  exact Nat.ne_of_lt (Nat.lt_succ_of_lt (Heap.lt_size e))
end

/-- sorted(e, key=len) of texts: some order of the same texts -/
theorem Ev.sortedLen {f g1 : Str} {p pk kp pos : Pos} {e : Expr} {rows : List (List Int)} (hf : EvP X k sc σ (.Name f p) fun _ u => u = .builtin "sorted") (he : Ev X k sc σ e (.list (rows.map dText))) (hg : EvP X k sc σ (.Name g1 pk) fun _ u => u = .builtin "len")
    (h64 : rows.length < 64) (hl : ∀ r ∈ rows, r.length < 2 ^ 60) (hp : plainE e = true := by rfl) :
    EvP X k sc σ (.Call (.Name f p) [e] [⟨some "key", .Name g1 pk, kp⟩] pos) fun g v => ∃ rows' : List (List Int), rows'.Perm rows ∧ Rep g v (.list (rows'.map dText)) := by
  intro A env g s E rm o bs q
  refine wpAny_Call_Name_kw (wp_ev (hf A env g s E rm o bs q) fun u g1 s1 k1 x1 p1 => ?_)
  subst p1
  refine PyProof.Rows.callWith_kw ?_ (by rw [starEach_plain hp]; rfl) (plain_any _ _ (es := [e]) (by rw [List.all_cons, hp]; rfl))
  refine wp_evs ((EvL.cons he .nil hp).2 A env g1 s1 E pos rm o (bs.trans x1.gg) (q.step x1)) fun us g2 s2 k2 x2 p2 => ?_
  refine PyProof.Rows.kws_cons (wp_ev (hg A env g2 s2 E rm o ((bs.trans x1.gg).trans x2.gg) ((q.step x1).step x2)) fun w g3 s3 k3 x3 p3 => PyProof.Rows.kws_nil ?_)
  subst p3
  show wpAny _ _ (call (.builtin "sorted") us [("key", .builtin "len")]) _ _ _
  cases p2 with
  | cons r rn =>
    cases rn
    cases r with
    | list il rr0 =>
      rename_i l vs
      have rr := rr0.sub x3.gg
      have kk := x3.gh
      have hl' := isList_sub (x2.gh.trans x3.hh) il
      have hlen : vs.length = rows.length := by rw [rr.length, List.length_map]
      refine wp_fin (kp_trans k1 (kp_trans k2 k3)) (x1.trans (x2.trans x3)) ?_
      refine call_function_entry_kw kind_sorted plain_sorted entry_sorted (ksk_s1 _ _) ?_
      unfold Builtin.«sorted»
      refine wpAny_bind (m := checkCount "sorted" 1 1 _) (wpAny_pure ?_)
      refine wpAny_bind (collect_list hl' ?_ (small _ (by omega)))
      refine wpAny_bind (wpAny_newList ?_ (small _ (by omega)))
      have hsz : ((s3.heap.push (seqObj "list" #[] 0)).update s3.heap.objs.size (Obj.mapSeq (· ++ vs.toArray))).objs.size = s3.heap.objs.size + 1 := by
        rw [Heap.size_update, Heap.size_push]
      have keep0 : ∀ b o, s3.heap.get? b = some o → ((s3.heap.push (seqObj "list" #[] 0)).update s3.heap.objs.size (Obj.mapSeq (· ++ vs.toArray))).get? b = some o := fun b o q => by
        have hlt : b < s3.heap.objs.size := Heap.lt_size q
        rw [Heap.get?_update_ne _ _ _ _ (Nat.ne_of_lt hlt), Heap.get?_push_ne _ _ _ (Nat.ne_of_lt hlt)]
        exact q
      show wpAny _ _ _ _ _ { s3 with heap := ((s3.heap.push (seqObj "list" #[] 0)).update s3.heap.objs.size (Obj.mapSeq (· ++ vs.toArray))).push (seqObj "list" vs.toArray 0) }
      rw [hsz]
      generalize (s3.heap.push (seqObj "list" #[] 0)).update s3.heap.objs.size (Obj.mapSeq (· ++ vs.toArray)) = HH at hsz keep0 ⊢
      have hoL : (HH.push (seqObj "list" vs.toArray 0)).get? (s3.heap.objs.size + 1) = some (seqObj "list" vs.toArray 0) := by
        rw [← hsz]; exact Heap.get?_push_size _ rfl
      have keep : Sub s3.heap (HH.push (seqObj "list" vs.toArray 0)) := fun b o q => Heap.get?_push_of_some _ (keep0 b o q)
      refine wpAny_bind (wpAny_holding (wpAny_call_entry_kw slot_list_sort ⟨_, hoL, rfl⟩ entry_list_sort ?_ (ksk_l1 _ _)))
      have ht := ksk_t4 "len" (s3.heap.objs.size + 1)
      show wpAny _ _ (Builtin.«list.sort» ⟨[.ref (s3.heap.objs.size + 1)], [(Str.ofString "key", .builtin "len")]⟩) _ _ _
      rw [ht]
      refine keyed_sort (kz := rows.map fun r => ((r.length : Nat) : Int)) hoL (by rw [List.length_map, hlen]) (by omega) (fun i v n s' Q' E' hv hn hQ => ?_) fun h' c tk out k4 k5 hperm => ⟨_, rfl, wpAny_pure ⟨_, rfl, ?_⟩⟩
      · obtain ⟨d, e1, e2⟩ := rr.get' hv
        rw [List.getElem?_map] at e1 hn
        cases e3 : rows[i]? with
        | none => rw [e3] at e1; cases e1
        | some r =>
          rw [e3] at e1 hn
          cases e1; cases hn
          cases e2
          have := hl r (List.mem_of_getElem? e3)
          refine P.len_str (by rw [strOf_length]; omega) ?_
          rw [strOf_length]
          exact hQ _ _
      · have sub : Sub s3.heap h' := fun b o e => k4 b o (Nat.ne_of_lt (Nat.lt_succ_of_lt (Heap.lt_size e))) (keep b o e)
        have none1 : s3.heap.get? (s3.heap.objs.size + 1) = none := by
          cases z : s3.heap.get? (s3.heap.objs.size + 1) with
          | none => rfl
          | some o' => exact absurd (Heap.lt_size z) (Nat.not_lt.mpr (Nat.le_succ _))
        obtain ⟨rows', h1, h2⟩ : ∃ rows' : List (List Int), rows'.Perm rows ∧ RepAll g3 out (rows'.map dText) := by
          clear k5
          have gen : ∀ {out vs : List Value}, out.Perm vs → ∀ {ds : List Dat}, RepAll g3 vs ds → ∃ ds', ds'.Perm ds ∧ RepAll g3 out ds' := by
            intro out vs hp
            induction hp with
            | nil => intro ds r; cases r; exact ⟨[], .refl _, .nil⟩
            | cons x _ ih =>
              intro ds r
              cases r with
              | cons r1 r2 =>
                obtain ⟨ds', h1, h2⟩ := ih r2
                exact ⟨_ :: ds', h1.cons _, .cons r1 h2⟩
            | swap x y l =>
              intro ds r
              cases r with
              | cons r1 r2 =>
                cases r2 with
                | cons r2 r3 => exact ⟨_ :: _ :: _, .swap _ _ _, .cons r2 (.cons r1 r3)⟩
            | trans _ _ ih1 ih2 =>
              intro ds r
              obtain ⟨d1, h1, h2⟩ := ih2 r
              obtain ⟨d2, h3, h4⟩ := ih1 h2
              exact ⟨d2, h3.trans h1, h4⟩
          obtain ⟨ds', h1, h2⟩ := gen hperm rr
          obtain ⟨rows', h3, h4⟩ : ∃ rows' : List (List Int), rows'.Perm rows ∧ rows'.map dText = ds' := by
            have gen2 : ∀ {ds' ds : List Dat}, ds'.Perm ds → ∀ {rows : List (List Int)}, ds = rows.map dText → ∃ rows' : List (List Int), rows'.Perm rows ∧ rows'.map dText = ds' := by
              intro ds' ds hp
              induction hp with
              | nil => intro rows e; exact ⟨rows, .refl _, e.symm⟩
              | cons x _ ih =>
                intro rows e
                cases rows with
                | nil => cases e
                | cons r rows =>
                  rw [List.map_cons] at e
                  cases e
                  obtain ⟨r', h1, h2⟩ := ih (rows := rows) rfl
                  exact ⟨r :: r', h1.cons _, by rw [List.map_cons, h2]⟩
              | swap x y l =>
                intro rows e
                match rows, e with
                | a :: b :: rows, e =>
                  rw [List.map_cons, List.map_cons] at e
                  cases e
                  exact ⟨b :: a :: rows, .swap _ _ _, rfl⟩
              | trans _ _ ih1 ih2 =>
                intro rows e
                obtain ⟨r1, h1, h2⟩ := ih2 e
                obtain ⟨r2, h3, h4⟩ := ih1 h2.symm
                exact ⟨r2, h3.trans h1, h4⟩
            exact gen2 h1 rfl
          exact ⟨rows', h3, by rw [h4]; exact h2⟩
        exact ⟨kp_mk (t := tk) sub, freeze g3 s3.heap h', Step.of_sub kk sub, rows', h1, .list ⟨c, freeze_new k5 none1⟩ (h2.sub (freeze_old kk sub))⟩
end
end Mine

namespace Mine
open PySem PySem.W PyProof.Rows PySem.Calls
set_option Elab.async false
set_option maxRecDepth 100000
set_option linter.unusedVariables false

abbrev body : List Stmt := PySem.Challenge.rw_kq0014_04.prog.main.body
abbrev cpS : Stmt := stAt body 11
abbrev fsS : Stmt := stAt body 9

section
variable {X : Cx} {k : Nat}

theorem cp_tail (N : Free X) {mr : List (Str × Const)} {τ : Sto} {mk : List Int → Dat} {it : Int → Dat} {ok : List Int → Prop} (K : SeqK X mk it ok) {rows : List (List Int)} {d : Dat} (hm : τ.lookup ("m" : Str) = some (.dat d)) (hc : Cont mk rows d) (hn : rows ≠ []) (ho : ∀ r ∈ rows, ok r) (hl : ∀ r ∈ rows, r.length < 2 ^ 61) :
    Ex X (k + 2) (fnS cpS mr) τ (execs (List.drop 2 (fnB cpS))) (FnOut (· = mk (lcp2 (minRow rows) (maxRow rows)))) := by
  have m1 : minRow rows ∈ rows := argBest_mem _ hn
  have m2 : maxRow rows ∈ rows := argBest_mem _ hn
  have hle : ¬ maxRow rows < minRow rows := maxRow_spec m1
  refine Ex.cons (Ex.assign (EvP.callB (EvP.builtin rfl N.min rfl (by decide)) (.cons (.local hm) .nil) (op_min K hc hn ho)) ?_)
  refine Ex.cons (Ex.assign (EvP.callB (EvP.builtin rfl N.max rfl (by decide)) (.cons (.local (upd_other (by decide) hm)) .nil) (op_max K hc hn ho)) ?_)
  generalize minRow rows = a at *
  generalize maxRow rows = b at *
  refine Ex.cons (Ex.forEnum (EvP.builtin rfl N.enumerate rfl (by decide)) (.local (upd_other (by decide) (upd_same rfl))) (fun g s v kk r => K.enum _ g s v a (ho a m1) kk r)
    (fun i τ' => τ'.lookup ("s1" : Str) = some (.dat (mk a)) ∧ τ'.lookup ("s2" : Str) = some (.dat (mk b)) ∧ a.take i = b.take i)
    ⟨upd_other (by decide) (upd_same rfl), upd_same rfl, by simp⟩ (fun i τ' d hd ⟨h1, h2, h3⟩ => ?_) (fun τ' ⟨h1, h2, h3⟩ => ?_))
  · obtain ⟨x, hx, rfl⟩ : ∃ x, a[i]? = some x ∧ d = it x := by
      rw [List.getElem?_map] at hd
      cases e : a[i]? with
      | none => rw [e] at hd; cases hd
      | some x => rw [e] at hd; exact ⟨x, rfl, by cases hd; rfl⟩
    obtain ⟨hi, hx'⟩ := List.getElem?_eq_some_iff.mp hx
    have hib : i < b.length := in_bounds h3 hi hle
    have hib' : b[i]? = some b[i] := by simp [hib]
    have hlb := hl b m2
    have l1 := upd_other (x := ("c" : Str)) (lv := .dat (it x)) (by decide) (upd_other (x := ("i" : Str)) (lv := .dat (.int i)) (by decide) h1)
    have l2 := upd_other (x := ("c" : Str)) (lv := .dat (it x)) (by decide) (upd_other (x := ("i" : Str)) (lv := .dat (.int i)) (by decide) h2)
    have li := upd_other (x := ("c" : Str)) (lv := .dat (it x)) (by decide) (upd_same (x := ("i" : Str)) (y := ("i" : Str)) (lv := .dat (.int i)) (τ := τ') rfl)
    refine Ex.last (Ex.if (EvT.cmp (.local (upd_same rfl)) (K.item (ho b m2) (.local l2) (.local li) hib' (by omega)) (K.ne _ a b _ _ (ho a m1) (ho b m2) (List.mem_of_getElem? hx) (List.mem_of_getElem? hib'))) (fun hc => ?_) fun hc => ?_)
    · refine Ex.last (Ex.return (K.slice (ho a m1) (.local l1) (.local li)) ?_)
      have hne : x ≠ b[i] := by simpa using hc
      show _ = mk (lcp2 a b)
      rw [lcp2_stop h3 hi hib (by rw [hx']; exact hne)]
    · refine Ex.nil ⟨l1, l2, ?_⟩
      have he : x = b[i] := by simpa using hc
      rw [List.take_add_one, List.take_add_one, h3, hx, hib', he]
  · refine Ex.last (Ex.return (.local h1) ?_)
    have hp : a <+: b := by
      rw [List.length_map] at h3
      rw [List.take_of_length_le (Nat.le_refl _)] at h3
      rw [h3]; exact List.take_prefix _ _
    show _ = mk (lcp2 a b)
    rw [lcp2_whole hp]

theorem fspath_text (N : Free X) {mr : List (Str × Const)} (D : IsDef X "fspath" (fnP fsS) (fnB fsS) (fnS fsS mr)) {x : Str} : FnD X (k + 1) "fspath" [.str x] (.str x) := by
  refine FnD.intro D ["path"] rfl (fun pm code doc vs hv => ?_) (by decide) (by rfl) ?_
  · match vs, hv with
    | [v], _ => rfl
  refine Ex.cons (Ex.assignV (u := .type "str") (EvP.callT (EvP.builtin rfl N.type rfl (by decide)) (.cons (.local rfl) .nil) (op_type (T := "str") (fun g v s r _ => by cases r; exact typeIs_str _ _ _))) ?_)
  refine Ex.cons (Ex.if (EvT.val (Ev.issub (D := "str") (b1 := true) (b2 := false) (EvP.builtin rfl N.issubclass rfl (by decide)) (EvP.localV rfl) (EvP.builtin rfl N.str rfl (by decide)) (EvP.builtin rfl N.bytes rfl (by decide)) F.isi_meta_str ⟨⟨_, rfl, F.isi_meta_str, F.sub_str_str⟩, ⟨_, rfl, F.isi_meta_bytes, F.sub_str_bytes⟩, trivial⟩) trivial) (fun _ => ?_) fun hc => ?_)
  · exact Ex.last (Ex.return (.local rfl) rfl)
  · cases hc

theorem cp_texts (N : Free X) {mr mf : List (Str × Const)} (D : IsDef X "commonprefix" (fnP cpS) (fnB cpS) (fnS cpS mr)) (Df : IsDef X "fspath" (fnP fsS) (fnB fsS) (fnS fsS mf)) {rows : List (List Int)} (hn : rows ≠ []) (ho : ∀ r ∈ rows, okT r) (hz : rows.length ≤ sizeLine) :
    FnD X (k + 6) "commonprefix" [.list (rows.map dText)] (dText (lcp2 (minRow rows) (maxRow rows))) := by
  refine FnD.intro D ["m"] rfl (fun pm code doc vs hv => ?_) (by decide) (by rfl) ?_
  · match vs, hv with
    | [v], _ => rfl
  obtain ⟨r, rs, rfl⟩ := List.exists_cons_of_ne_nil hn
  have hzz : (rs.length + 1 : Nat) ≤ sizeLine := hz
  have hbig : sizeLine < 2 ^ 62 := by decide
  refine Ex.cons (Ex.if (EvT.not (EvT.val (.local rfl) (by show ((List.map dText (r :: rs)).length : Int) < 2 ^ 63; rw [List.length_map, List.length_cons]; omega))) (fun hc => ?_) fun hc => ?_)
  · cases hc
  refine Ex.nil ?_
  refine Ex.cons (Ex.if (EvT.not (EvT.val (Ev.isin (Tx := "str") (d := dText r) (b1 := false) (b2 := false) (EvP.builtin rfl N.isinstance rfl (by decide)) (Ev.item (.local rfl) .int (by decide) (by decide) rfl) (EvP.builtin rfl N.list rfl (by decide)) (EvP.builtin rfl N.tuple rfl (by decide)) ?_ (fun g x hr => ?_)) trivial)) (fun hc => ?_) fun hc => ?_)
  · intro g v s hr kk
    cases hr
    exact typeIs_str _ _ _
  · cases hr
    exact .cons (Answers.of_false_str (by decide +kernel) F.isi_meta_list F.sub_str_list) (.cons (Answers.of_false_str (by decide +kernel) F.isi_meta_tuple F.sub_str_tuple) .nil)
  · refine Ex.last (Ex.assign (d := .tuple ((r :: rs).map dText)) (Ev.tupleMap (k := k + 1) (EvP.builtin rfl N.tuple rfl (by decide)) (EvP.builtin rfl N.map rfl (by decide)) (.local rfl) rfl (fun d hd => ?_) (by simp) (fun d hd => ?_) (by rw [List.length_map]; exact hz)) ?_)
    · obtain ⟨x, _, rfl⟩ := List.mem_map.mp hd; trivial
    · obtain ⟨x, _, rfl⟩ := List.mem_map.mp hd; exact fspath_text N Df
    · exact cp_tail (k := k + 3) N (seqK_text X) rfl (.inr rfl) hn ho fun x hx => Nat.lt_of_le_of_lt (ho x hx).2 (by decide)
  · cases hc
end
end Mine

namespace Mine
open PySem PySem.W PyProof.Rows PySem.Calls
set_option Elab.async false
set_option maxRecDepth 100000
set_option linter.unusedVariables false

/-- the common head of so many rows from a place on -/
def toldOf (rows : List (List Int)) (c k : Nat) : List Int := lcp2 (minRow ((rows.drop k).take c)) (maxRow ((rows.drop k).take c))
theorem win_ne {rows : List (List Int)} {c k : Nat} (hc : 1 ≤ c) (h : k + c ≤ rows.length) : (rows.drop k).take c ≠ [] := by
  intro q
  have := congrArg List.length q
  rw [List.length_take, List.length_drop, List.length_nil] at this
  omega
theorem told_perm {rows : List (List Int)} {c k : Nat} (hc : 1 ≤ c) (h : k + c ≤ rows.length) {rows' : List (List Int)} (hp : rows'.Perm ((rows.drop k).take c)) : lcp2 (minRow rows') (maxRow rows') = toldOf rows c k := by
  have hne := win_ne hc h
  have hne' : rows' ≠ [] := fun q => hne (by rw [q] at hp; exact hp.nil_eq.symm)
  have h1 := isCp_minMax hne'
  have h2 := isCp_minMax hne
  exact h1.uniq ⟨fun r hr => h2.1 r (hp.mem_iff.mp hr), fun p q => h2.2 p fun r hr => q r (hp.mem_iff.mpr hr)⟩
def has (p r : List Int) : Bool := p.isPrefixOf r
theorem has_iff {p r : List Int} : has p r = true ↔ p <+: r := List.isPrefixOf_iff_prefix
theorem countP_all {α : Type} {f : α → Bool} : ∀ {l : List α}, (∀ x ∈ l, f x = true) → l.countP f = l.length
  | [], _ => rfl
  | x :: l, h => by
    rw [List.countP_cons, h x (by simp), countP_all fun y hy => h y (List.mem_cons_of_mem _ hy)]; rfl
theorem countP_none {α : Type} {f : α → Bool} : ∀ {l : List α}, (∀ x ∈ l, f x = false) → l.countP f = 0
  | [], _ => rfl
  | x :: l, h => by
    rw [List.countP_cons, h x (by simp), countP_none fun y hy => h y (List.mem_cons_of_mem _ hy)]; rfl
/-- so many rows in order have a head just if some rows side by side have it -/
theorem side_by_side {rows : List (List Int)} (ho : InOrder rows) {c : Nat} (hc : 1 ≤ c) (p : List Int) : (∃ k, k + c ≤ rows.length ∧ p <+: toldOf rows c k) ↔ c ≤ rows.countP (has p) := by
  constructor
  · rintro ⟨k, h1, h2⟩
    have h3 := isCp_minMax (win_ne hc h1)
    have e : ((rows.drop k).take c).countP (has p) = c := by
      rw [countP_all fun r hr => has_iff.mpr (h2.trans (h3.1 r hr)), List.length_take, List.length_drop]; omega
    rw [← e]
    exact ((List.take_sublist _ _).trans (List.drop_sublist _ _)).countP_le
  · intro h
    have hex : ∃ i, i < rows.length ∧ has p (rows.getD i []) = true := by
      have h0 : 0 < rows.countP (has p) := by omega
      obtain ⟨r, hr, hp⟩ := List.countP_pos_iff.mp h0
      obtain ⟨i, hi, rfl⟩ := List.getElem_of_mem hr
      exact ⟨i, hi, by simpa [hi] using hp⟩
    let i0 := rows.findIdx (has p)
    have hi0 : i0 < rows.length := List.findIdx_lt_length_of_exists (by
      obtain ⟨i, h1, h2⟩ := hex
      refine ⟨rows[i], List.getElem_mem h1, by simpa [h1] using h2⟩)
    have hp0 : has p rows[i0] = true := List.findIdx_getElem
    have hbefore : ∀ j (hj : j < i0), has p (rows[j]'(by omega)) = false := fun j hj => by
      simpa using List.not_of_lt_findIdx hj
    have key : i0 + c ≤ rows.length ∧ has p (rows.getD (i0 + c - 1) []) = true := by
      refine Classical.byContradiction fun hno => ?_
      have hafter : ∀ j (hj : j < rows.length), i0 + c - 1 ≤ j → has p rows[j] = false := by
        intro j hj hle
        cases hb : has p rows[j] with
        | false => rfl
        | true =>
          refine absurd ⟨by omega, ?_⟩ hno
          have hm : i0 + c - 1 < rows.length := by omega
          have hd : rows.getD (i0 + c - 1) [] = rows[i0 + c - 1] := by simp [hm]
          rw [hd]
          rcases Nat.eq_or_lt_of_le hle with q | q
          · have : rows[i0 + c - 1] = rows[j] := by congr 1
            rw [this]; exact hb
          · rcases Nat.eq_or_lt_of_le (show i0 ≤ i0 + c - 1 by omega) with q2 | q2
            · have : rows[i0 + c - 1] = rows[i0] := by congr 1; exact q2.symm
              rw [this]; exact hp0
            · refine has_iff.mpr (pre_between (has_iff.mp hp0) (has_iff.mp hb) ?_ ?_)
              · exact List.pairwise_iff_getElem.mp ho i0 (i0 + c - 1) _ _ q2
              · exact List.pairwise_iff_getElem.mp ho (i0 + c - 1) j _ _ q
      have e1 : rows = rows.take i0 ++ ((rows.drop i0).take (c - 1) ++ (rows.drop i0).drop (c - 1)) := by rw [List.take_append_drop, List.take_append_drop]
      rw [e1, List.countP_append, List.countP_append] at h
      have c1 : (rows.take i0).countP (has p) = 0 := countP_none fun r hr => by
        obtain ⟨j, hj, rfl⟩ := List.getElem_of_mem hr
        rw [List.length_take] at hj
        rw [List.getElem_take]
        exact hbefore j (by omega)
      have c3 : ((rows.drop i0).drop (c - 1)).countP (has p) = 0 := countP_none fun r hr => by
        obtain ⟨j, hj, rfl⟩ := List.getElem_of_mem hr
        rw [List.length_drop, List.length_drop] at hj
        rw [List.getElem_drop, List.getElem_drop]
        exact hafter _ (by omega) (by omega)
      have c2 := List.countP_le_length (p := has p) (l := (rows.drop i0).take (c - 1))
      rw [List.length_take] at c2
      omega
    refine ⟨i0, key.1, (isCp_minMax (win_ne hc key.1)).2 p fun r hr => ?_⟩
    obtain ⟨j, hj, rfl⟩ := List.getElem_of_mem hr
    rw [List.length_take, List.length_drop] at hj
    rw [List.getElem_take, List.getElem_drop]
    have hm : i0 + c - 1 < rows.length := by omega
    have hd : rows.getD (i0 + c - 1) [] = rows[i0 + c - 1] := by simp [hm]
    have hlast := key.2
    rw [hd] at hlast
    rcases Nat.eq_or_lt_of_le (show i0 ≤ i0 + j by omega) with q | q
    · have : rows[i0 + j] = rows[i0] := by congr 1; omega
      rw [this]; exact has_iff.mp hp0
    · rcases Nat.eq_or_lt_of_le (show i0 + j ≤ i0 + c - 1 by omega) with q2 | q2
      · have : rows[i0 + j] = rows[i0 + c - 1] := by congr 1
        rw [this]; exact has_iff.mp hlast
      · refine pre_between (has_iff.mp hp0) (has_iff.mp hlast) ?_ ?_
        · exact List.pairwise_iff_getElem.mp ho i0 (i0 + j) _ _ q
        · exact List.pairwise_iff_getElem.mp ho (i0 + j) (i0 + c - 1) _ _ q2

/-- the ends of a text -/
def endsOf (w : List Int) : List (List Int) := (List.range w.length).map w.drop
theorem ends_count {w p : List Int} : (endsOf w).countP (has p) = (List.range w.length).countP fun a => has p (w.drop a) := by
  unfold endsOf; rw [List.countP_map]; rfl

/-- how often a piece was met, the pieces gone over from place to place, the shorter first -/
def cnt (w p : List Int) (i j : Nat) : Nat := (List.range i).countP (fun a => has p (w.drop a)) + if i + p.length < j ∧ has p (w.drop i) = true then 1 else 0
def cntD : Nat → Option Dat
  | 0 => none
  | n + 1 => some (.int ((n + 1 : Nat) : Int))
structure Counts (w : List Int) (al : Tab) (i j : Nat) : Prop where
  get : ∀ p, Pos0 p → p ≠ [] → tget al (strOf p) = cntD (cnt w p i j)
  key : ∀ k, (tget al k).isSome = true → ∃ p, Pos0 p ∧ p ≠ [] ∧ k = strOf p
theorem counts_nil (w : List Int) : Counts w [] 0 0 := ⟨fun p h0 hp => by simp [tget, cnt, cntD], fun k h => by simp [tget] at h⟩
theorem counts_row {w : List Int} {al : Tab} {i : Nat} (h : Counts w al i 0) : Counts w al i (i + 1) :=
  ⟨fun p h0 hp => by
    rw [h.get p h0 hp]
    have h1 : 0 < p.length := List.length_pos_iff.mpr hp
    unfold cnt
    rw [if_neg (by omega), if_neg (by omega)], h.key⟩
theorem counts_end {w : List Int} {al : Tab} {i : Nat} (hi : i < w.length) (h : Counts w al i (w.length + 1)) : Counts w al (i + 1) 0 :=
  ⟨fun p h0 hp => by
    rw [h.get p h0 hp]
    congr 1
    unfold cnt
    have e2 : (List.range (i + 1)).countP (fun a => has p (w.drop a)) = (List.range i).countP (fun a => has p (w.drop a)) + (if has p (w.drop i) = true then 1 else 0) := by
      rw [List.range_succ, List.countP_append, List.countP_cons, List.countP_nil, Nat.zero_add]
    rw [e2]
    by_cases hh : has p (w.drop i) = true
    · have := (has_iff.mp hh).length_le
      rw [List.length_drop] at this
      rw [if_pos ⟨by omega, hh⟩, if_pos hh, if_neg (by omega)]
    · rw [if_neg (fun q => hh q.2), if_neg hh, if_neg (by omega)], h.key⟩
theorem take_pos {w : List Int} (h : Pos0 w) (a b : Nat) : Pos0 ((w.drop a).take b) := fun n hn => h n (List.mem_of_mem_drop (List.mem_of_mem_take hn))
theorem counts_step {w : List Int} (hw : Pos0 w) {al : Tab} {i j : Nat} (h : Counts w al i j) (hi : i < j) (hj : j ≤ w.length) :
    Counts w (tput al (strOf ((w.drop i).take (j - i))) (.int ((cnt w ((w.drop i).take (j - i)) i j + 1 : Nat) : Int))) i (j + 1) := by
  have hq := take_pos hw i (j - i)
  have hql : ((w.drop i).take (j - i)).length = j - i := by rw [List.length_take, List.length_drop]; omega
  have hqn : (w.drop i).take (j - i) ≠ [] := fun q => by rw [q] at hql; simp at hql; omega
  refine ⟨fun p h0 hp => ?_, fun k hk => ?_⟩
  · rw [tget_tput]
    by_cases e : p = (w.drop i).take (j - i)
    · rw [if_pos (by rw [e])]
      rw [← e] at hql ⊢
      have hh : has p (w.drop i) = true := has_iff.mpr (by rw [e]; exact List.take_prefix _ _)
      have e1 : cnt w p i (j + 1) = cnt w p i j + 1 := by
        unfold cnt
        rw [if_pos ⟨by omega, hh⟩, if_neg (by omega)]
      rw [e1]; rfl
    · rw [if_neg (fun q => e (strOf_inj h0 hq q)), h.get p h0 hp]
      congr 1
      unfold cnt
      congr 1
      by_cases hh : has p (w.drop i) = true
      · have hpt := List.prefix_iff_eq_take.mp (has_iff.mp hh)
        have hne : i + p.length ≠ j := fun q => e (by rw [hpt]; congr 1; omega)
        by_cases hlt : i + p.length < j
        · rw [if_pos ⟨hlt, hh⟩, if_pos ⟨by omega, hh⟩]
        · rw [if_neg (by omega), if_neg (by omega)]
      · rw [if_neg (fun q => hh q.2), if_neg (fun q => hh q.2)]
  · rw [tget_tput] at hk
    by_cases q : k = strOf ((w.drop i).take (j - i))
    · exact ⟨_, hq, hqn, q⟩
    · rw [if_neg q] at hk; exact h.key k hk
theorem counts_at {w : List Int} {al : Tab} {i j : Nat} (h : Counts w al i j) {p : List Int} (h0 : Pos0 p) (hp : p ≠ []) : (tget al (strOf p)).getD (.int 0) = .int (cnt w p i j : Nat) := by
  rw [h.get p h0 hp]
  cases cnt w p i j with
  | zero => rfl
  | succ n => rfl
def numAl (al : Tab) (k : Str) : Int := match tget al k with | some (.int n) => n | _ => 0
theorem counts_num {w : List Int} {al : Tab} (h : Counts w al w.length 0) {k : Str} (hk : (tget al k).isSome = true) : tget al k = some (.int (numAl al k)) ∧ ∃ p, Pos0 p ∧ p ≠ [] ∧ k = strOf p ∧ numAl al k = ((endsOf w).countP (has p) : Nat) := by
  obtain ⟨p, h0, hp, rfl⟩ := h.key k hk
  have hg := h.get p h0 hp
  have e : cnt w p w.length 0 = (endsOf w).countP (has p) := by
    unfold cnt
    rw [if_neg (by omega), Nat.add_zero, ends_count]
  rw [e] at hg
  unfold numAl
  cases hn : (endsOf w).countP (has p) with
  | zero => rw [hn] at hg; rw [hg] at hk; cases hk
  | succ n =>
    rw [hn] at hg
    rw [hg]
    exact ⟨rfl, p, h0, hp, rfl, by show ((n + 1 : Nat) : Int) = _; rw [hn]⟩
theorem mem_al {al : Tab} {k : Str} : (∃ e ∈ al, e.1 = k) ↔ (tget al k).isSome = true := by
  unfold tget
  rw [Option.isSome_map, List.find?_isSome]
  constructor
  · rintro ⟨e, he, h⟩; exact ⟨e, he, by simpa using h⟩
  · rintro ⟨e, he, h⟩; exact ⟨e, he, by simpa using h⟩
/-- the pieces that stand at so many places -/
def often (al : Tab) (c : Int) : List Str := (al.filter fun e => decide (c ≤ numAl al e.1)).map (·.1)
theorem mem_often {w : List Int} {al : Tab} (h : Counts w al w.length 0) {c : Nat} (hc : 1 ≤ c) {y : Str} : y ∈ often al c ↔ ∃ p, Pos0 p ∧ p ≠ [] ∧ y = strOf p ∧ c ≤ (endsOf w).countP (has p) := by
  unfold often
  rw [List.mem_map]
  constructor
  · rintro ⟨e, he, rfl⟩
    rw [List.mem_filter, decide_eq_true_eq] at he
    obtain ⟨_, p, a1, a2, a3, a4⟩ := counts_num h (mem_al.mp ⟨e, he.1, rfl⟩)
    exact ⟨p, a1, a2, a3, by have := he.2; omega⟩
  · rintro ⟨p, a1, a2, rfl, a4⟩
    have hs : (tget al (strOf p)).isSome = true := by
      rw [h.get p a1 a2]
      have e : cnt w p w.length 0 = (endsOf w).countP (has p) := by
        unfold cnt
        rw [if_neg (by omega), Nat.add_zero, ends_count]
      rw [e]
      cases hn : (endsOf w).countP (has p) with
      | zero => omega
      | succ n => rfl
    obtain ⟨e, he, hk⟩ := mem_al.mpr hs
    refine ⟨e, List.mem_filter.mpr ⟨he, ?_⟩, hk⟩
    rw [hk, decide_eq_true_eq]
    obtain ⟨_, p', b1, b2, b3, b4⟩ := counts_num h hs
    have := strOf_inj a1 b1 b3
    subst this
    omega
/-- the heads of what was told, up to a run -/
def Heads (rows : List (List Int)) (c k m : Nat) (ks : List Str) : Prop := ks.Nodup ∧ ∀ y, y ∈ ks ↔ ∃ k' p, p ≠ [] ∧ p <+: toldOf rows c k' ∧ y = strOf p ∧ (k' < k ∨ (k' = k ∧ p.length ≤ m))
theorem heads_nil (rows : List (List Int)) (c : Nat) : Heads rows c 0 0 [] := ⟨by simp, fun y => by
  constructor
  · intro h; cases h
  · rintro ⟨k', p, h1, h2, h3, h4⟩
    have := List.length_pos_iff.mpr h1
    omega⟩
theorem heads_row {rows : List (List Int)} {c k : Nat} {ks : List Str} (h : Heads rows c k (toldOf rows c k).length ks) : Heads rows c (k + 1) 0 ks := ⟨h.1, fun y => by
  rw [h.2 y]
  constructor
  · rintro ⟨k', p, h1, h2, h3, h4⟩; exact ⟨k', p, h1, h2, h3, .inl (by omega)⟩
  · rintro ⟨k', p, h1, h2, h3, h4⟩
    have h5 := List.length_pos_iff.mpr h1
    refine ⟨k', p, h1, h2, h3, ?_⟩
    rcases Nat.lt_or_ge k' k with q | q
    · exact .inl q
    · have : k' = k := by omega
      subst this
      exact .inr ⟨rfl, h2.length_le⟩⟩
theorem heads_step {rows : List (List Int)} {c k m : Nat} {ks : List Str} (h : Heads rows c k m ks) (hm : m < (toldOf rows c k).length) : Heads rows c k (m + 1) (addK ks (strOf ((toldOf rows c k).take (m + 1)))) := ⟨addK_nodup h.1, fun y => by
  rw [mem_addK, h.2 y]
  have hl : ((toldOf rows c k).take (m + 1)).length = m + 1 := by rw [List.length_take]; omega
  constructor
  · rintro (⟨k', p, h1, h2, h3, h4⟩ | rfl)
    · exact ⟨k', p, h1, h2, h3, by omega⟩
    · exact ⟨k, _, fun q => by rw [q] at hl; simp at hl, List.take_prefix _ _, rfl, .inr ⟨rfl, by omega⟩⟩
  · rintro ⟨k', p, h1, h2, h3, h4⟩
    by_cases q : k' = k ∧ p.length = m + 1
    · right
      obtain ⟨rfl, q⟩ := q
      rw [h3, List.prefix_iff_eq_take.mp h2, q]
    · exact .inl ⟨k', p, h1, h2, h3, by omega⟩⟩
theorem told_sub {w : List Int} {rows : List (List Int)} (hp : rows.Perm (endsOf w)) (hw : Pos0 w) {c k : Nat} (hc : 1 ≤ c) (h : k + c ≤ rows.length) : Pos0 (toldOf rows c k) ∧ (toldOf rows c k).length ≤ w.length := by
  have hne := win_ne hc h
  have h1 := isCp_minMax hne
  obtain ⟨r, rs, e⟩ := List.exists_cons_of_ne_nil hne
  have hr : r ∈ (rows.drop k).take c := by rw [e]; simp
  have h2 := h1.1 r hr
  have hm : r ∈ endsOf w := hp.mem_iff.mp (List.mem_of_mem_drop (List.mem_of_mem_take hr))
  obtain ⟨i, _, rfl⟩ := List.mem_map.mp hm
  refine ⟨fun n hn => hw n (List.mem_of_mem_drop (h2.subset hn)), Nat.le_trans h2.length_le (by rw [List.length_drop]; omega)⟩
/-- the law: both sets have the same elements -/
theorem law04 {w : List Int} (hw : Pos0 w) {rows : List (List Int)} (hp : rows.Perm (endsOf w)) (ho : InOrder rows) {c : Nat} (hc : 1 ≤ c) {al : Tab} (ha : Counts w al w.length 0) {ks : List Str} (hh : Heads rows c (rows.length + 1 - c) 0 ks) :
    ks.length = (keysOf (often al c)).length ∧ ∀ y ∈ ks, y ∈ keysOf (often al c) := by
  have key : ∀ y, y ∈ ks ↔ y ∈ keysOf (often al c) := by
    intro y
    rw [mem_keysOf, mem_often ha hc, hh.2 y]
    constructor
    · rintro ⟨k', p, h1, h2, h3, h4⟩
      have h5 := List.length_pos_iff.mpr h1
      have hk : k' + c ≤ rows.length := by omega
      refine ⟨p, fun n hn => (told_sub hp hw hc hk).1 n (h2.subset hn), h1, h3, ?_⟩
      rw [← hp.countP_eq]
      exact (side_by_side ho hc p).mp ⟨k', hk, h2⟩
    · rintro ⟨p, h0, h1, h3, h4⟩
      rw [← hp.countP_eq] at h4
      obtain ⟨k, hk, h2⟩ := (side_by_side ho hc p).mpr h4
      exact ⟨k, p, h1, h2, h3, .inl (by omega)⟩
  exact ⟨((List.perm_ext_iff_of_nodup hh.1 keysOf_nodup).mpr key).length_eq, fun y hy => (key y).mp hy⟩
end Mine

namespace Mine
open PySem PySem.W PyProof.Rows PySem.Calls
set_option Elab.async false
set_option maxRecDepth 100000
set_option linter.unusedVariables false
abbrev lawS : Stmt := stAt body 13
theorem Ex.mid {X : Cx} {k : Nat} {sc : Scope} {τ : Sto} {st : Stmt} {rest : List Stmt} {R : Out → Prop} (Mid : Sto → Prop) (h : Ex X k sc τ (exec st) (fun o => ∃ τ', o = .next τ' ∧ Mid τ')) (r : ∀ τ', Mid τ' → Ex X k sc τ' (execs rest) R) : Ex X k sc τ (execs (st :: rest)) R :=
  Ex.cons (h.mono fun o ⟨τ', e, q⟩ => by subst e; exact r τ' q)
theorem Its.to {X : Cx} {k : Nat} {sc : Scope} {σ : Sto} {e : Expr} {ds ds' : List Dat} (h : Its X k sc σ e ds) (q : ds = ds') : Its X k sc σ e ds' := q ▸ h
/-- a def of the text's, called with some datum -/
theorem EvP.callFP {X : Cx} {k : Nat} {sc : Scope} {σ : Sto} {f : Str} {p pos : Pos} {e : Expr} {P : Dat → Prop} {Q : Heap → Value → Prop} (hk : sc.names.lookup f = some .globalImplicit) (he : EvP X k sc σ e fun g v => ∃ d, P d ∧ Rep g v d) (hf : ∀ d, P d → Fn X k f [d] Q) {d0 : Dat} (h0 : P d0)
    (hd : (f == ("__debug__" : Str)) = false := by decide) (hp : plainE e = true := by rfl) : EvP X k sc σ (.Call (.Name f p) [e] [] pos) Q := by
  obtain ⟨a, o, fd, h1, h2, h3, _⟩ := hf d0 h0
  intro A env g s E rm oe bs q
  refine wpAny_Call_NameR (wp_ev (EvP.global hk h1 hd A env g s E rm oe bs q) fun u g1 s1 k1 x1 p1 => ?_)
  subst p1
  refine wp_fin k1 x1 ?_
  refine callWith_of (P := fun h => Sub X.h0 h) (by rw [plain_any pos env (es := [e]) (by rw [List.all_cons, hp]; rfl)]; rfl) (fun h hs => ⟨.frame, .inl rfl, ?_⟩) ?_
  · exact (Looks.ld (part := none) (hs a o h2)).andThen (by rw [h3]; exact Looks.of_pure rfl)
  rw [starEach_plain hp]
  refine evalArgs_plain (spliced_cons (wp_ev (he A env g1 s1 E rm oe (bs.trans x1.gg) (q.step x1)) fun v g2 s2 k2 x2 ⟨d, hd, p2⟩ => wpAny_items_nil ⟨((bs.trans x1.gg).trans x2.gg).trans x2.gh, ?_⟩))
  obtain ⟨a', o', fd', h1', h2', h3', hop⟩ := hf d hd
  have e1 : a' = a := by rw [h1] at h1'; cases h1'; rfl
  subst e1
  exact wp_fin k2 x2 (hop g2 s2 [v] ((bs.trans x1.gg).trans x2.gg) x2.gh (.one p2) A E rm)

/-- x[e] of a table that stands still -/
theorem Ev.itemTabF {X : Cx} {k : Nat} {sc : Scope} {σ : Sto} {x : Str} {px pos : Pos} {e : Expr} {al : Tab} {y : Str} {d : Dat} {P : Addr → Obj → Heap → Prop} {mp} (hx : σ.lookup x = some (.obj P mp)) (hP : ∀ a o g, P a o g → tabP X al a o g) (he : Ev X k sc σ e (.str y)) (hd : tget al y = some d)
    (hs : ∀ a t, subscripted e false (.ref a) (.str y t) = operate [.ref a, .str y t] (getItem (.ref a) (.str y t)) := by intro _ _; with_unfolding_all rfl)
    (hd1 : (x == ("__debug__" : Str)) = false := by decide) (hn1 : (x == ("__classdict__" : Str)) = false := by decide) : Ev X k sc σ (.Subscript (.Name x px) e pos) d := by
  intro A env g s E rm o bs q
  refine Subscript_ (wp_nameO o q hx (fun a ob ho hp => ?_) hd1 hn1)
  obtain ⟨hb, vs, hdi, hv⟩ := hP _ _ _ hp
  refine wp_ev (he A env g s E rm o bs q) fun u g1 s1 k1 x1 p1 => ?_
  cases p1
  have dm : s1.heap.DictOf (strKind X.prog X.w) a (keysV al vs) := Heap.dictOf_iff.mpr ⟨ob, x1.hh _ _ ho, hdi⟩
  have := keysV_get hv y
  rw [hd] at this
  obtain ⟨v, e1, e2⟩ := this
  refine tail_any dm.typeIs slot_dict_getitem.lookup (wpAny_getItem_of (isText _ _ y _) dm.mapOf e1 ?_) (hs _ _)
  exact .trans k1 x1 (Post.tok x1.gh (e2.sub x1.gg))

theorem tabP_mono (X : Cx) (al : Tab) : ∀ a o g g', Sub g g' → tabP X al a o g → tabP X al a o g' := fun _ _ _ _ k ⟨b, vs, e, r⟩ => ⟨b, vs, e, r.sub k⟩
def LV.tabF (X : Cx) (al : Tab) : LV := LV.frz (tabP X al) (tabP_mono X al)
/-- law 04's text -/
def sg (x : Int) : Int := if x.fmod 3 = 0 then 97 else if x.fmod 3 = 1 then 98 else 47
def wOf (ns : List Int) : List Int := ns.map sg
def Txt4 (w : List Int) : Prop := w.length ≤ 63 ∧ ∀ c ∈ w, c = 97 ∨ c = 98 ∨ c = 47
theorem wOf_txt {ns : List Int} (h : ns.length ≤ 63) : Txt4 (wOf ns) := by
  refine ⟨by unfold wOf; rw [List.length_map]; exact h, fun c hc => ?_⟩
  obtain ⟨x, _, rfl⟩ := List.mem_map.mp hc
  unfold sg
  split
  · exact .inl rfl
  · split
    · exact .inr (.inl rfl)
    · exact .inr (.inr rfl)
theorem txt_pos {w : List Int} (h : Txt4 w) : Pos0 w := fun n hn => by rcases h.2 n hn with e | e | e <;> omega
theorem flatten_one {α : Type} (f : α → Int) : ∀ l : List α, (l.map fun x => [f x]).flatten = l.map f
  | [] => rfl
  | x :: l => by rw [List.map_cons, List.flatten_cons, flatten_one f l]; rfl
theorem sum_one {α : Type} (f : α → Int) : ∀ l : List α, ((l.map fun x => [f x]).map List.length).sum = l.length
  | [] => rfl
  | x :: l => by rw [List.map_cons, List.map_cons, List.sum_cons, sum_one f l]; simp; omega
theorem ends_ok {w : List Int} (h : Txt4 w) : (∀ r ∈ endsOf w, okT r ∧ r.length ≤ 63) ∧ (endsOf w).length = w.length := by
  refine ⟨fun r hr => ?_, by unfold endsOf; rw [List.length_map, List.length_range]⟩
  obtain ⟨i, _, rfl⟩ := List.mem_map.mp hr
  have hl : (w.drop i).length ≤ 63 := by rw [List.length_drop]; have := h.1; omega
  exact ⟨⟨fun n hn => txt_pos h n (List.mem_of_mem_drop hn), small _ (by omega)⟩, hl⟩

section
variable {X : Cx} {k : Nat}
theorem law_fn (N : Free X) (Sf : Stands X "fspath" fsS) (Sc : Stands X "commonprefix" cpS) (Sl : Stands X "law" lawS) {ns : List Int} (hn : ns.length ≤ 63) : FnD X (k + 8) "law" [dList ns] (.bool true) := by
  obtain ⟨m1, Dc⟩ := Sc
  obtain ⟨m2, Df⟩ := Sf
  obtain ⟨m4, D⟩ := Sl
  have hw := wOf_txt hn
  have h63 := hw.1
  refine FnD.intro D ["script"] rfl (fun pm code doc vs hv => ?_) (by decide) (by rfl) ?_
  · match vs, hv with
    | [v], _ => rfl
  refine Ex.cons (Ex.assign (d := dText (wOf ns)) (Ev.to (Ev.join0 (rows := ns.map fun x => [sg x]) (Ev.to (Ev.compMap (l := ns) (toD := .int) (f := fun x => dText [sg x]) (Its.list (.local rfl)) [] .of .nil rfl (fun x hx => ?_) (small _ (by omega))) (by rw [List.map_map]; rfl)) (by rw [sum_one]; omega)) (by rw [flatten_one]; rfl)) ?_)
  · have h1 := Int.fmod_nonneg_of_pos x (show (0 : Int) < 3 by decide)
    have h2 := Int.fmod_lt_of_pos x (show (0 : Int) < 3 by decide)
    refine Ev.itemS (c := (sg x).toNat) .str (Ev.bin (.local rfl) .int (op_mod (by decide))) h1 (by omega) ?_
    unfold sg
    rcases (show x.fmod 3 = 0 ∨ x.fmod 3 = 1 ∨ x.fmod 3 = 2 by omega) with h | h | h <;> rw [h] <;> decide
  have hwn : (wOf ns).length = ns.length := by unfold wOf; rw [List.length_map]
  have hpos := txt_pos hw
  have hends := ends_ok hw
  generalize wOf ns = w at *
  have hsl : (strOf w).length ≤ sizeLine := by rw [strOf_length]; exact small _ (by omega)
  obtain ⟨c, hc1, hc2, hcd⟩ : ∃ c : Nat, 1 ≤ c ∧ c ≤ max 1 w.length ∧ 1 + ((ns.take 1).sum.fdiv 3).fmod (max 1 (w.length : Int)) = (c : Int) := by
    have h1 := Int.fmod_nonneg_of_pos ((ns.take 1).sum.fdiv 3) (show (0 : Int) < max 1 (w.length : Int) by omega)
    have h2 := Int.fmod_lt_of_pos ((ns.take 1).sum.fdiv 3) (show (0 : Int) < max 1 (w.length : Int) by omega)
    exact ⟨(1 + ((ns.take 1).sum.fdiv 3).fmod (max 1 (w.length : Int))).toNat, by omega, by omega, by omega⟩
  refine Ex.cons (Ex.assign (d := .int (c : Nat)) (Ev.to (Ev.bin .int (Ev.bin (Ev.bin (EvP.callB (EvP.builtin rfl N.sum rfl (by decide)) (.cons (Ev.to (d' := dList (ns.take 1)) (Ev.slice (.local rfl) .none (.some (i := ((1 : Nat) : Int)) .int) (by rw [dInts_length]; exact small _ (by omega))) (by rw [cut_upto]; simp [dList, dInts])) .nil) (op_sum (k := k + 6))) .int (op_div (by decide) (PyProof.noPylong_small (by decide))))
    (EvP.callB (EvP.builtin rfl N.max rfl (by decide)) (.cons .int (.cons (EvP.callB (EvP.builtin rfl N.len rfl (by decide)) (.cons (.local rfl) .nil) (len_text (by omega))) .nil)) op_max2) (op_mod (by omega))) op_add) (by rw [hcd])) ?_)
  obtain ⟨rows, hperm, hord⟩ := exists_sorted (endsOf w)
  have hrl : rows.length = w.length := by rw [hperm.length_eq, hends.2]
  refine Ex.cons (Ex.assign (d := .list (rows.map dText)) (EvP.callB (EvP.builtin rfl N.sorted rfl (by decide)) (.cons (Ev.to (d' := .list ((endsOf w).map dText)) (Ev.compMap (l := List.range w.length) (toD := fun i => .int (0 + (i : Int) * 1)) (f := fun i => dText (w.drop i)) (Its.range1 (EvP.builtin rfl N.range rfl (by decide)) (EvP.callB (EvP.builtin rfl N.len rfl (by decide)) (.cons (.local rfl) .nil) (len_text (by omega))) (by omega) (by omega)) [("text", .dat (dText w))] .of (.cons rfl .nil) rfl (fun i hi => ?_) (small _ (by rw [List.length_range]; omega)))
    (by unfold endsOf; rw [List.map_map]; rfl)) .nil) (op_sorted (k := k + 5) (sortK_text X) (fun r hr => (hends.1 r hr).1) (.inl (by omega)) hperm hord)) ?_)
  · refine (Ev.sliceS (.local rfl) (.some (.local rfl)) .none hsl).to ?_
    rw [show (0 + ((i : Nat) : Int) * 1) = ((i : Nat) : Int) by omega, cutS_strOf, cut_from]; rfl
  have hro : ∀ r ∈ rows, okT r ∧ r.length ≤ 63 := fun r hr => hends.1 r (hperm.mem_iff.mp hr)
  refine Ex.cons (Ex.assignTset (EvP.builtin rfl N.set rfl (by decide)) ?_)
  have hk0 : ((rows.length : Int) - (c : Int) + 1).toNat = rows.length + 1 - c := by omega
  have told_ok : ∀ k, k + c ≤ rows.length → Pos0 (toldOf rows c k) ∧ (toldOf rows c k).length ≤ 63 := fun k hk => by
    obtain ⟨a, b⟩ := told_sub hperm hpos hc1 hk
    exact ⟨a, by omega⟩
  refine Ex.mid (fun τ => ∃ ks, Heads rows c (rows.length + 1 - c) 0 ks ∧ ks.length ≤ 63 * 63 ∧ τ.lookup ("text" : Str) = some (.dat (dText w)) ∧ τ.lookup ("count" : Str) = some (.dat (.int (c : Nat))) ∧ τ.lookup ("heads" : Str) = some (LV.tset X ks))
    (Ex.for_ (Its.range1 (n := (rows.length : Int) - (c : Int) + 1) (EvP.builtin rfl N.range rfl (by decide)) (Ev.bin (Ev.bin (Ev.to (EvP.callB (EvP.builtin rfl N.len rfl (by decide)) (.cons (.local rfl) .nil) (len_list (by rw [List.length_map]; omega))) (by rw [List.length_map])) (.local rfl) op_sub) .int op_add) (by omega) (by omega))
      (fun i τ => ∃ ks, Heads rows c i 0 ks ∧ ks.length ≤ 63 * i ∧ τ.lookup ("text" : Str) = some (.dat (dText w)) ∧ τ.lookup ("count" : Str) = some (.dat (.int (c : Nat))) ∧ τ.lookup ("ends" : Str) = some (.dat (.list (rows.map dText))) ∧ τ.lookup ("heads" : Str) = some (LV.tset X ks))
      ⟨[], heads_nil _ _, Nat.zero_le _, rfl, rfl, rfl, rfl⟩ (fun i τ' d hd ⟨ks, a1, a2, a3, a4, a5, a6⟩ => ?_) (fun τ' ⟨ks, a1, a2, a3, a4, a5, a6⟩ => ⟨τ', rfl, ks, ?_, ?_, a3, a4, a6⟩)) (fun τ ⟨ks, a1, a2, a3, a4, a6⟩ => ?_)
  · have hi : i < rows.length + 1 - c := by have := (List.getElem?_eq_some_iff.mp hd).1; rw [rangeD_length] at this; omega
    have hik : i + c ≤ rows.length := by omega
    rw [rangeD_get (by omega)] at hd
    have ed : d = .int (i : Nat) := by cases hd; congr 1; omega
    subst ed
    have b3 := upd_other (x := ("k" : Str)) (lv := .dat (.int (i : Nat))) (by decide) a3
    have b4 := upd_other (x := ("k" : Str)) (lv := .dat (.int (i : Nat))) (by decide) a4
    have b5 := upd_other (x := ("k" : Str)) (lv := .dat (.int (i : Nat))) (by decide) a5
    have b6 := upd_other (x := ("k" : Str)) (lv := .dat (.int (i : Nat))) (by decide) a6
    have bk := upd_same (x := ("k" : Str)) (y := ("k" : Str)) (lv := .dat (.int (i : Nat))) (τ := τ') rfl
    generalize upd ("k" : Str) (.dat (.int (i : Nat))) τ' = τ at *
    have hwl : ((rows.drop i).take c).length = c := by rw [List.length_take, List.length_drop]; omega
    have hwm : ∀ r ∈ (rows.drop i).take c, r ∈ rows := fun r hr => List.mem_of_mem_drop (List.mem_of_mem_take hr)
    obtain ⟨t1, t2⟩ := told_ok i hik
    refine Ex.cons (Ex.assign (d := dText (toldOf rows c i)) (EvP.callFP (P := fun d => ∃ rows', rows'.Perm ((rows.drop i).take c) ∧ d = .list (rows'.map dText)) rfl ((Ev.sortedLen (rows := (rows.drop i).take c) (EvP.builtin rfl N.sorted rfl (by decide)) (Ev.to (Ev.slice (.local b5) (.some (.local bk)) (.some (i := ((i + c : Nat) : Int)) (Ev.to (d := .int ((i : Int) + (c : Int))) (Ev.bin (.local bk) (.local b4) op_add) (by congr 1))) (by rw [List.length_map]; exact small _ (by omega))) ?_) (EvP.builtin rfl N.len rfl (by decide)) (by omega) (fun r hr => ?_)).mono fun g v ⟨rows', q1, q2⟩ => ⟨_, ⟨rows', q1, rfl⟩, q2⟩)
      (fun d ⟨rows', q1, q2⟩ => ?_) ⟨_, .refl _, rfl⟩) ?_)
    · rw [cut_mid, List.map_take, List.map_drop]
      rw [show i + c - i = c by omega]
    · exact Nat.lt_of_le_of_lt (hro r (hwm r hr)).2 (by decide)
    · subst q2
      have hl := q1.length_eq
      rw [hwl] at hl
      have := cp_texts (k := k + 1) N Dc Df (rows := rows') (fun q => by rw [q] at hl; simp at hl; omega) (fun r hr => (hro r (hwm r (q1.mem_iff.mp hr))).1) (small _ (by omega))
      rw [told_perm hc1 hik q1] at this
      exact this.le (by omega)
    have g3 := upd_other (x := ("told" : Str)) (lv := .dat (dText (toldOf rows c i))) (by decide) b3
    have g4 := upd_other (x := ("told" : Str)) (lv := .dat (dText (toldOf rows c i))) (by decide) b4
    have g5 := upd_other (x := ("told" : Str)) (lv := .dat (dText (toldOf rows c i))) (by decide) b5
    have g6 := upd_other (x := ("told" : Str)) (lv := .dat (dText (toldOf rows c i))) (by decide) b6
    have gt := upd_same (x := ("told" : Str)) (y := ("told" : Str)) (lv := .dat (dText (toldOf rows c i))) (τ := τ) rfl
    generalize upd ("told" : Str) (.dat (dText (toldOf rows c i))) τ = τ2 at *
    have htl : (strOf (toldOf rows c i)).length ≤ sizeLine := by rw [strOf_length]; exact small _ (by omega)
    refine Ex.last (Ex.for_ (Its.range2 (EvP.builtin rfl N.range rfl (by decide)) .int (Ev.bin (EvP.callB (EvP.builtin rfl N.len rfl (by decide)) (.cons (.local gt) .nil) (len_text (by omega))) .int op_add) (by omega) (by omega) (by omega) (by omega))
      (fun t τ => ∃ ks, Heads rows c i t ks ∧ ks.length ≤ 63 * i + t ∧ τ.lookup ("text" : Str) = some (.dat (dText w)) ∧ τ.lookup ("count" : Str) = some (.dat (.int (c : Nat))) ∧ τ.lookup ("ends" : Str) = some (.dat (.list (rows.map dText))) ∧ τ.lookup ("heads" : Str) = some (LV.tset X ks) ∧ τ.lookup ("told" : Str) = some (.dat (dText (toldOf rows c i))))
      ⟨ks, a1, a2, g3, g4, g5, g6, gt⟩ (fun t τ3 d hd ⟨ks, c1, c2, c3, c4, c5, c6, c7⟩ => ?_) (fun τ3 ⟨ks, c1, c2, c3, c4, c5, c6, c7⟩ => ⟨ks, heads_row ?_, ?_, c3, c4, c5, c6⟩))
    · have ht : t < (toldOf rows c i).length := by have := (List.getElem?_eq_some_iff.mp hd).1; rw [rangeD_length] at this; omega
      rw [rangeD_get (by omega)] at hd
      have ed : d = .int ((t + 1 : Nat) : Int) := by cases hd; congr 1; omega
      subst ed
      have e3 := upd_other (x := ("size" : Str)) (lv := .dat (.int ((t + 1 : Nat) : Int))) (by decide) c3
      have e4 := upd_other (x := ("size" : Str)) (lv := .dat (.int ((t + 1 : Nat) : Int))) (by decide) c4
      have e5 := upd_other (x := ("size" : Str)) (lv := .dat (.int ((t + 1 : Nat) : Int))) (by decide) c5
      have e6 := upd_other (x := ("size" : Str)) (lv := .dat (.int ((t + 1 : Nat) : Int))) (by decide) c6
      have e7 := upd_other (x := ("size" : Str)) (lv := .dat (.int ((t + 1 : Nat) : Int))) (by decide) c7
      have es := upd_same (x := ("size" : Str)) (y := ("size" : Str)) (lv := .dat (.int ((t + 1 : Nat) : Int))) (τ := τ3) rfl
      refine Ex.last (Ex.addTset e6 (y := strOf ((toldOf rows c i).take (t + 1))) (Ev.to (Ev.sliceS (.local e7) .none (.some (.local es)) htl) (by rw [cutS_strOf, cut_upto])) (by unfold scanBound; omega) ⟨_, heads_step c1 ht, ?_, upd_other (by decide) e3, upd_other (by decide) e4, upd_other (by decide) e5, upd_same rfl, upd_other (by decide) e7⟩)
      have := addK_length_le (ks := ks) (k := strOf ((toldOf rows c i).take (t + 1)))
      omega
    · rw [rangeD_length] at c1
      rw [show (((toldOf rows c i).length : Int) + 1 - 1).toNat = (toldOf rows c i).length by omega] at c1
      exact c1
    · rw [rangeD_length] at c2
      omega
  · rw [rangeD_length, hk0] at a1; exact a1
  · rw [rangeD_length, hk0] at a2; omega
  refine Ex.cons (Ex.assignTab ?_)
  have b3 := upd_other (x := ("places" : Str)) (lv := LV.tab X []) (by decide) a3
  have b4 := upd_other (x := ("places" : Str)) (lv := LV.tab X []) (by decide) a4
  have b6 := upd_other (x := ("places" : Str)) (lv := LV.tab X []) (by decide) a6
  have bp := upd_same (x := ("places" : Str)) (y := ("places" : Str)) (lv := LV.tab X []) (τ := τ) rfl
  generalize upd ("places" : Str) (LV.tab X []) τ = τ1 at *
  refine Ex.mid (fun τ => ∃ al, Counts w al w.length 0 ∧ al.length ≤ 63 * 64 ∧ τ.lookup ("count" : Str) = some (.dat (.int (c : Nat))) ∧ τ.lookup ("heads" : Str) = some (LV.tset X ks) ∧ τ.lookup ("places" : Str) = some (LV.tab X al))
    (Ex.for_ (Its.range1 (EvP.builtin rfl N.range rfl (by decide)) (EvP.callB (EvP.builtin rfl N.len rfl (by decide)) (.cons (.local b3) .nil) (len_text (by omega))) (by omega) (by omega))
      (fun i τ => ∃ al, Counts w al i 0 ∧ al.length ≤ i * 64 ∧ τ.lookup ("text" : Str) = some (.dat (dText w)) ∧ τ.lookup ("count" : Str) = some (.dat (.int (c : Nat))) ∧ τ.lookup ("heads" : Str) = some (LV.tset X ks) ∧ τ.lookup ("places" : Str) = some (LV.tab X al))
      ⟨[], counts_nil w, Nat.zero_le _, b3, b4, b6, bp⟩ (fun i τ' d hd ⟨al, f1, f2, f3, f4, f6, f7⟩ => ?_) (fun τ' ⟨al, f1, f2, f3, f4, f6, f7⟩ => ⟨τ', rfl, al, ?_, ?_, f4, f6, f7⟩)) (fun τ2 ⟨al, f1, f2, f4, f6, f7⟩ => ?_)
  · have hi : i < w.length := by have := (List.getElem?_eq_some_iff.mp hd).1; rw [rangeD_length] at this; omega
    rw [rangeD_get (by omega)] at hd
    have ed : d = .int (i : Nat) := by cases hd; congr 1; omega
    subst ed
    have g3 := upd_other (x := ("i" : Str)) (lv := .dat (.int (i : Nat))) (by decide) f3
    have g4 := upd_other (x := ("i" : Str)) (lv := .dat (.int (i : Nat))) (by decide) f4
    have g6 := upd_other (x := ("i" : Str)) (lv := .dat (.int (i : Nat))) (by decide) f6
    have g7 := upd_other (x := ("i" : Str)) (lv := .dat (.int (i : Nat))) (by decide) f7
    have gi := upd_same (x := ("i" : Str)) (y := ("i" : Str)) (lv := .dat (.int (i : Nat))) (τ := τ') rfl
    generalize upd ("i" : Str) (.dat (.int (i : Nat))) τ' = τ at *
    refine Ex.last (Ex.for_ (Its.range2 (EvP.builtin rfl N.range rfl (by decide)) (Ev.bin (.local gi) .int op_add) (Ev.bin (EvP.callB (EvP.builtin rfl N.len rfl (by decide)) (.cons (.local g3) .nil) (len_text (by omega))) .int op_add) (by omega) (by omega) (by omega) (by omega))
      (fun t τ => ∃ al, Counts w al i (i + 1 + t) ∧ al.length ≤ i * 64 + t ∧ τ.lookup ("text" : Str) = some (.dat (dText w)) ∧ τ.lookup ("count" : Str) = some (.dat (.int (c : Nat))) ∧ τ.lookup ("heads" : Str) = some (LV.tset X ks) ∧ τ.lookup ("places" : Str) = some (LV.tab X al) ∧ τ.lookup ("i" : Str) = some (.dat (.int (i : Nat))))
      ⟨al, counts_row f1, f2, g3, g4, g6, g7, gi⟩ (fun t τ2 d hd ⟨al, c1, c2, c3, c4, c6, c7, c8⟩ => ?_) (fun τ2 ⟨al, c1, c2, c3, c4, c6, c7, c8⟩ => ⟨al, counts_end hi ?_, ?_, c3, c4, c6, c7⟩))
    · have ht : i + 1 + t ≤ w.length := by have := (List.getElem?_eq_some_iff.mp hd).1; rw [rangeD_length] at this; omega
      rw [rangeD_get (by omega)] at hd
      have ed : d = .int ((i + 1 + t : Nat) : Int) := by cases hd; congr 1; omega
      subst ed
      have d3 := upd_other (x := ("j" : Str)) (lv := .dat (.int ((i + 1 + t : Nat) : Int))) (by decide) c3
      have d4 := upd_other (x := ("j" : Str)) (lv := .dat (.int ((i + 1 + t : Nat) : Int))) (by decide) c4
      have d6 := upd_other (x := ("j" : Str)) (lv := .dat (.int ((i + 1 + t : Nat) : Int))) (by decide) c6
      have d7 := upd_other (x := ("j" : Str)) (lv := .dat (.int ((i + 1 + t : Nat) : Int))) (by decide) c7
      have d8 := upd_other (x := ("j" : Str)) (lv := .dat (.int ((i + 1 + t : Nat) : Int))) (by decide) c8
      have dj := upd_same (x := ("j" : Str)) (y := ("j" : Str)) (lv := .dat (.int ((i + 1 + t : Nat) : Int))) (τ := τ2) rfl
      refine Ex.last (Ex.setTab d7 (y := strOf ((w.drop i).take (i + 1 + t - i))) (Ev.bin (Ev.to (Ev.getTab d7 (y := strOf ((w.drop i).take (i + 1 + t - i))) (Ev.to (Ev.sliceS (.local d3) (.some (.local d8)) (.some (.local dj)) hsl) (by rw [cutS_strOf, cut_mid])) .int) (counts_at c1 (take_pos hpos _ _) (fun q => by have := congrArg List.length q; rw [List.length_take, List.length_drop, List.length_nil] at this; omega))) .int op_add) (Ev.to (Ev.sliceS (.local d3) (.some (.local d8)) (.some (.local dj)) hsl) (by rw [cutS_strOf, cut_mid])) (small _ (by omega))
        ⟨_, counts_step (j := i + 1 + t) hpos c1 (by omega) ht, ?_, upd_other (by decide) d3, upd_other (by decide) d4, upd_other (by decide) d6, upd_same rfl, upd_other (by decide) d8⟩)
      have := tput_length_le al (strOf ((w.drop i).take (i + 1 + t - i))) (.int ((cnt w ((w.drop i).take (i + 1 + t - i)) i (i + 1 + t) + 1 : Nat) : Int))
      omega
    · rw [rangeD_length] at c1
      rw [show i + 1 + ((w.length : Int) + 1 - ((i : Int) + 1)).toNat = w.length + 1 by omega] at c1
      exact c1
    · rw [rangeD_length] at c2
      omega
  · rw [rangeD_length] at f1
    rw [show ((w.length : Nat) : Int).toNat = w.length by omega] at f1
    exact f1
  · rw [rangeD_length] at f2; omega
  have hoft : (often al (c : Nat)).length ≤ al.length := by
    unfold often
    rw [List.length_map]
    exact List.length_filter_le _ _
  have hkl := keysOf_length_le (xs := often al (c : Nat))
  obtain ⟨l1, l2⟩ := law04 hpos hperm hord hc1 f1 a1
  refine Ex.last (Ex.return (Ev.to (Ev.eqTset f6 (ks2 := keysOf (often al (c : Nat))) (EvP.callT (EvP.builtin rfl N.set rfl (by decide)) (.cons (Ev.to (d' := .list ((often al (c : Nat)).map .str)) (Ev.frz (x := "places") f7 (Ev.compFilt (l := al) (toD := fun e => .str e.1) (p := fun e => decide ((c : Int) ≤ numAl al e.1)) (f := fun e => .str e.1) (Its.tab (upd_same rfl)) [("count", .dat (.int (c : Nat))), ("places", LV.tabF X al)] .of (.cons (upd_other (by decide) f4) (.consObj (upd_same rfl) .nil)) rfl (fun e he => ?_) (fun e he _ => ?_) (small _ (by omega))) fun a o g h => tab_noseq h) (by unfold often; rw [List.map_map]; rfl)) .nil) (op_tset (by unfold scanBound; omega))) (by unfold scanBound; omega) (by unfold scanBound; omega)) ?_) rfl)
  · obtain ⟨q1, _⟩ := counts_num f1 (mem_al.mp ⟨e, he, rfl⟩)
    exact EvT.cmp (Ev.itemTabF rfl (fun a o g h => h.1) (.local rfl) q1) (.local rfl) op_ge
  · exact .local rfl
  · rw [decide_eq_true ⟨l1, l2⟩]
end
end Mine

open PySem PySem.W PyProof.Rows
set_option Elab.async false
set_option maxRecDepth 100000 in
set_option maxHeartbeats 8000000 in
theorem PySem.Challenge.cw_kq0014_04_holds : PySem.Challenge.rw_kq0014_04.Holds := by
  w_on; o_law; k_head; (case hw => w_witness2)
  w_strict (
    k_fill
    intro w s₀ s₁ mg mb G Y fa o pm cd doc dV kV ho hd hcd hD hmg hg args vals as hpre hlay hrd hwl hlo
    refine Ground.open G ?_
    intro T B D TE TW
    wrow_args hpre hlay hrd hwl hlo
    rename_i ns _ _ _ _ _ _ _ l vs _ _ _ wl _ _ _ hlen _
    have free := Mine.free_of T
    have D1 := Mine.fn_of T (Str.ofString "fspath") (d := _) (by with_unfolding_all rfl)
    have D2 := Mine.fn_of T (Str.ofString "commonprefix") (d := _) (by with_unfolding_all rfl)
    have D3 := Mine.fn_of T (Str.ofString "law") (d := _) (by with_unfolding_all rfl)
    refine Mine.law_ends (X := ⟨PySem.Challenge.rw_kq0014_04.row.prog, w, mg, mb, s₁.heap, T.g, T.b, T.nolimit, T.builtins⟩) (k := 95 + 8) (f := Str.ofString "law") (ns := ns) ?_ hmg rfl (Mine.rep_of_well wl) hg ⟨rfl, by decide, by decide⟩ (raisesW_false ?_) ?_
    rotate_left 1
    · wrow_none_raised
    · wrow_post
    refine Mine.law_fn (k := 95) ⟨free _ (by decide +kernel), free _ (by decide +kernel), free _ (by decide +kernel), free _ (by decide +kernel), free _ (by decide +kernel), free _ (by decide +kernel), free _ (by decide +kernel), free _ (by decide +kernel), free _ (by decide +kernel), free _ (by decide +kernel), free _ (by decide +kernel), free _ (by decide +kernel), free _ (by decide +kernel), free _ (by decide +kernel), free _ (by decide +kernel), free _ (by decide +kernel), free _ (by decide +kernel), free _ (by decide +kernel), free _ (by decide +kernel)⟩ ?_ ?_ ?_ (by omega)
    · exact ⟨_, D1⟩
    · exact ⟨_, D2⟩
    · exact ⟨_, D3⟩)
