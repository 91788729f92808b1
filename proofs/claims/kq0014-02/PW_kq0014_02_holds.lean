import PyProof.Rows.All
import Wide.All
import OpenK.AllK
import Wide.FinOn
import PyProof.EqAt
import KE.KSliceW
import KE.KRevSl
import PyProof.Draws
import PyProof.MinMaxWalk
import PyProof.Rows.Tup
import KE.KEqDat
import PyProof.EnumMake
import PyProof.CollectIter
import PyProof.TupleOfStr
import PyProof.Rows.RaiseClass
import PyProof.TypeOfCall
import PyProof.SliceStr2
import PyProof.FString5
import PyProof.Rows.RuleDivmod
import PyProof.WalkInts
import PyProof.StrWalks
import KE.KSortAsk
import PyProof.CallRoads
import PyProof.Rows.CountFlat
import PyProof.Rows.ListMul
import PyProof.Rows.Nodes
import Wide.Shadow
import PyProof.Rows.StrJoin2
import PyProof.Rows.Range3
import PyProof.DictStraight
import PyProof.StrLawsIn
import PyProof.SetKind
import PyProof.SetRoads
import PyProof.SetNew
import PyProof.Rows.SetObj
import PyProof.Rows.CallKwBuiltin
import PyProof.Rows.SetFrom
import PyProof.DictCalls
import PyProof.DictWalks
import PyProof.DictIter
import PyProof.Rows.SumAny
import KE.KSortKey
import PyProof.FactsAll.set_1
import PyProof.FactsAll.dict_keyiterator
import PyProof.FactsAll.set_4
import PyProof.FactsAll.list_3
import PyProof.AutoSeq1
import KE.KBytesCut
import PyProof.StationsW
import PyProof.RulesTry
import PyProof.FactsAll.int_3
import PyProof.Rows.Catch
import KE.KTypeName
import KE.KBoundM
import PyProof.AttrMiss
import PyProof.ExcFactsAll.TypeError
import KE.KIsBytes
import PyProof.NeKinds
import PyProof.TupleOfSeq
import Lean
import PySem.Challenge.RW_kq0014_02

namespace Mine
open PySem PySem.W PyProof.Rows
set_option Elab.async false
set_option maxRecDepth 100000
set_option linter.unusedVariables false

/-- every object of g stands in h -/
abbrev Sub (g h : Heap) : Prop := ∀ b o, g.get? b = some o → h.get? b = some o
theorem Sub.rfl {g : Heap} : Sub g g := fun _ _ e => e
theorem Sub.trans {a b c : Heap} (x : Sub a b) (y : Sub b c) : Sub a c := fun p o e => y p o (x p o e)
theorem Sub.push {g h : Heap} (x : Sub g h) (o : Obj) : Sub g (h.push o) := fun b o' e => Heap.get?_push_of_some _ (x b o' e)

def PlainTup (h : Heap) (a : Addr) (items : Array Value) : Prop := ∃ n, h.get? a = some { cls := .type "tuple", data := .seq items n }
mutual
/-- the value stands for the datum in a heap -/
inductive Rep (h : Heap) : Value → Dat → Prop
  | none : Rep h .none .none
  | bool (b : Bool) : Rep h (.bool b) (.bool b)
  | int (i : Int) (t : Tok) : Rep h (.int i t) (.int i)
  | str (x : Str) (t : Tok) : Rep h (.str x t) (.str x)
  | bytes (b : Array UInt8) (t : Tok) : Rep h (.bytes b t) (.bytes b)
  | tuple {a : Addr} {vs : List Value} {ds : List Dat} : PlainTup h a vs.toArray → RepAll h vs ds → Rep h (.ref a) (.tuple ds)
  | list {a : Addr} {vs : List Value} {ds : List Dat} : h.PlainList a vs.toArray → RepAll h vs ds → Rep h (.ref a) (.list ds)
inductive RepAll (h : Heap) : List Value → List Dat → Prop
  | nil : RepAll h [] []
  | cons {v : Value} {vs : List Value} {d : Dat} {ds : List Dat} : Rep h v d → RepAll h vs ds → RepAll h (v :: vs) (d :: ds)
end

theorem isList_sub {g h : Heap} {a : Addr} {xs : Array Value} (k : Sub g h) (x : g.PlainList a xs) : h.IsList a xs := let ⟨n, ho⟩ := x; ⟨_, k a _ ho, rfl, n, rfl⟩
theorem isTup_sub {g h : Heap} {a : Addr} {xs : Array Value} (k : Sub g h) (x : PlainTup g a xs) : IsTup h a xs := let ⟨n, ho⟩ := x; ⟨_, k a _ ho, rfl, n, rfl⟩
theorem plain_sub {g h : Heap} {a : Addr} {xs : Array Value} (k : Sub g h) (x : g.PlainList a xs) : h.PlainList a xs := let ⟨n, ho⟩ := x; ⟨n, k a _ ho⟩
theorem plainT_sub {g h : Heap} {a : Addr} {xs : Array Value} (k : Sub g h) (x : PlainTup g a xs) : PlainTup h a xs := let ⟨n, ho⟩ := x; ⟨n, k a _ ho⟩

mutual
theorem Rep.sub {g h : Heap} (k : Sub g h) : ∀ {v d}, Rep g v d → Rep h v d
  | _, _, .none => .none
  | _, _, .bool b => .bool b
  | _, _, .int i t => .int i t
  | _, _, .str x t => .str x t
  | _, _, .bytes b t => .bytes b t
  | _, _, .tuple i r => .tuple (plainT_sub k i) (RepAll.sub k r)
  | _, _, .list i r => .list (plain_sub k i) (RepAll.sub k r)
theorem RepAll.sub {g h : Heap} (k : Sub g h) : ∀ {vs ds}, RepAll g vs ds → RepAll h vs ds
  | _, _, .nil => .nil
  | _, _, .cons a r => .cons (Rep.sub k a) (RepAll.sub k r)
end

theorem RepAll.length {h : Heap} : ∀ {vs ds}, RepAll h vs ds → vs.length = ds.length
  | _, _, .nil => _root_.rfl
  | _, _, .cons _ r => by rw [List.length_cons, List.length_cons, RepAll.length r]
theorem RepAll.append {h : Heap} {ws es} (k : RepAll h ws es) : ∀ {vs ds}, RepAll h vs ds → RepAll h (vs ++ ws) (ds ++ es)
  | _, _, .nil => k
  | _, _, .cons a r => .cons a (RepAll.append k r)
theorem RepAll.get {h : Heap} : ∀ {vs ds}, RepAll h vs ds → ∀ {k : Nat} {d}, ds[k]? = some d → ∃ v, vs[k]? = some v ∧ Rep h v d
  | _, _, .nil, k, d, e => by simp at e
  | _, _, .cons a r, 0, d, e => by
    simp at e; subst e; exact ⟨_, by simp, a⟩
  | _, _, .cons a r, k + 1, d, e => by
    obtain ⟨v, h1, h2⟩ := RepAll.get r (k := k) (d := d) (by simpa using e)
    exact ⟨v, by simpa using h1, h2⟩
theorem RepAll.get' {h : Heap} : ∀ {vs ds}, RepAll h vs ds → ∀ {k : Nat} {v}, vs[k]? = some v → ∃ d, ds[k]? = some d ∧ Rep h v d
  | _, _, .nil, k, d, e => by simp at e
  | _, _, .cons a r, 0, d, e => by
    simp at e; subst e; exact ⟨_, by simp, a⟩
  | _, _, .cons a r, k + 1, d, e => by
    obtain ⟨v, h1, h2⟩ := RepAll.get' r (k := k) (v := d) (by simpa using e)
    exact ⟨v, by simpa using h1, h2⟩
theorem RepAll.drop {h : Heap} : ∀ {vs ds}, RepAll h vs ds → ∀ n, RepAll h (vs.drop n) (ds.drop n)
  | _, _, .nil, n => by simp; exact .nil
  | _, _, .cons a r, 0 => .cons a r
  | _, _, .cons a r, n + 1 => by simpa using RepAll.drop r n
theorem RepAll.take {h : Heap} : ∀ {vs ds}, RepAll h vs ds → ∀ n, RepAll h (vs.take n) (ds.take n)
  | _, _, .nil, n => by simp; exact .nil
  | _, _, .cons a r, 0 => .nil
  | _, _, .cons a r, n + 1 => by simpa using .cons a (RepAll.take r n)
theorem RepAll.reverse {h : Heap} : ∀ {vs ds}, RepAll h vs ds → RepAll h vs.reverse ds.reverse
  | _, _, .nil => .nil
  | _, _, .cons a r => by
    rw [List.reverse_cons, List.reverse_cons]
    exact RepAll.append (.cons a .nil) (RepAll.reverse r)
theorem RepAll.one {h : Heap} {v d} (x : Rep h v d) : RepAll h [v] [d] := .cons x .nil
/-- one step of the world: g is the part that stands still, h the whole heap -/
structure Step (g h g' h' : Heap) : Prop where
  gg : Sub g g'
  hh : Sub h h'
  gh : Sub g' h'
  new : ∀ b o, g'.get? b = some o → g.get? b = some o ∨ h.get? b = none

theorem Step.rfl {g h : Heap} (k : Sub g h) : Step g h g h := ⟨.rfl, .rfl, k, fun _ _ e => .inl e⟩
theorem Step.trans {g h g' h' g'' h'' : Heap} (x : Step g h g' h') (y : Step g' h' g'' h'') : Step g h g'' h'' :=
  ⟨x.gg.trans y.gg, x.hh.trans y.hh, y.gh, fun b o e => by
    rcases y.new b o e with q | q
    · exact x.new b o q
    · right
      cases z : h.get? b with
      | none => exact _root_.rfl
      | some o' => rw [x.hh b o' z] at q; cases q⟩
/-- what lies outside of g and in h lies outside of g' -/
theorem Step.out {g h g' h' : Heap} (x : Step g h g' h') {b : Addr} (h1 : g.get? b = none) (h2 : (h.get? b).isSome) : g'.get? b = none := by
  cases z : g'.get? b with
  | none => exact _root_.rfl
  | some o =>
    rcases x.new b o z with q | q
    · rw [h1] at q; cases q
    · rw [q] at h2; cases h2

/-- the heap h' without what h holds, but with all of g -/
def freeze (g h h' : Heap) : Heap := ⟨(Array.ofFn (n := h'.objs.size) fun i => if (g.get? i.1).isSome || (h.get? i.1).isNone then h'.objs[i] else ⟨.none, none, .freed, #[]⟩), h'.life⟩
theorem freeze_get {g h h' : Heap} (b : Addr) : (freeze g h h').get? b = if (g.get? b).isSome || (h.get? b).isNone then h'.get? b else none := by
  have sz : (freeze g h h').objs.size = h'.objs.size := by simp [freeze]
  by_cases hb : b < h'.objs.size
  · have e : (freeze g h h').objs[b]? = some (if (g.get? b).isSome || (h.get? b).isNone then h'.objs[b] else ⟨.none, none, .freed, #[]⟩) := by
      simp [freeze, hb]
    have e2 : h'.objs[b]? = some h'.objs[b] := by simp [hb]
    by_cases c : ((g.get? b).isSome || (h.get? b).isNone) = true
    · rw [if_pos c] at e ⊢
      conv => lhs; unfold Heap.get?
      conv => rhs; unfold Heap.get?
      rw [e, e2]
    · rw [if_neg c] at e ⊢
      conv => lhs; unfold Heap.get?
      rw [e]
  · have hb2 : h'.objs.size ≤ b := Nat.le_of_not_lt hb
    have e : (freeze g h h').objs[b]? = none := Array.getElem?_eq_none (sz ▸ hb2)
    have e2 : h'.objs[b]? = none := Array.getElem?_eq_none hb2
    have e3 : h'.get? b = none := by unfold Heap.get?; rw [e2]
    rw [e3]
    conv => lhs; unfold Heap.get?
    rw [e]
    simp
theorem Step.of_sub {g h h' : Heap} (k : Sub g h) (x : Sub h h') : Step g h (freeze g h h') h' where
  gg := fun b o e => by rw [freeze_get, e]; simpa using x b o (k b o e)
  hh := x
  gh := fun b o e => by
    rw [freeze_get] at e
    split at e
    · exact e
    · cases e
  new := fun b o e => by
    rw [freeze_get] at e
    split at e
    · rename_i q
      rw [Bool.or_eq_true] at q
      rcases q with q | q
      · left
        obtain ⟨o', ho⟩ := Option.isSome_iff_exists.mp q
        rw [x b o' (k b o' ho)] at e
        rw [ho]; exact e
      · right; simpa using q
    · cases e
theorem freeze_new {g h h' : Heap} {b : Addr} {o : Obj} (e : h'.get? b = some o) (n : h.get? b = none) : (freeze g h h').get? b = some o := by
  rw [freeze_get, n]; simpa using e
theorem freeze_old {g h h' : Heap} (k : Sub g h) (x : Sub h h') : Sub g (freeze g h h') := (Step.of_sub k x).gg

/-- the outcome of a piece of work that makes new things only -/
def Post (g : Heap) (s : Shared) (P : Heap → Value → Prop) (v : Value) (s' : Shared) : Prop :=
  Keeps s s' ∧ ∃ g', Step g s.heap g' s'.heap ∧ P g' v

theorem kp_refl {s : Shared} : Keeps s s := ⟨s.heap, s.toks, rfl, fun _ _ e => e⟩
theorem kp_trans {a b c : Shared} (x : Keeps a b) (y : Keeps b c) : Keeps a c := by
  obtain ⟨h1, t1, rfl, k1⟩ := x
  obtain ⟨h2, t2, rfl, k2⟩ := y
  exact ⟨h2, t2, rfl, fun b o e => k2 b o (k1 b o e)⟩
theorem kp_sub {a b : Shared} (x : Keeps a b) : Sub a.heap b.heap := by
  obtain ⟨h1, t1, rfl, k1⟩ := x; exact k1
theorem kp_tok {s : Shared} {t : Tok} : Keeps s { s with toks := t } := ⟨s.heap, t, rfl, fun _ _ e => e⟩
theorem kp_mk {s : Shared} {h' : Heap} {t : Tok} (k : Sub s.heap h') : Keeps s { s with heap := h', toks := t } := ⟨h', t, rfl, k⟩

theorem Post.here {g : Heap} {s : Shared} {P : Heap → Value → Prop} {v : Value} (k : Sub g s.heap) (h : P g v) : Post g s P v s := ⟨kp_refl, g, .rfl k, h⟩
theorem Post.tok {g : Heap} {s : Shared} {P : Heap → Value → Prop} {v : Value} {t : Tok} (k : Sub g s.heap) (h : P g v) : Post g s P v { s with toks := t } := ⟨kp_tok, g, .rfl k, h⟩
theorem Post.trans {g g' : Heap} {s s' s'' : Shared} {P : Heap → Value → Prop} {v : Value} (k : Keeps s s') (x : Step g s.heap g' s'.heap) (h : Post g' s' P v s'') : Post g s P v s'' := by
  obtain ⟨k2, g'', x2, h2⟩ := h
  exact ⟨kp_trans k k2, g'', x.trans x2, h2⟩
theorem Post.mono {g : Heap} {s s' : Shared} {P P' : Heap → Value → Prop} {v : Value} (h : Post g s P v s') (hp : ∀ g', P g' v → P' g' v) : Post g s P' v s' := by
  obtain ⟨k2, g'', x2, h2⟩ := h
  exact ⟨k2, g'', x2, hp _ h2⟩
end Mine

namespace Mine
open PySem PySem.W PyProof.Rows PySem.Calls
set_option Elab.async false
set_option maxRecDepth 100000
set_option linter.unusedVariables false

/-- the world of a law: the program, its globals and built-ins, and the heap behind the top -/
structure Cx where
  prog : Program
  w : World
  mg : Str → Option Value
  mb : Str → Option Value
  h0 : Heap
  hg : h0.Ns mainGlobals mg
  hb : h0.Ns builtinsNs mb
  hl : h0.NoLimit
  hbi : ∀ x : Str, x ≠ "__name__" → mb x = bootBuiltins x
abbrev Cx.M (X : Cx) : Model := model X.prog X.w

structure Room (A : Around) (k : Nat) : Prop where
  hh : A.handled = none
  depth : A.depth + k < recursionLimit
  units : A.units + 4 * k + 200 < cLine
theorem Room.in1 {A : Around} {k : Nat} (r : Room A (k + 1)) : Room A.in1 k := ⟨r.hh, by have := r.depth; rw [depth_in1]; omega, by have := r.units; rw [units_in1]; omega⟩
theorem Room.deeper {A : Around} {k : Nat} (r : Room A (k + 1)) (env : Env) : Room (A.deeper env) k :=
  ⟨r.hh, by have := r.depth; rw [depth_deeper]; omega, by have := r.units; rw [units_deeper]; omega⟩
theorem Room.le {A : Around} {k j : Nat} (r : Room A k) (h : j ≤ k) : Room A j := ⟨r.hh, by have := r.depth; omega, by have := r.units; omega⟩
theorem Room.un {A : Around} {k : Nat} (r : Room A k) : A.units + 200 < cLine := by have := r.units; omega
theorem Room.room {A : Around} {k : Nat} (r : Room A k) : A.depth < recursionLimit := by have := r.depth; omega

structure EnvOk (env : Env) (sc : Scope) : Prop where
  scope : env.scope = sc
  kind : sc.kind = .function
  glob : env.globals = mainGlobals
  bi : env.builtins = builtinsNs
  cells : ∀ x, sc.names.lookup x = some .cell → (env.cells.lookup x).isSome = true
theorem EnvOk.toEnvOk {env : Env} {sc : Scope} (h : EnvOk env sc) : EnvOk env sc := h
theorem EnvOk.ek {env : Env} {sc : Scope} (h : EnvOk env sc) : env.scope.kind = .function := h.scope ▸ h.kind
theorem EnvOk.kindOf {env : Env} {sc : Scope} (h : EnvOk env sc) {x : Str} {r} (e : sc.names.lookup x = r) : env.kindOf x = r := by
  show env.scope.names.lookup x = r; rw [h.scope]; exact e
theorem EnvOk.plain {env : Env} {sc : Scope} (h : EnvOk env sc) : (env.scope.kind == .class || (env.scope.kind == .module && env.locals != env.globals)) = false := by rw [h.ek]; rfl
theorem EnvOk.quiet {env : Env} {sc : Scope} (h : EnvOk env sc) : interactive env = false := by unfold interactive; rw [h.ek]; rfl

/-- a name of the frame holds a value -/
def VarIs (env : Env) (h : Heap) (x : Str) (v : Value) : Prop :=
  (env.kindOf x = some .local ∧ ∃ m, h.Ns env.locals m ∧ m x = some v) ∨
  ((env.kindOf x = some .cell ∨ env.kindOf x = some .free) ∧ ∃ c, env.cells.lookup x = some c ∧ h.IsCell c (some v))
theorem VarIs.sub {env : Env} {g h : Heap} {x : Str} {v : Value} (k : Sub g h) : VarIs env g x v → VarIs env h x v
  | .inl ⟨a, m, b, c⟩ => .inl ⟨a, m, b.keeps k, c⟩
  | .inr ⟨a, c, b, d⟩ => .inr ⟨a, c, b, d.keeps k⟩

/-- what a name holds: a datum that stands still, or an object of the frame's own that may still be turned -/
inductive LV where
  | dat (d : Dat)
  | val (u : Value)
  | obj (P : Addr → Obj → Heap → Prop) (mono : ∀ a o g g', Sub g g' → P a o g → P a o g')
abbrev Sto := List (Str × LV)
structure StoIn (σ : Sto) (env : Env) (g : Heap) (s : Shared) : Prop where
  sub : Sub g s.heap
  var : ∀ x d, σ.lookup x = some (.dat d) → ∃ v, VarIs env s.heap x v ∧ Rep g v d
  val : ∀ x u, σ.lookup x = some (.val u) → VarIs env s.heap x u
  obj : ∀ x P mp, σ.lookup x = some (.obj P mp) → ∃ a o, VarIs env s.heap x (.ref a) ∧ s.heap.get? a = some o ∧ P a o g
theorem StoIn.step {σ : Sto} {env : Env} {g g' : Heap} {s s' : Shared} (x : StoIn σ env g s) (t : Step g s.heap g' s'.heap) : StoIn σ env g' s' :=
  ⟨t.gh, fun y d e => let ⟨v, a, b⟩ := x.var y d e; ⟨v, a.sub t.hh, b.sub t.gg⟩, fun y u e => (x.val y u e).sub t.hh, fun y P mp e => let ⟨a, o, h1, h2, h3⟩ := x.obj y P mp e; ⟨a, o, h1.sub t.hh, t.hh _ _ h2, mp _ _ _ _ t.gg h3⟩⟩

/-- what an expression yields, said of its value and the heap that stands still -/
def EvP (X : Cx) (k : Nat) (sc : Scope) (σ : Sto) (e : Expr) (P : Heap → Value → Prop) : Prop :=
  ∀ (A : Around) (env : Env) (g : Heap) (s : Shared) (E : Value → Shared → Prop), Room A k → EnvOk env sc → Sub X.h0 g → StoIn σ env g s →
    wpAny X.M A (eval e env) (Post g s P) E s
abbrev Ev (X : Cx) (k : Nat) (sc : Scope) (σ : Sto) (e : Expr) (d : Dat) : Prop := EvP X k sc σ e fun g v => Rep g v d
def PostL (g : Heap) (s : Shared) (ds : List Dat) (vs : List Value) (s' : Shared) : Prop := Keeps s s' ∧ ∃ g', Step g s.heap g' s'.heap ∧ RepAll g' vs ds
def plainE : Expr → Bool
  | .Starred .. => false
  | _ => true
def EvL (X : Cx) (k : Nat) (sc : Scope) (σ : Sto) (es : List Expr) (ds : List Dat) : Prop :=
  es.all plainE = true ∧ ∀ (A : Around) (env : Env) (g : Heap) (s : Shared) (E : Value → Shared → Prop) (pos : Pos), Room A k → EnvOk env sc → Sub X.h0 g → StoIn σ env g s →
    wpAny X.M A (spliced (backTo pos (starEach es env))) (PostL g s ds) E s
/-- the truth of an expression -/
def EvT (X : Cx) (k : Nat) (sc : Scope) (σ : Sto) (e : Expr) (b : Bool) : Prop :=
  ∀ (A : Around) (env : Env) (g : Heap) (s : Shared) (E : Value → Shared → Prop), Room A k → EnvOk env sc → Sub X.h0 g → StoIn σ env g s →
    wpAny X.M A (isTrue e env (eval e env)) (fun c s' => c = b ∧ Keeps s s' ∧ ∃ g', Step g s.heap g' s'.heap) E s

/-- a piece of work that is done from values to a value -/
def Does (X : Cx) (k : Nat) (t : Sem Value) (g : Heap) (s : Shared) (P : Heap → Value → Prop) : Prop :=
  ∀ (A : Around) (E : Value → Shared → Prop), Room A k → wpAny X.M A t (Post g s P) E s

section
variable {X : Cx} {k : Nat} {sc : Scope} {σ : Sto}

theorem EvP.mono {e : Expr} {P P' : Heap → Value → Prop} (h : EvP X k sc σ e P) (hp : ∀ g v, P g v → P' g v) : EvP X k sc σ e P' :=
  fun A env g s E r o b q => wpAny_mono (h A env g s E r o b q) (fun _ _ x => x.mono fun g' => hp g' _) fun _ _ x => x
theorem Ev.to {e : Expr} {d d' : Dat} (h : Ev X k sc σ e d) (q : d = d') : Ev X k sc σ e d' := q ▸ h

/-- sequencing -/
theorem wp_seq {α : Type} {A : Around} {E : Value → Shared → Prop} {s : Shared} {t : Sem α} {Q Q' : α → Shared → Prop} (h : wpAny X.M A t Q E s) (n : ∀ v s', Q v s' → Q' v s') : wpAny X.M A t Q' E s :=
  wpAny_mono h n fun _ _ y => y
theorem wp_ev {A : Around} {E : Value → Shared → Prop} {g : Heap} {s : Shared} {t : Sem Value} {P : Heap → Value → Prop} {Q : Value → Shared → Prop} (h : wpAny X.M A t (Post g s P) E s)
    (n : ∀ v g' s', Keeps s s' → Step g s.heap g' s'.heap → P g' v → Q v s') : wpAny X.M A t Q E s :=
  wpAny_mono h (fun v s' ⟨k1, g', x1, p1⟩ => n v g' s' k1 x1 p1) fun _ _ y => y
theorem wp_evs {A : Around} {E : Value → Shared → Prop} {g : Heap} {s : Shared} {t : Sem (List Value)} {ds : List Dat} {Q : List Value → Shared → Prop} (h : wpAny X.M A t (PostL g s ds) E s)
    (n : ∀ v g' s', Keeps s s' → Step g s.heap g' s'.heap → RepAll g' v ds → Q v s') : wpAny X.M A t Q E s :=
  wpAny_mono h (fun v s' ⟨k1, g', x1, p1⟩ => n v g' s' k1 x1 p1) fun _ _ y => y
/-- the last step of a chain -/
theorem wp_fin {A : Around} {E : Value → Shared → Prop} {g g' : Heap} {s s' : Shared} {t : Sem Value} {P : Heap → Value → Prop} (k1 : Keeps s s') (x1 : Step g s.heap g' s'.heap) (h : wpAny X.M A t (Post g' s' P) E s') :
    wpAny X.M A t (Post g s P) E s' := wpAny_mono h (fun _ _ y => .trans k1 x1 y) fun _ _ y => y

theorem Ev.local {x : Str} {pos : Pos} {d : Dat} (e : σ.lookup x = some (.dat d)) (hd : (x == ("__debug__" : Str)) = false := by decide) (hn : (x == ("__classdict__" : Str)) = false := by decide) : Ev X k sc σ (.Name x pos) d := by
  intro A env g s E r o b q
  obtain ⟨v, hv, hr⟩ := q.var x d e
  rcases hv with ⟨hl, m, ns, hm⟩ | ⟨hl, c, hc, hv⟩
  · exact wpAny_Name (wpAny_loadName_local o.ek hl ns hm (Post.here q.sub hr)) hd
  · rcases hl with hl | hl
    · exact wpAny_Name (wpAny_loadName_cell o.ek hl hc hv (Post.here q.sub hr)) hd
    · exact wpAny_Name (wpAny_loadName_free o.ek hl hc hv (Post.here q.sub hr) hn) hd

/-- a name that holds a value that is no datum -/
theorem EvP.localV {x : Str} {pos : Pos} {u : Value} (e : σ.lookup x = some (.val u)) (hd : (x == ("__debug__" : Str)) = false := by decide) (hn : (x == ("__classdict__" : Str)) = false := by decide) : EvP X k sc σ (.Name x pos) fun _ v => v = u := by
  intro A env g s E r o b q
  rcases q.val x u e with ⟨hl, m, ns, hm⟩ | ⟨hl, c, hc, hv⟩
  · exact wpAny_Name (wpAny_loadName_local o.ek hl ns hm (Post.here q.sub rfl)) hd
  · rcases hl with hl | hl
    · exact wpAny_Name (wpAny_loadName_cell o.ek hl hc hv (Post.here q.sub rfl)) hd
    · exact wpAny_Name (wpAny_loadName_free o.ek hl hc hv (Post.here q.sub rfl) hn) hd

theorem EvP.global {x : Str} {pos : Pos} {v : Value} (hk : sc.names.lookup x = some .globalImplicit) (e : X.mg x = some v) (hd : (x == ("__debug__" : Str)) = false := by decide) :
    EvP X k sc σ (.Name x pos) fun _ u => u = v := by
  intro A env g s E r o b q
  refine Name_function_global o.ek (o.kindOf hk) (loadGlobal_global (o.glob ▸ X.hg.keeps (b.trans q.sub)) e (Post.here q.sub rfl)) hd
theorem EvP.builtin {x : Str} {pos : Pos} {v : Value} (hk : sc.names.lookup x = some .globalImplicit) (e : X.mg x = none) (hv : bootBuiltins x = some v) (hn : x ≠ "__name__") (hd : (x == ("__debug__" : Str)) = false := by decide) :
    EvP X k sc σ (.Name x pos) fun _ u => u = v := by
  intro A env g s E r o b q
  refine Name_function_global o.ek (o.kindOf hk) (loadGlobal_builtin (o.glob ▸ X.hg.keeps (b.trans q.sub)) e (o.bi ▸ X.hb.keeps (b.trans q.sub)) ((X.hbi x hn).trans hv) (Post.here q.sub rfl)) hd

theorem Ev.int {i : Int} {n : Nat} {pos : Pos} : Ev X k sc σ (.Constant (.int i) n pos) (.int i) := fun _ _ _ _ _ _ _ _ q => wpAny_Constant_int (Post.tok q.sub (.int _ _))
theorem Ev.str {x : Str} {n : Nat} {pos : Pos} : Ev X k sc σ (.Constant (.str x) n pos) (.str x) := fun _ _ _ _ _ _ _ _ q => wpAny_Constant_str (Post.tok q.sub (.str _ _))
theorem Ev.none_ {n : Nat} {pos : Pos} : Ev X k sc σ (.Constant .none n pos) .none := fun _ _ _ _ _ _ _ _ q => wpAny_Constant_none (Post.here q.sub .none)

/-- the tail of an operation on two data -/
def Op2 (X : Cx) (k : Nat) (f : Value → Value → Sem Value) (a b c : Dat) : Prop :=
  ∀ (g : Heap) (s : Shared) (u v : Value), Sub X.h0 g → Sub g s.heap → Rep g u a → Rep g v b → Does X k (f u v) g s fun g' r => Rep g' r c

theorem Ev.bin {l r : Expr} {op : Operator} {pos : Pos} {a b c : Dat} (hl : Ev X k sc σ l a) (hr : Ev X k sc σ r b) (ho : Op2 X k (binaryOp op) a b c) : Ev X k sc σ (.BinOp l op r pos) c := by
  intro A env g s E rm o bs q
  refine wpAny_BinOp (wp_ev (hl A env g s E rm o bs q) fun u g1 s1 k1 x1 p1 => wp_ev (hr A env g1 s1 E rm o (bs.trans x1.gg) (q.step x1)) fun v g2 s2 k2 x2 p2 => ?_)
  exact wp_fin (kp_trans k1 k2) (x1.trans x2) (ho g2 s2 u v ((bs.trans x1.gg).trans x2.gg) x2.gh (p1.sub x2.gg) p2 A E rm)

theorem Ev.cmp {l r : Expr} {op : CmpOp} {pos : Pos} {a b c : Dat} (hl : Ev X k sc σ l a) (hr : Ev X k sc σ r b) (ho : Op2 X k (compareOp op) a b c) (hm : behindInMarks op r = false := by with_unfolding_all rfl) : Ev X k sc σ (.Compare l [op] [r] pos) c := by
  intro A env g s E rm o bs q
  refine wpAny_Compare1 (wp_ev (hl A env g s E rm o bs q) fun u g1 s1 k1 x1 p1 => wp_ev (hr A env g1 s1 E rm o (bs.trans x1.gg) (q.step x1)) fun v g2 s2 k2 x2 p2 => ?_) hm
  exact wp_fin (kp_trans k1 k2) (x1.trans x2) (ho g2 s2 u v ((bs.trans x1.gg).trans x2.gg) x2.gh (p1.sub x2.gg) p2 A E rm)

theorem EvT.cmp {l r : Expr} {op : CmpOp} {pos : Pos} {a b : Dat} {c : Bool} (hl : Ev X k sc σ l a) (hr : Ev X k sc σ r b) (ho : Op2 X k (compareOp op) a b (.bool c)) (hm : behindInMarks op r = false := by with_unfolding_all rfl) : EvT X k sc σ (.Compare l [op] [r] pos) c := by
  intro A env g s E rm o bs q
  refine wpAny_isTrue_Compare1 (wp_ev (hl A env g s E rm o bs q) fun u g1 s1 k1 x1 p1 => wp_ev (hr A env g1 s1 E rm o (bs.trans x1.gg) (q.step x1)) fun v g2 s2 k2 x2 p2 => ?_) hm
  refine wp_ev (ho g2 s2 u v ((bs.trans x1.gg).trans x2.gg) x2.gh (p1.sub x2.gg) p2 A E rm) fun c g3 s3 k3 x3 p3 => ?_
  cases p3
  exact wpAny_truthy_bool ⟨rfl, kp_trans k1 (kp_trans k2 k3), g3, x1.trans (x2.trans x3)⟩

/-- the truth of a datum -/
def Dat.isTrue : Dat → Bool
  | .none => false
  | .bool b => b
  | .int i => i != 0
  | .str x => x.length != 0
  | .bytes b => b.size != 0
  | .tuple ds => !ds.isEmpty
  | .list ds => !ds.isEmpty
end
end Mine

namespace Mine
open PySem PySem.W PyProof.Rows PySem.Calls
set_option Elab.async false
set_option maxRecDepth 100000
set_option linter.unusedVariables false
section
variable {X : Cx} {k : Nat} {sc : Scope} {σ : Sto}

theorem Does.tok {t : Sem Value} {g : Heap} {s : Shared} {P : Heap → Value → Prop} (kk : Sub g s.heap)
    (h : ∀ (A : Around) (E : Value → Shared → Prop) (Q : Value → Shared → Prop), Room A k → (∀ v tk, P g v → Q v { s with toks := tk }) → wpAny X.M A t Q E s) : Does X k t g s P :=
  fun A E r => h A E _ r fun _ _ p => Post.tok kk p

/-- int by int -/
theorem op_add {i j : Int} : Op2 X k (binaryOp .Add) (.int i) (.int j) (.int (i + j)) := by
  intro g s u v b0 kk hu hv; cases hu; cases hv
  exact Does.tok kk fun A E Q r h => add_int (h _ _ (.int _ _))
theorem op_sub {i j : Int} : Op2 X k (binaryOp .Sub) (.int i) (.int j) (.int (i - j)) := by
  intro g s u v b0 kk hu hv; cases hu; cases hv
  exact Does.tok kk fun A E Q r h => sub_int (h _ _ (.int _ _))
theorem op_mod {i j : Int} (hj : j ≠ 0) : Op2 X k (binaryOp .Mod) (.int i) (.int j) (.int (i.fmod j)) := by
  intro g s u v b0 kk hu hv; cases hu; cases hv
  exact Does.tok kk fun A E Q r h => mod_int hj (h _ _ (.int _ _))
theorem op_div {i j : Int} (hj : j ≠ 0) (hp : Builtin.divisionGoesByPylong i j = false) : Op2 X k (binaryOp .FloorDiv) (.int i) (.int j) (.int (i.fdiv j)) := by
  intro g s u v b0 kk hu hv; cases hu; cases hv
  exact Does.tok kk fun A E Q r h => floordiv_int hj (h _ _ (.int _ _)) (Or.inl hp)
theorem op_eq {i j : Int} : Op2 X k (compareOp .Eq) (.int i) (.int j) (.bool (i == j)) := by
  intro g s u v b0 kk hu hv; cases hu; cases hv
  exact Does.tok kk fun A E Q r h => PyProof.Rows.eq_int (h _ _ (.bool _))
theorem op_ne {i j : Int} : Op2 X k (compareOp .NotEq) (.int i) (.int j) (.bool (i != j)) := by
  intro g s u v b0 kk hu hv; cases hu; cases hv
  exact Does.tok kk fun A E Q r h => PyProof.Rows.ne_int (h _ _ (.bool _))
theorem op_lt {i j : Int} : Op2 X k (compareOp .Lt) (.int i) (.int j) (.bool (decide (i < j))) := by
  intro g s u v b0 kk hu hv; cases hu; cases hv
  exact Does.tok kk fun A E Q r h => PyProof.Rows.lt_int (h _ _ (.bool _))
theorem op_gt {i j : Int} : Op2 X k (compareOp .Gt) (.int i) (.int j) (.bool (decide (j < i))) := by
  intro g s u v b0 kk hu hv; cases hu; cases hv
  exact Does.tok kk fun A E Q r h => PyProof.Rows.gt_int (h _ _ (.bool _))
theorem Ev.neg {e : Expr} {pos : Pos} {i : Int} (h : Ev X k sc σ e (.int i)) : Ev X k sc σ (.UnaryOp .USub e pos) (.int (-i)) := by
  intro A env g s E rm o bs q
  refine wpAny_UnaryOp (wp_ev (h A env g s E rm o bs q) fun u g1 s1 k1 x1 p1 => ?_)
  cases p1
  exact PyProof.Rows.neg_int (.trans k1 x1 (Post.tok x1.gh (.int _ _)))

/-- truth -/
def Big (d : Dat) : Prop := match d with
  | .str x => (x.length : Int) < 2 ^ 63
  | .bytes _ => False
  | .tuple ds => (ds.length : Int) < 2 ^ 63
  | .list ds => (ds.length : Int) < 2 ^ 63
  | .none => False
  | _ => True
theorem truthy_dat {A : Around} {E : Value → Shared → Prop} {Q : Bool → Shared → Prop} {s : Shared} {g : Heap} {v : Value} {d : Dat} (kk : Sub g s.heap) (r : Rep g v d) (hb : Big d)
    (h : ∀ tk, Q (Dat.isTrue d) { s with toks := tk }) : wpAny X.M A (truthy v) Q E s := by
  cases r with
  | none => exact hb.elim
  | bool b => exact wpAny_truthy_bool (h s.toks)
  | int i t => exact P.truthy_int (h s.toks)
  | str x t =>
    refine P.truthy_str (by have : (x.length : Int) < 2 ^ 63 := hb; omega) ?_
    have e : ((x.length : Int) != 0) = (x.length != 0) := by
      rcases Nat.eq_zero_or_pos x.length with h0 | h0
      · rw [h0]; rfl
      · have h1 : (x.length : Int) ≠ 0 := by omega
        have h2 : x.length ≠ 0 := by omega
        rw [bne_iff_ne.mpr h1, bne_iff_ne.mpr h2]
    rw [e]; exact h (s.toks + 1 + 1)
  | bytes b t => exact hb.elim
  | tuple i r =>
    rename_i a vs ds
    have hb' : (ds.length : Int) < 2 ^ 63 := hb
    have hl := r.length
    refine truthy_tuple (isTup_sub kk i) (by simpa [hl] using hb') ?_
    have := h (s.toks + 1 + 1)
    have e : (!vs.toArray.isEmpty) = Dat.isTrue (.tuple ds) := by
      cases vs <;> cases ds <;> simp_all [Dat.isTrue]
    rw [e]; exact this
  | list i r =>
    rename_i a vs ds
    have hb' : (ds.length : Int) < 2 ^ 63 := hb
    have hl := r.length
    refine wpAny_truthy_list (isList_sub kk i) (by simpa [hl] using hb') ?_
    have := h (s.toks + 1 + 1)
    have e : (!vs.toArray.isEmpty) = Dat.isTrue (.list ds) := by
      cases vs <;> cases ds <;> simp_all [Dat.isTrue]
    rw [e]; exact this

theorem EvT.val {e : Expr} {d : Dat} (h : Ev X k sc σ e d) (hb : Big d) (he : ∀ env whole, isTrue e env whole = (do let v ← whole; standAt e.pos; holding [v] (truthy v)) := by intro _ _; rfl) : EvT X k sc σ e (Dat.isTrue d) := by
  intro A env g s E rm o bs q
  exact wpAny_isTrue_value (wp_ev (h A env g s E rm o bs q) fun u g1 s1 k1 x1 p1 => truthy_dat x1.gh p1 hb fun tk => ⟨rfl, kp_trans k1 kp_tok, g1, x1⟩) (he _ _)
theorem EvT.not {e : Expr} {pos : Pos} {b : Bool} (h : EvT X k sc σ e b) : EvT X k sc σ (.UnaryOp .Not e pos) (!b) := by
  intro A env g s E rm o bs q
  exact wpAny_isTrue_Not (wp_seq (h A env g s E rm o bs q) fun c s' ⟨e, r⟩ => ⟨by rw [e], r⟩)
/-- and, or in a test, of two parts -/
theorem EvT.and {e f : Expr} {pos : Pos} {a b : Bool} (h : EvT X k sc σ e a) (h2 : a = true → EvT X k sc σ f b) : EvT X k sc σ (.BoolOp .And [e, f] pos) (a && b) := by
  intro A env g s E rm o bs q
  refine wpAny_isTrue_BoolOp (wpAny_allTrue_And_cons (wp_seq (h A env g s E rm o bs q) fun c s1 ⟨ec, k1, g1, x1⟩ => ?_))
  subst ec
  cases c with
  | false => simp only [Bool.false_eq_true, if_false]; exact ⟨rfl, k1, g1, x1⟩
  | true =>
    simp only [if_true]
    refine wpAny_allTrue_And_cons (wp_seq (h2 rfl A env g1 s1 E rm o (bs.trans x1.gg) (q.step x1)) fun c s2 ⟨ec, k2, g2, x2⟩ => ?_)
    subst ec
    cases c with
    | false => simp only [Bool.false_eq_true, if_false]; exact ⟨rfl, kp_trans k1 k2, g2, x1.trans x2⟩
    | true => simp only [if_true]; exact wpAny_allTrue_And_nil ⟨rfl, kp_trans k1 k2, g2, x1.trans x2⟩
theorem EvT.or {e f : Expr} {pos : Pos} {a b : Bool} (h : EvT X k sc σ e a) (h2 : a = false → EvT X k sc σ f b) : EvT X k sc σ (.BoolOp .Or [e, f] pos) (a || b) := by
  intro A env g s E rm o bs q
  refine wpAny_isTrue_BoolOp (wpAny_allTrue_Or_cons (wp_seq (h A env g s E rm o bs q) fun c s1 ⟨ec, k1, g1, x1⟩ => ?_))
  subst ec
  cases c with
  | true => simp only [if_true]; exact ⟨rfl, k1, g1, x1⟩
  | false =>
    simp only [Bool.false_eq_true, if_false]
    refine wpAny_allTrue_Or_cons (wp_seq (h2 rfl A env g1 s1 E rm o (bs.trans x1.gg) (q.step x1)) fun c s2 ⟨ec, k2, g2, x2⟩ => ?_)
    subst ec
    cases c with
    | true => simp only [if_true]; exact ⟨rfl, kp_trans k1 k2, g2, x1.trans x2⟩
    | false => simp only [Bool.false_eq_true, if_false]; exact wpAny_allTrue_Or_nil ⟨rfl, kp_trans k1 k2, g2, x1.trans x2⟩
theorem EvT.to {e : Expr} {b c : Bool} (h : EvT X k sc σ e b) (q : b = c) : EvT X k sc σ e c := q ▸ h

/-- lists of expressions -/
theorem starEach_plain {e : Expr} (h : plainE e = true) (rest : List Expr) (env : Env) : starEach (e :: rest) env = (false, eval e env) :: starEach rest env := by
  cases e <;> first | rfl | cases h
theorem plain_any (pos : Pos) (env : Env) : ∀ {es : List Expr}, es.all plainE = true → (backTo pos (starEach es env)).any (·.1) = false
  | [], _ => rfl
  | e :: es, h => by
    rw [List.all_cons, Bool.and_eq_true] at h
    rw [starEach_plain h.1]
    show (false || (backTo pos (starEach es env)).any (·.1)) = false
    rw [plain_any pos env h.2]; rfl
theorem EvL.nil : EvL X k sc σ [] [] := ⟨rfl, fun _ _ g s _ _ _ _ _ q => wpAny_items_nil ⟨kp_refl, g, .rfl q.sub, .nil⟩⟩
theorem EvL.cons {e : Expr} {es : List Expr} {d : Dat} {ds : List Dat} (h : Ev X k sc σ e d) (r : EvL X k sc σ es ds) (hp : plainE e = true := by rfl) : EvL X k sc σ (e :: es) (d :: ds) := by
  refine ⟨by rw [List.all_cons, hp, r.1]; rfl, ?_⟩
  intro A env g s E pos rm o bs q
  rw [starEach_plain hp]
  show wpAny _ _ (spliced ((false, eval e env) :: backTo pos (starEach es env))) _ _ _
  refine spliced_cons (wp_ev (h A env g s E rm o bs q) fun u g1 s1 k1 x1 p1 => wp_evs (r.2 A env g1 s1 E pos rm o (bs.trans x1.gg) (q.step x1)) fun us g2 s2 k2 x2 p2 => ?_)
  exact ⟨kp_trans k1 k2, g2, x1.trans x2, .cons (p1.sub x2.gg) p2⟩

theorem step_push {g : Heap} {s s' : Shared} {o : Obj} {g' : Heap} (x : Step g s.heap g' s'.heap) : Step g s.heap (freeze g' s'.heap (s'.heap.push o)) (s'.heap.push o) :=
  x.trans (.of_sub x.gh (Sub.push .rfl o))
theorem freeze_push {g h : Heap} {o : Obj} (hf : o.isFreed = false) : (freeze g h (h.push o)).get? h.objs.size = some o :=
  freeze_new (Heap.get?_push_size _ hf) (by
    cases z : h.get? h.objs.size with
    | none => rfl
    | some o' => exact absurd (Heap.lt_size z) (Nat.lt_irrefl _))

theorem post_newList {g g' : Heap} {s s' : Shared} {vs : List Value} {ds : List Dat} (k1 : Keeps s s') (x1 : Step g s.heap g' s'.heap) (r : RepAll g' vs ds) :
    Post g s (fun g v => Rep g v (.list ds)) (.ref s'.heap.objs.size) { s' with heap := s'.heap.push { cls := .type "list", data := .seq vs.toArray } } :=
  ⟨kp_trans k1 (kp_mk (Sub.push .rfl _)), _, step_push x1, .list ⟨_, freeze_push rfl⟩ (r.sub (freeze_old x1.gh (Sub.push .rfl _)))⟩
theorem post_newTuple {g g' : Heap} {s s' : Shared} {vs : List Value} {ds : List Dat} (k1 : Keeps s s') (x1 : Step g s.heap g' s'.heap) (r : RepAll g' vs ds) :
    Post g s (fun g v => Rep g v (.tuple ds)) (.ref s'.heap.objs.size) { s' with heap := s'.heap.push { cls := .type "tuple", data := .seq vs.toArray } } :=
  ⟨kp_trans k1 (kp_mk (Sub.push .rfl _)), _, step_push x1, .tuple ⟨_, freeze_push rfl⟩ (r.sub (freeze_old x1.gh (Sub.push .rfl _)))⟩
theorem newList_post {A : Around} {E : Value → Shared → Prop} {g : Heap} {s : Shared} {vs : List Value} {ds : List Dat} (kk : Sub g s.heap) (r : RepAll g vs ds) (hz : ds.length ≤ sizeLine) :
    wpAny X.M A (newList vs) (Post g s fun g v => Rep g v (.list ds)) E s :=
  wpAny_newObj_type (post_newList kp_refl (.rfl kk) r) (by show vs.toArray.size ≤ sizeLine; rw [List.size_toArray, r.length]; exact hz)
theorem newTuple_post {A : Around} {E : Value → Shared → Prop} {g : Heap} {s : Shared} {vs : List Value} {ds : List Dat} (kk : Sub g s.heap) (r : RepAll g vs ds) (hz : ds.length ≤ sizeLine) :
    wpAny X.M A (newTuple vs) (Post g s fun g v => Rep g v (.tuple ds)) E s :=
  wpAny_newObj_type (post_newTuple kp_refl (.rfl kk) r) (by show vs.toArray.size ≤ sizeLine; rw [List.size_toArray, r.length]; exact hz)

theorem Ev.list {es : List Expr} {ds : List Dat} {pos : Pos} (h : EvL X k sc σ es ds) (hz : ds.length ≤ sizeLine := by exact of_decide_eq_true (by rfl)) : Ev X k sc σ (.List es pos) (.list ds) := by
  intro A env g s E rm o bs q
  exact List_ (wp_evs (h.2 A env g s E pos rm o bs q) fun us g1 s1 k1 x1 p1 => wp_fin k1 x1 (newList_post x1.gh p1 hz))
theorem Ev.tuple {es : List Expr} {ds : List Dat} {n : Nat} {pos : Pos} (h : EvL X k sc σ es ds) (hz : ds.length ≤ sizeLine := by exact of_decide_eq_true (by rfl)) : Ev X k sc σ (.Tuple es n pos) (.tuple ds) := by
  intro A env g s E rm o bs q
  exact Tuple_ (wp_evs (h.2 A env g s E pos rm o bs q) fun us g1 s1 k1 x1 p1 => wp_fin k1 x1 (newTuple_post x1.gh p1 hz))

/-- an item at a place -/
theorem Ev.item {value slice : Expr} {pos : Pos} {ds : List Dat} {d : Dat} {i : Int} (hv : Ev X k sc σ value (.list ds)) (hi : Ev X k sc σ slice (.int i)) (h0 : 0 ≤ i) (h1 : i < 2 ^ 63) (hd : ds[i.toNat]? = some d)
    (hs : ∀ a i u, subscripted slice false (.ref a) (.int i u) = operate [.ref a, .int i u] (getItem (.ref a) (.int i u)) := by intro _ _ _; with_unfolding_all rfl) :
    Ev X k sc σ (.Subscript value slice pos) d := by
  intro A env g s E rm o bs q
  refine Subscript_ (wp_ev (hv A env g s E rm o bs q) fun u g1 s1 k1 x1 p1 => wp_ev (hi A env g1 s1 E rm o (bs.trans x1.gg) (q.step x1)) fun v g2 s2 k2 x2 p2 => ?_)
  cases p2
  cases p1 with
  | list il r =>
    obtain ⟨x, hx, hr⟩ := r.get hd
    have il2 := isList_sub (x1.gh.trans x2.hh) il
    refine tail_any il2.typeIs slot_list_getitem.lookup (wpAny_getItem_list il2 h0 h1 (by simpa using hx) ?_) (hs _ _ _)
    exact .trans (kp_trans k1 k2) (x1.trans x2) (Post.here x2.gh (hr.sub x2.gg))
theorem Ev.itemT {value slice : Expr} {pos : Pos} {ds : List Dat} {d : Dat} {i : Int} {j : Nat} (hv : Ev X k sc σ value (.tuple ds)) (hi : Ev X k sc σ slice (.int i)) (h0 : -(2 ^ 63) ≤ i) (h1 : i < 2 ^ 63) (hj : seqIndex? i ds.length = some j) (hd : ds[j]? = some d)
    (hs : ∀ a i u, subscripted slice false (.ref a) (.int i u) = operate [.ref a, .int i u] (getItem (.ref a) (.int i u)) := by intro _ _ _; with_unfolding_all rfl) :
    Ev X k sc σ (.Subscript value slice pos) d := by
  intro A env g s E rm o bs q
  refine Subscript_ (wp_ev (hv A env g s E rm o bs q) fun u g1 s1 k1 x1 p1 => wp_ev (hi A env g1 s1 E rm o (bs.trans x1.gg) (q.step x1)) fun v g2 s2 k2 x2 p2 => ?_)
  cases p2
  cases p1 with
  | tuple il r =>
    obtain ⟨x, hx, hr⟩ := r.get hd
    have il2 := isTup_sub (x1.gh.trans x2.hh) il
    refine item_tupleT il2 h0 h1 (by rw [r.length]; exact hj) hx ?_ (hs _ _ _)
    exact .trans (kp_trans k1 k2) (x1.trans x2) (Post.here x2.gh (hr.sub x2.gg))
end
end Mine

namespace Mine
open PySem PySem.W PyProof.Rows PySem.Calls
set_option Elab.async false
set_option maxRecDepth 100000
set_option linter.unusedVariables false
section
variable {X : Cx} {k : Nat} {sc : Scope} {σ : Sto}

/-- a tree over values, done on data -/
def OpN (X : Cx) (k : Nat) (t : List Value → Sem Value) (ds : List Dat) (P : Heap → Value → Prop) : Prop :=
  ∀ (g : Heap) (s : Shared) (vs : List Value), Sub X.h0 g → Sub g s.heap → RepAll g vs ds → Does X k (t vs) g s P

theorem evalArgs_evs {A : Around} {env : Env} {g : Heap} {s : Shared} {E : Value → Shared → Prop} {f : Value} {pos : Pos} {e : Expr} {es : List Expr} {ds : List Dat} {Q : Args → Shared → Prop}
    (hes : EvL X k sc σ (e :: es) ds) (rm : Room A k) (o : EnvOk env sc) (bs : Sub X.h0 g) (q : StoIn σ env g s)
    (h : ∀ vs g' s', Keeps s s' → Step g s.heap g' s'.heap → RepAll g' vs ds → Q ⟨vs, []⟩ s') :
    wpAny X.M A (evalArgs f true (backTo pos (starEach (e :: es) env)) []) Q E s := by
  have hp : plainE e = true := by have := hes.1; rw [List.all_cons, Bool.and_eq_true] at this; exact this.1
  have w := hes.2 A env g s E pos rm o bs q
  rw [starEach_plain hp] at w ⊢
  exact evalArgs_plain (wp_evs w h)

theorem callWith_seq {A : Around} {env : Env} {g : Heap} {s : Shared} {E : Value → Shared → Prop} {f : Value} {pos : Pos} {e : Expr} {es : List Expr} {ds : List Dat} {P : Heap → Value → Prop}
    (hes : EvL X k sc σ (e :: es) ds) (rm : Room A k) (o : EnvOk env sc) (bs : Sub X.h0 g) (q : StoIn σ env g s)
    (hk : ∀ h, Sub X.h0 h → ∃ kp, (kp = Keeper.frame ∨ kp = Keeper.machine ∨ kp = Keeper.boundFrame) ∧ Looks X.M h (keeperOf f) kp) (hop : OpN X k (fun vs => call f vs) ds P) :
    wpAny X.M A (callWith pos f [] (backTo pos (starEach (e :: es) env)) []) (Post g s P) E s := by
  refine callWith_of (P := fun h => Sub X.h0 h) (by rw [plain_any pos env hes.1]; rfl) hk (evalArgs_evs hes rm o bs q fun vs g1 s1 k1 x1 p1 => ?_)
  exact ⟨(bs.trans x1.gg).trans x1.gh, wp_fin k1 x1 (hop g1 s1 vs (bs.trans x1.gg) x1.gh p1 A E rm)⟩

theorem EvP.callB {f : Str} {p pos : Pos} {id : String} {e : Expr} {es : List Expr} {ds : List Dat} {P : Heap → Value → Prop} (hf : EvP X k sc σ (.Name f p) fun _ u => u = .builtin id) (hes : EvL X k sc σ (e :: es) ds)
    (hop : OpN X k (fun vs => call (.builtin id) vs) ds P) : EvP X k sc σ (.Call (.Name f p) (e :: es) [] pos) P := by
  intro A env g s E rm o bs q
  refine wpAny_Call_NameR (wp_ev (hf A env g s E rm o bs q) fun u g1 s1 k1 x1 p1 => ?_)
  subst p1
  exact wp_fin k1 x1 (callWith_seq hes rm o (bs.trans x1.gg) (q.step x1) (fun h _ => ⟨.machine, .inr (.inl rfl), Looks.of_pure rfl⟩) hop)
theorem EvP.callT {f : Str} {p pos : Pos} {T : String} {e : Expr} {es : List Expr} {ds : List Dat} {P : Heap → Value → Prop} (hf : EvP X k sc σ (.Name f p) fun _ u => u = .type T) (hes : EvL X k sc σ (e :: es) ds)
    (hop : OpN X k (fun vs => call (.type T) vs) ds P) : EvP X k sc σ (.Call (.Name f p) (e :: es) [] pos) P := by
  intro A env g s E rm o bs q
  refine wpAny_Call_NameR (wp_ev (hf A env g s E rm o bs q) fun u g1 s1 k1 x1 p1 => ?_)
  subst p1
  exact wp_fin k1 x1 (callWith_seq hes rm o (bs.trans x1.gg) (q.step x1) (fun h _ => ⟨.machine, .inr (.inl rfl), Looks.of_pure rfl⟩) hop)

/-- a def of the text's: what its call yields -/
def Fn (X : Cx) (k : Nat) (f : Str) (ds : List Dat) (P : Heap → Value → Prop) : Prop :=
  ∃ a o fd, X.mg f = some (.ref a) ∧ X.h0.get? a = some o ∧ o.data = .func fd ∧ OpN X k (fun vs => call (.ref a) vs) ds P
theorem EvP.callF {f : Str} {p pos : Pos} {e : Expr} {es : List Expr} {ds : List Dat} {P : Heap → Value → Prop} (hk : sc.names.lookup f = some .globalImplicit) (hes : EvL X k sc σ (e :: es) ds) (hf : Fn X k f ds P)
    (hd : (f == ("__debug__" : Str)) = false := by decide) : EvP X k sc σ (.Call (.Name f p) (e :: es) [] pos) P := by
  obtain ⟨a, o, fd, h1, h2, h3, hop⟩ := hf
  intro A env g s E rm oe bs q
  refine wpAny_Call_NameR (wp_ev (EvP.global hk h1 hd A env g s E rm oe bs q) fun u g1 s1 k1 x1 p1 => ?_)
  subst p1
  refine wp_fin k1 x1 (callWith_seq hes rm oe (bs.trans x1.gg) (q.step x1) (fun h hs => ⟨.frame, .inl rfl, ?_⟩) hop)
  exact (Looks.ld (part := none) (hs a o h2)).andThen (by rw [h3]; exact Looks.of_pure rfl)

/-- len -/
theorem op_len {d : Dat} {n : Nat} (hn : (match d with | .str x => x.length = n | .list ds => ds.length = n | _ => False)) (hz : (n : Int) < 2 ^ 63) : OpN X k (fun vs => call (.builtin "len") vs) [d] fun g v => Rep g v (.int n) := by
  intro g s vs b0 kk r
  cases r with
  | cons a r =>
    cases r
    cases a with
    | str x t =>
      have hn' : x.length = n := hn
      subst hn'
      exact Does.tok kk fun A E Q rm h => P.len_str (by omega) (h _ _ (.int _ _))
    | list il r =>
      rename_i l us ds
      have hn' : ds.length = n := hn
      have hl := r.length
      refine Does.tok kk fun A E Q rm h => call_len_list (isList_sub kk il) (by simp; omega) ?_
      have e : (us.toArray.size : Int) = n := by simp; omega
      rw [e]; exact h _ _ (.int _ _)
    | _ => exact hn.elim
end
end Mine

namespace Mine
open PySem PySem.W PyProof.Rows PySem.Calls
set_option Elab.async false
set_option maxRecDepth 100000
set_option linter.unusedVariables false
open PySem.SeqAt PySem.MeetsSeq PySem.MeetsSeq2 PySem.MeetsSeq3 PySem.SeqRoads2
open PySem.AutoSeq1 (wpAny_loadPart')

/-- the order of ints in rows -/
theorem lex_drop {ns ms : List Int} {i : Nat} (h1 : i < ns.length) (h2 : i < ms.length) :
    (ns.drop i < ms.drop i) ↔ (if ns[i] = ms[i] then ns.drop (i + 1) < ms.drop (i + 1) else ns[i] < ms[i]) := by
  rw [List.drop_eq_getElem_cons h1, List.drop_eq_getElem_cons h2, List.cons_lt_cons_iff]
  constructor
  · rintro (h | ⟨h, h'⟩)
    · have : ns[i] ≠ ms[i] := by omega
      rw [if_neg this]; exact h
    · rw [if_pos h]; exact h'
  · intro h
    split at h
    · rename_i e; exact .inr ⟨e, h⟩
    · exact .inl h
theorem lex_end1 {ns ms : List Int} {i : Nat} (h1 : ns.length ≤ i) (h2 : i ≤ ms.length) (h3 : i ≤ ns.length) : (ns.drop i < ms.drop i) ↔ ns.length < ms.length := by
  rw [List.drop_of_length_le h1]
  rcases Nat.lt_or_ge i ms.length with h | h
  · rw [List.drop_eq_getElem_cons h]
    exact ⟨fun _ => by omega, fun _ => List.nil_lt_cons _ _⟩
  · rw [List.drop_of_length_le h]
    simp only [List.lt_irrefl, false_iff]; omega
theorem lex_end2 {ns ms : List Int} {i : Nat} (h1 : ms.length ≤ i) (h2 : i ≤ ns.length) : ¬ (ns.drop i < ms.drop i) := by
  rw [List.drop_of_length_le h1]
  exact List.not_lt_nil _

theorem ints_at {vs : List Value} {ns : List Int} (h : IntsAre vs ns) {i : Nat} (hi : i < ns.length) : ∃ t, vs[i]? = some (.int ns[i] t) := h.get i ns[i] (by simp [hi])

theorem list_lt_loop (l b : Addr) (vs us : List Value) (ns ms : List Int) (hv : IntsAre vs ns) (hu : IntsAre us ms) (n n2 : Nat) (dd dd2 : Option Addr) (sl sl2 : Array (Option Value)) (k : Nat) :
    ∀ i : Nat, ns.length - i = k → i ≤ ns.length → i ≤ ms.length → Meets (Builtin.«list.__eq__.loop» ⟨[.ref l, .ref b, rawInt i, rawInt 0], []⟩)
      (fun A R s => s.heap.get? l = some { cls := .type "list", dict := dd, data := .seq vs.toArray n, slots := sl } ∧ s.heap.get? b = some { cls := .type "list", dict := dd2, data := .seq us.toArray n2, slots := sl2 } ∧
        R (.ok (.ret (.bool (decide (ns.drop i < ms.drop i))))) s) := by
  have l1 := hv.length
  have l2 := hu.length
  induction k with
  | zero =>
    intro i hk hi1 hi2 prog w A R s h
    obtain ⟨hp, g, d, tk, os⟩ := s; obtain ⟨hl, hb, h⟩ := h
    wp_walk using wpAny_loadPart' hl, wpAny_loadPart' hb
    have e1 : vs.toArray[((i : Nat) : Int).toNat]? = none := by simp; omega
    rw [e1]
    wp_walk using wpAny_loadPart' hl, wpAny_loadPart' hb
    show R (.ok (.ret (.bool (decide (vs.toArray.size < us.toArray.size))))) _
    have e : decide (vs.toArray.size < us.toArray.size) = decide (ns.drop i < ms.drop i) := by
      rw [List.size_toArray, List.size_toArray, l1, l2]
      exact decide_eq_decide.mpr (by rw [lex_end1 (by omega) hi2 hi1])
    rw [e]; exact h
  | succ k ih =>
    intro i hk hi1 hi2 prog w A R s h
    obtain ⟨hp, g, d, tk, os⟩ := s; obtain ⟨hl, hb, h⟩ := h
    wp_walk using wpAny_loadPart' hl, wpAny_loadPart' hb
    have hlt : i < ns.length := by omega
    obtain ⟨t, ht⟩ := ints_at hv hlt
    have e1 : vs.toArray[((i : Nat) : Int).toNat]? = some (.int ns[i] t) := by simpa using ht
    rcases Nat.lt_or_ge i ms.length with hlt2 | hge
    · obtain ⟨u, hu'⟩ := ints_at hu hlt2
      have e2 : us.toArray[((i : Nat) : Int).toNat]? = some (.int ms[i] u) := by simpa using hu'
      have hc : ((i : Int) + 1) = ((i + 1 : Nat) : Int) := by push_cast; rfl
      rw [e1, e2]
      refine wpAny_bind ((EqAt.int_int ns[i] t ms[i] u) prog w _ _ ?_)
      by_cases hq : ns[i] = ms[i]
      · have hq' : (ns[i] == ms[i]) = true := by simpa using hq
        rw [hq']
        wp_walk
        rw [hc]
        exact ⟨plainId_quiet plain_eq_loop _, codeAny_builtin entry_eq_loop (by
          rw [Around.under_plainId plain_eq_loop _]
          refine ih (i + 1) (by omega) (by omega) (by omega) prog w A R _ ⟨hl, hb, ?_⟩
          have e : decide (ns.drop i < ms.drop i) = decide (ns.drop (i + 1) < ms.drop (i + 1)) := decide_eq_decide.mpr (by rw [lex_drop hlt hlt2, if_pos hq])
          rw [← e]; exact h)⟩
      · have hq' : (ns[i] == ms[i]) = false := by simpa using hq
        rw [hq']
        wp_walk using wpAny_loadPart' hl, wpAny_loadPart' hb
        rw [e1, e2]
        refine wpAny_bind (P.lt_int ?_)
        refine wpAny_pure ?_
        have e : decide (ns.drop i < ms.drop i) = decide (ns[i] < ms[i]) := decide_eq_decide.mpr (by rw [lex_drop hlt hlt2, if_neg hq])
        rw [← e]
        exact h
    · have e2 : us.toArray[((i : Nat) : Int).toNat]? = none := by simp; omega
      rw [e1, e2]
      wp_walk using wpAny_loadPart' hl, wpAny_loadPart' hb
      show R (.ok (.ret (.bool (decide (vs.toArray.size < us.toArray.size))))) _
      have e : decide (vs.toArray.size < us.toArray.size) = decide (ns.drop i < ms.drop i) := by
        rw [List.size_toArray, List.size_toArray, l1, l2]
        exact decide_eq_decide.mpr (by exact ⟨fun x => absurd x (by omega), fun x => absurd x (lex_end2 hge hi1)⟩)
      rw [e]; exact h

theorem list_lt_meets (l b : Addr) (vs us : List Value) (ns ms : List Int) (hv : IntsAre vs ns) (hu : IntsAre us ms) (n n2 : Nat) (dd dd2 : Option Addr) (sl sl2 : Array (Option Value)) :
    Meets (Builtin.«list.__lt__» ⟨[.ref l, .ref b], []⟩)
      (fun A R s => s.heap.get? l = some { cls := .type "list", dict := dd, data := .seq vs.toArray n, slots := sl } ∧ s.heap.get? b = some { cls := .type "list", dict := dd2, data := .seq us.toArray n2, slots := sl2 } ∧
        R (.ok (.ret (.bool (decide (ns < ms))))) s) := by
  intro prog w A R s h
  obtain ⟨hp, g, d, tk, os⟩ := s; obtain ⟨hl, hb, h⟩ := h
  have f3 := AutoSeq1.sub_list_list
  wp_walk using wpAny_loadPart' hl, wpAny_loadPart' hb
  exact ⟨plainId_quiet plain_eq_loop _, codeAny_builtin entry_eq_loop (by
    rw [Around.under_plainId plain_eq_loop _]
    exact list_lt_loop l b vs us ns ms hv hu n n2 dd dd2 sl sl2 _ 0 rfl (Nat.zero_le _) (Nat.zero_le _) prog w A R _ ⟨hl, hb, by simpa using h⟩)⟩

theorem rc_list_lt {prog : Program} {w : World} {A : Around} {E : Value → Shared → Prop} {s : Shared} {Q : Value → Shared → Prop} {l b : Addr} {vs us : List Value} {ns ms : List Int} (hl : s.heap.IsList l vs.toArray) (hb : s.heap.IsList b us.toArray) (hv : IntsAre vs ns) (hw : IntsAre us ms)
    (hu : A.units < cLine) (h : Q (.bool (decide (ns < ms))) s) : wpAny (model prog w) A (richCompare .Lt (.ref l) (.ref b)) Q E s := by
  obtain ⟨⟨cls, dd, data, sl⟩, ho, hc, n, hd⟩ := id hl
  obtain ⟨⟨cls2, dd2, data2, sl2⟩, ho2, hc2, n2, hd2⟩ := id hb
  simp only at hc hd hc2 hd2
  subst hc hd hc2 hd2
  exact richCompare_meets_room (op := .Lt) ⟨_, ho, rfl⟩ ⟨_, ho2, rfl⟩ F.slot_list_lt F.entry_list_lt (F.args_list_lt_2 _ _) (list_lt_meets l b vs us ns ms hv hw n n2 dd dd2 sl sl2)
    ⟨ho, ho2, show Value.bool (decide (ns < ms)) ≠ Value.notImplemented ∧ Q (.bool (decide (ns < ms))) s from ⟨(fun x => nomatch x), h⟩⟩ hu

theorem list_gt_loop (l b : Addr) (vs us : List Value) (ns ms : List Int) (hv : IntsAre vs ns) (hu : IntsAre us ms) (n n2 : Nat) (dd dd2 : Option Addr) (sl sl2 : Array (Option Value)) (k : Nat) :
    ∀ i : Nat, ns.length - i = k → i ≤ ns.length → i ≤ ms.length → Meets (Builtin.«list.__eq__.loop» ⟨[.ref l, .ref b, rawInt i, rawInt 4], []⟩)
      (fun A R s => s.heap.get? l = some { cls := .type "list", dict := dd, data := .seq vs.toArray n, slots := sl } ∧ s.heap.get? b = some { cls := .type "list", dict := dd2, data := .seq us.toArray n2, slots := sl2 } ∧
        R (.ok (.ret (.bool (decide (ms.drop i < ns.drop i))))) s) := by
  have l1 := hv.length
  have l2 := hu.length
  induction k with
  | zero =>
    intro i hk hi1 hi2 prog w A R s h
    obtain ⟨hp, g, d, tk, os⟩ := s; obtain ⟨hl, hb, h⟩ := h
    wp_walk using wpAny_loadPart' hl, wpAny_loadPart' hb
    have e1 : vs.toArray[((i : Nat) : Int).toNat]? = none := by simp; omega
    rw [e1]
    wp_walk using wpAny_loadPart' hl, wpAny_loadPart' hb
    show R (.ok (.ret (.bool (decide (vs.toArray.size > us.toArray.size))))) _
    have e : decide (vs.toArray.size > us.toArray.size) = decide (ms.drop i < ns.drop i) := by
      rw [List.size_toArray, List.size_toArray, l1, l2]
      exact decide_eq_decide.mpr (by exact ⟨fun x => absurd x (by omega), fun x => absurd x (lex_end2 (by omega) hi2)⟩)
    rw [e]; exact h
  | succ k ih =>
    intro i hk hi1 hi2 prog w A R s h
    obtain ⟨hp, g, d, tk, os⟩ := s; obtain ⟨hl, hb, h⟩ := h
    wp_walk using wpAny_loadPart' hl, wpAny_loadPart' hb
    have hlt : i < ns.length := by omega
    obtain ⟨t, ht⟩ := ints_at hv hlt
    have e1 : vs.toArray[((i : Nat) : Int).toNat]? = some (.int ns[i] t) := by simpa using ht
    rcases Nat.lt_or_ge i ms.length with hlt2 | hge
    · obtain ⟨u, hu'⟩ := ints_at hu hlt2
      have e2 : us.toArray[((i : Nat) : Int).toNat]? = some (.int ms[i] u) := by simpa using hu'
      have hc : ((i : Int) + 1) = ((i + 1 : Nat) : Int) := by push_cast; rfl
      rw [e1, e2]
      refine wpAny_bind ((EqAt.int_int ns[i] t ms[i] u) prog w _ _ ?_)
      by_cases hq : ns[i] = ms[i]
      · have hq' : (ns[i] == ms[i]) = true := by simpa using hq
        rw [hq']
        wp_walk
        rw [hc]
        exact ⟨plainId_quiet plain_eq_loop _, codeAny_builtin entry_eq_loop (by
          rw [Around.under_plainId plain_eq_loop _]
          refine ih (i + 1) (by omega) (by omega) (by omega) prog w A R _ ⟨hl, hb, ?_⟩
          have e : decide (ms.drop i < ns.drop i) = decide (ms.drop (i + 1) < ns.drop (i + 1)) := decide_eq_decide.mpr (by rw [lex_drop hlt2 hlt, if_pos hq.symm])
          rw [← e]; exact h)⟩
      · have hq' : (ns[i] == ms[i]) = false := by simpa using hq
        rw [hq']
        wp_walk using wpAny_loadPart' hl, wpAny_loadPart' hb
        rw [e1, e2]
        refine wpAny_bind (P.gt_int ?_)
        refine wpAny_pure ?_
        have e : decide (ms.drop i < ns.drop i) = decide (ns[i] > ms[i]) := decide_eq_decide.mpr (by rw [lex_drop hlt2 hlt, if_neg (fun q => hq q.symm)])
        rw [← e]
        exact h
    · have e2 : us.toArray[((i : Nat) : Int).toNat]? = none := by simp; omega
      rw [e1, e2]
      wp_walk using wpAny_loadPart' hl, wpAny_loadPart' hb
      show R (.ok (.ret (.bool (decide (vs.toArray.size > us.toArray.size))))) _
      have e : decide (vs.toArray.size > us.toArray.size) = decide (ms.drop i < ns.drop i) := by
        rw [List.size_toArray, List.size_toArray, l1, l2]
        exact decide_eq_decide.mpr (by rw [lex_end1 hge hi1 hi2])
      rw [e]; exact h

theorem list_gt_meets (l b : Addr) (vs us : List Value) (ns ms : List Int) (hv : IntsAre vs ns) (hu : IntsAre us ms) (n n2 : Nat) (dd dd2 : Option Addr) (sl sl2 : Array (Option Value)) :
    Meets (Builtin.«list.__gt__» ⟨[.ref l, .ref b], []⟩)
      (fun A R s => s.heap.get? l = some { cls := .type "list", dict := dd, data := .seq vs.toArray n, slots := sl } ∧ s.heap.get? b = some { cls := .type "list", dict := dd2, data := .seq us.toArray n2, slots := sl2 } ∧
        R (.ok (.ret (.bool (decide (ms < ns))))) s) := by
  intro prog w A R s h
  obtain ⟨hp, g, d, tk, os⟩ := s; obtain ⟨hl, hb, h⟩ := h
  have f3 := AutoSeq1.sub_list_list
  wp_walk using wpAny_loadPart' hl, wpAny_loadPart' hb
  exact ⟨plainId_quiet plain_eq_loop _, codeAny_builtin entry_eq_loop (by
    rw [Around.under_plainId plain_eq_loop _]
    exact list_gt_loop l b vs us ns ms hv hu n n2 dd dd2 sl sl2 _ 0 rfl (Nat.zero_le _) (Nat.zero_le _) prog w A R _ ⟨hl, hb, by simpa using h⟩)⟩

theorem rc_list_gt {prog : Program} {w : World} {A : Around} {E : Value → Shared → Prop} {s : Shared} {Q : Value → Shared → Prop} {l b : Addr} {vs us : List Value} {ns ms : List Int} (hl : s.heap.IsList l vs.toArray) (hb : s.heap.IsList b us.toArray) (hv : IntsAre vs ns) (hw : IntsAre us ms)
    (hu : A.units < cLine) (h : Q (.bool (decide (ms < ns))) s) : wpAny (model prog w) A (richCompare .Gt (.ref l) (.ref b)) Q E s := by
  obtain ⟨⟨cls, dd, data, sl⟩, ho, hc, n, hd⟩ := id hl
  obtain ⟨⟨cls2, dd2, data2, sl2⟩, ho2, hc2, n2, hd2⟩ := id hb
  simp only at hc hd hc2 hd2
  subst hc hd hc2 hd2
  exact richCompare_meets_room (op := .Gt) ⟨_, ho, rfl⟩ ⟨_, ho2, rfl⟩ F.slot_list_gt F.entry_list_gt (F.args_list_gt_2 _ _) (list_gt_meets l b vs us ns ms hv hw n n2 dd dd2 sl sl2)
    ⟨ho, ho2, show Value.bool (decide (ms < ns)) ≠ Value.notImplemented ∧ Q (.bool (decide (ms < ns))) s from ⟨(fun x => nomatch x), h⟩⟩ hu
end Mine

namespace Mine
open PySem PySem.W PyProof.Rows PySem.Calls
set_option Elab.async false
set_option maxRecDepth 100000
set_option linter.unusedVariables false

/-- Python's cut of a row by ones -/
def cut {α : Type} (l : List α) (lo hi : Option Int) : List α := (l.drop (kms_lo lo l.length)).take (kms_hi hi l.length - kms_lo lo l.length)
theorem kms_cut (l : List Value) (lo hi : Option Int) : kms_pick l lo hi = cut l lo hi := rfl
theorem RepAll.cut {h : Heap} {vs : List Value} {ds : List Dat} (r : RepAll h vs ds) (lo hi : Option Int) : RepAll h (cut vs lo hi) (cut ds lo hi) := by
  unfold Mine.cut
  rw [r.length]
  exact (r.drop _).take _
theorem cut_length_le {α : Type} (l : List α) (lo hi : Option Int) : (cut l lo hi).length ≤ l.length := by
  unfold cut; rw [List.length_take, List.length_drop]; omega
theorem cut_upto {α : Type} (l : List α) (j : Nat) : cut l none (some (j : Int)) = l.take j := by
  unfold cut kms_lo kms_hi
  have h : ¬ ((j : Int) < 0) := by omega
  simp only [if_neg h, Int.toNat_natCast, List.drop_zero, Nat.sub_zero]
  rcases Nat.le_total j l.length with h1 | h1
  · rw [Nat.min_eq_left h1]
  · rw [Nat.min_eq_right h1, List.take_of_length_le (Nat.le_refl _), List.take_of_length_le h1]
section
variable {X : Cx} {k : Nat} {sc : Scope} {σ : Sto}

/-- an end of a cut -/
def EvO (X : Cx) (k : Nat) (sc : Scope) (σ : Sto) (e : Option Expr) (i : Option Int) : Prop :=
  ∀ (A : Around) (env : Env) (g : Heap) (s : Shared) (E : Value → Shared → Prop), Room A k → EnvOk env sc → Sub X.h0 g → StoIn σ env g s →
    wpAny X.M A (evalPart e env) (Post g s fun _ v => IsPart v i) E s
theorem EvO.none : EvO X k sc σ Option.none Option.none := fun _ _ _ _ _ _ _ _ q => wpAny_pure (Post.here q.sub .none)
theorem EvO.some {e : Expr} {i : Int} (h : Ev X k sc σ e (.int i)) : EvO X k sc σ (Option.some e) (Option.some i) := by
  intro A env g s E rm o bs q
  rw [evalPart_some]
  exact wpAny_mono (h A env g s E rm o bs q) (fun v s' y => y.mono fun g' r => by cases r; exact .int _ _) fun _ _ y => y

theorem Ev.slice {value : Expr} {lower upper : Option Expr} {p pos : Pos} {ds : List Dat} {lo hi : Option Int} (hv : Ev X k sc σ value (.list ds)) (hl : EvO X k sc σ lower lo) (hu : EvO X k sc σ upper hi) (hz : ds.length ≤ sizeLine) :
    Ev X k sc σ (.Subscript value (.Slice lower upper Option.none p) pos) (.list (cut ds lo hi)) := by
  intro A env g s E rm o bs q
  refine Subscript_ (wp_ev (hv A env g s E rm o bs q) fun u g1 s1 k1 x1 p1 => wpAny_Slice (wp_ev (hl A env g1 s1 E rm o (bs.trans x1.gg) (q.step x1)) fun vl g2 s2 k2 x2 p2 =>
    wp_ev (hu A env g2 s2 E rm o ((bs.trans x1.gg).trans x2.gg) ((q.step x1).step x2)) fun vu g3 s3 k3 x3 p3 => ?_))
  rw [evalPart_none]
  refine wpAny_pure ?_
  cases p1 with
  | list il r =>
    rename_i a vs
    have il3 : s3.heap.IsList a vs.toArray := isList_sub (x1.gh.trans (x2.hh.trans x3.hh)) il
    have x4 := step_push (o := { cls := .type "slice", data := .fields #[vl, vu, .none] }) (x1.trans (x2.trans x3))
    refine tail_any (Heap.IsList.typeIs (il3.push _)) slot_list_getitem.lookup (wpAny_getItem_list_slice (il3.push _) (Heap.IsSliceOf.new ..) p2 p3 .none (by simp) ?_ (by simp; rw [r.length]; exact hz)) (by with_unfolding_all rfl)
    rw [kms_pick_eq, kms_cut]
    have r4 : RepAll (freeze g3 s3.heap (s3.heap.push { cls := .type "slice", data := .fields #[vl, vu, .none] })) (cut vs lo hi) (cut ds lo hi) := (r.cut lo hi).sub ((x2.gg.trans x3.gg).trans (freeze_old x3.gh (Sub.push .rfl _)))
    exact post_newList (s' := { s3 with heap := s3.heap.push { cls := .type "slice", data := .fields #[vl, vu, .none] } }) (kp_trans k1 (kp_trans k2 (kp_trans k3 (kp_mk (Sub.push .rfl _))))) x4 r4

/-- xs[::-1] -/
theorem Ev.rev {value : Expr} {p pos pn pm : Pos} {n : Nat} {ds : List Dat} (hv : Ev X k sc σ value (.list ds)) (hz : ds.length ≤ sizeLine) :
    Ev X k sc σ (.Subscript value (.Slice Option.none Option.none (Option.some (.UnaryOp .USub (.Constant (.int 1) n pn) pm)) p) pos) (.list ds.reverse) := by
  intro A env g s E rm o bs q
  refine Subscript_ (wp_ev (hv A env g s E rm o bs q) fun u g1 s1 k1 x1 p1 => wpAny_Slice ?_)
  rw [evalPart_none]
  refine wpAny_pure (wpAny_pure ?_)
  rw [evalPart_some]
  refine wp_ev ((Ev.neg (Ev.int (i := 1) (n := n) (pos := pn)) (pos := pm)) A env g1 s1 E rm o (bs.trans x1.gg) (q.step x1)) fun vs' g3 s3 k3 x3 p3 => ?_
  cases p3
  cases p1 with
  | list il r =>
    rename_i tk a vs
    have il3 : s3.heap.IsList a vs.toArray := isList_sub (x1.gh.trans x3.hh) il
    have x4 := step_push (o := { cls := .type "slice", data := .fields #[.none, .none, .int (-1) tk] }) (x1.trans x3)
    refine tail_any (Heap.IsList.typeIs (il3.push _)) slot_list_getitem.lookup (wpAny_getItem_list_slice (il3.push _) (Heap.IsSliceOf.new ..) .none .none (.int (-1) tk) (by simp) ?_ (by simp; rw [r.length]; exact hz)) (by with_unfolding_all rfl)
    rw [krv_pick]
    have r4 : RepAll (freeze g3 s3.heap (s3.heap.push { cls := .type "slice", data := .fields #[.none, .none, .int (-1) tk] })) vs.reverse ds.reverse := (r.reverse).sub (x3.gg.trans (freeze_old x3.gh (Sub.push .rfl _)))
    exact post_newList (s' := { s3 with heap := s3.heap.push { cls := .type "slice", data := .fields #[.none, .none, .int (-1) tk] } }) (kp_trans k1 (kp_trans k3 (kp_mk (Sub.push .rfl _)))) x4 r4

end
end Mine

namespace Mine
open PySem PySem.W PyProof.Rows PySem.Calls
set_option Elab.async false
set_option maxRecDepth 100000
set_option linter.unusedVariables false

def ownedNames : List String := ["enumerate", "zip", "dict_itemiterator", "dict_reverseitemiterator", "odict_iterator", "itertools.zip_longest", "itertools.pairwise"]
theorem letOwned_ok {prog : Program} {w : World} {A : Around} {E : Value → Shared → Prop} {s : Shared} {target : Expr} {I : Addr} {v : Value} {o : Obj} {n : String} {Q : Unit → Shared → Prop} (ho : s.heap.get? I = some o) (hc : o.cls = .type n) (hn : ownedNames.contains n = false) (h : Q () s) :
    wpAny (model prog w) A (letOwnedTupleGo target (.ref I) v) Q E s := by
  have key : ∀ a, v = .ref a → wpAny (model prog w) A (do
      let o ← load I
      match o.cls, o.data with
      | .type n, .fields vs =>
        if ["enumerate", "zip", "dict_itemiterator", "dict_reverseitemiterator", "odict_iterator", "itertools.zip_longest", "itertools.pairwise"].contains n && vs[0]? == some (rawInt a) then
          rule "for.unpacks-the-owned-tuple"
          updateField I 0 .none
      | _, _ => pure () : Sem Unit) Q E s := by
    intro a _
    refine wpAny_bind (wpAny_load ho ?_)
    rw [hc]
    cases hd : o.data with
    | fields vs =>
      show wpAny _ A (if (["enumerate", "zip", "dict_itemiterator", "dict_reverseitemiterator", "odict_iterator", "itertools.zip_longest", "itertools.pairwise"].contains n && vs[0]? == some (rawInt a)) = true then _ else _) Q E s
      have hn' : (["enumerate", "zip", "dict_itemiterator", "dict_reverseitemiterator", "odict_iterator", "itertools.zip_longest", "itertools.pairwise"] : List String).contains n = false := hn
      rw [hn', Bool.false_and, if_neg Bool.false_ne_true]
      exact wpAny_pure h
    | _ => exact wpAny_pure h
  unfold letOwnedTupleGo
  cases target <;> first
    | exact wpAny_pure h
    | (cases v <;> first
        | exact wpAny_pure h
        | exact key _ rfl)

/-- a value that a loop goes over, and what it hands out -/
structure Iter (X : Cx) (g : Heap) (s₂ : Shared) (old : Heap) (I : Addr) (ds : List Dat) (fp wr : List Addr) (P : Nat → Value → Prop) (St : Nat → Heap → Prop) : Prop where
  walks : ∀ A', A'.handled = none → Walks X.prog X.w A' I fp wr ds.length P St
  start : St 0 s₂.heap
  low : ∀ b ∈ fp, b < s₂.heap.objs.size
  fresh : ∀ b ∈ wr, old.get? b = none
  live : ∀ i h, St i h → ∀ b ∈ wr, (h.get? b).isSome
  foot : ∀ b ∈ fp, b ∈ wr ∨ (g.get? b).isSome
  item : ∀ i v, P i v → ∃ d, ds[i]? = some d ∧ Rep g v d
  own : ∀ i A E target v (s : Shared) (Q : Unit → Shared → Prop), St i s.heap → Q () s → wpAny X.M A (letOwnedTupleGo target (.ref I) v) Q E s
def IterOf (X : Cx) (k : Nat) (g : Heap) (s : Shared) (xv : Value) (ds : List Dat) : Prop :=
  ∀ (A : Around) (E : Value → Shared → Prop), Room A k → wpAny X.M A (pyIter xv) (fun it s₂ => Keeps s s₂ ∧ ∃ I fp wr P St, it = .ref I ∧ Iter X g s₂ s.heap I ds fp wr P St) E s
/-- an expression that is gone over -/
def Its (X : Cx) (k : Nat) (sc : Scope) (σ : Sto) (e : Expr) (ds : List Dat) : Prop :=
  EvP X k sc σ e (fun g v => ∀ s, Sub g s.heap → IterOf X k g s v ds) ∧ ∀ env x, foldedSetIterable e env x = pure x

theorem fresh_size {h : Heap} : h.get? h.objs.size = none := by
  cases z : h.get? h.objs.size with
  | none => rfl
  | some o' => exact absurd (Heap.lt_size z) (Nat.lt_irrefl _)

section
variable {X : Cx} {k : Nat} {sc : Scope} {σ : Sto}

theorem iterOf_list {g : Heap} {s : Shared} {a : Addr} {vs : List Value} {ds : List Dat} (kk : Sub g s.heap) (il : g.PlainList a vs.toArray) (r : RepAll g vs ds) : IterOf X k g s (.ref a) ds := by
  intro A E rm
  have il' := isList_sub kk il
  have hlt : a < s.heap.objs.size := let ⟨_, e, _⟩ := il'; Heap.lt_size e
  have hn : vs.toArray.size = ds.length := by rw [List.size_toArray, r.length]
  refine wpAny_pyIter_list il' ⟨kp_mk (Sub.push .rfl _), s.heap.objs.size, [s.heap.objs.size, a], [s.heap.objs.size], (fun i v => vs.toArray[i]? = some v), (fun i h => h.IsListIter s.heap.objs.size a i ∧ h.IsList a vs.toArray), rfl, ?_⟩
  exact {
    walks := fun A' hA => hn ▸ Walks.list hA s.heap.objs.size a (Nat.ne_of_lt hlt) vs.toArray
    start := ⟨⟨_, Heap.get?_push_size _ rfl, rfl, rfl⟩, il'.push _⟩
    low := fun b hb => by
      show b < (s.heap.push _).objs.size
      rw [Heap.size_push]
      rcases List.mem_cons.mp hb with rfl | hb
      · exact Nat.lt_succ_self _
      · rcases List.mem_cons.mp hb with rfl | hb
        · exact Nat.lt_succ_of_lt hlt
        · cases hb
    fresh := fun b hb => by rw [List.mem_singleton.mp hb]; exact fresh_size
    live := fun i h st b hb => by
      obtain ⟨⟨o, ho, _⟩, _⟩ := st
      rw [List.mem_singleton.mp hb, ho]; rfl
    foot := fun b hb => by
      rcases List.mem_cons.mp hb with rfl | hb
      · exact .inl (List.mem_singleton.mpr rfl)
      · rw [List.mem_singleton.mp hb]
        obtain ⟨n, ho⟩ := il
        exact .inr (by rw [ho]; rfl)
    item := fun i v hv => r.get' (by simpa using hv)
    own := fun i A' E' target v s' Q st q => by
      obtain ⟨⟨o, ho, hc, _⟩, _⟩ := st
      exact letOwned_ok ho hc (by decide) q }
theorem iterOf_tuple {g : Heap} {s : Shared} {a : Addr} {vs : List Value} {ds : List Dat} (kk : Sub g s.heap) (il : PlainTup g a vs.toArray) (r : RepAll g vs ds) : IterOf X k g s (.ref a) ds := by
  intro A E rm
  have il' := isTup_sub kk il
  have hlt : a < s.heap.objs.size := let ⟨_, e, _⟩ := il'; Heap.lt_size e
  have hn : vs.toArray.size = ds.length := by rw [List.size_toArray, r.length]
  refine wpAny_pyIter_tuple il' ⟨kp_mk (Sub.push .rfl _), s.heap.objs.size, [s.heap.objs.size, a], [s.heap.objs.size], (fun i v => vs.toArray[i]? = some v), (fun i h => h.IsTupleIter s.heap.objs.size a i ∧ h.IsTuple a vs.toArray), rfl, ?_⟩
  exact {
    walks := fun A' hA => hn ▸ Walks.tuple hA s.heap.objs.size a (Nat.ne_of_lt hlt) vs.toArray
    start := ⟨⟨_, Heap.get?_push_size _ rfl, rfl, rfl⟩, let ⟨o, ho, rr⟩ := il'; ⟨o, Heap.get?_push_of_some _ ho, rr⟩⟩
    low := fun b hb => by
      show b < (s.heap.push _).objs.size
      rw [Heap.size_push]
      rcases List.mem_cons.mp hb with rfl | hb
      · exact Nat.lt_succ_self _
      · rcases List.mem_cons.mp hb with rfl | hb
        · exact Nat.lt_succ_of_lt hlt
        · cases hb
    fresh := fun b hb => by rw [List.mem_singleton.mp hb]; exact fresh_size
    live := fun i h st b hb => by
      obtain ⟨⟨o, ho, _⟩, _⟩ := st
      rw [List.mem_singleton.mp hb, ho]; rfl
    foot := fun b hb => by
      rcases List.mem_cons.mp hb with rfl | hb
      · exact .inl (List.mem_singleton.mpr rfl)
      · rw [List.mem_singleton.mp hb]
        obtain ⟨n, ho⟩ := il
        exact .inr (by rw [ho]; rfl)
    item := fun i v hv => r.get' (by simpa using hv)
    own := fun i A' E' target v s' Q st q => by
      obtain ⟨⟨o, ho, hc, _⟩, _⟩ := st
      exact letOwned_ok ho hc (by decide) q }
theorem iterOf_dat {g : Heap} {s : Shared} {v : Value} {d : Dat} {ds : List Dat} (kk : Sub g s.heap) (r : Rep g v d) (hd : d = .list ds ∨ d = .tuple ds) : IterOf X k g s v ds := by
  rcases hd with rfl | rfl
  · cases r with | list il r => exact iterOf_list kk il r
  · cases r with | tuple il r => exact iterOf_tuple kk il r
theorem Its.list {e : Expr} {ds : List Dat} (h : Ev X k sc σ e (.list ds)) (hs : ∀ env x, foldedSetIterable e env x = pure x := by intro _ _; rfl) : Its X k sc σ e ds :=
  ⟨h.mono fun g v r s kk => iterOf_dat kk r (.inl rfl), hs⟩
end
end Mine

namespace Mine
open PySem PySem.W PyProof.Rows PySem.Calls
set_option Elab.async false
set_option maxRecDepth 100000
set_option linter.unusedVariables false

def upd (x : Str) (lv : LV) : Sto → Sto
  | [] => [(x, lv)]
  | (y, l) :: r => if x == y then (y, lv) :: r else (y, l) :: upd x lv r
theorem lookup_upd (x : Str) (lv : LV) (z : Str) : ∀ τ : Sto, (upd x lv τ).lookup z = if z = x then some lv else τ.lookup z
  | [] => by
    unfold upd
    rw [List.lookup_cons]
    by_cases h : z = x
    · subst h; simp
    · have : (z == x) = false := by simpa using h
      rw [this, if_neg h]
  | (y, l) :: r => by
    unfold upd
    by_cases hxy : x = y
    · subst hxy
      simp only [beq_self_eq_true, if_true, List.lookup_cons]
      by_cases h : z = x
      · subst h; simp
      · have : (z == x) = false := by simpa using h
        rw [this, if_neg h]
    · have e : (x == y) = false := by simpa using hxy
      rw [e]
      simp only [Bool.false_eq_true, if_false, List.lookup_cons]
      by_cases h : z = y
      · subst h
        have : ¬ z = x := fun q => hxy q.symm
        simp [this]
      · have : (z == y) = false := by simpa using h
        rw [this, lookup_upd x lv z r]

/-- a part of a heap -/
def keepOnly (p : Addr → Bool) (h : Heap) : Heap := ⟨(Array.ofFn (n := h.objs.size) fun i => if p i.1 then h.objs[i] else ⟨.none, none, .freed, #[]⟩), h.life⟩
theorem keepOnly_get (p : Addr → Bool) (h : Heap) (b : Addr) : (keepOnly p h).get? b = if p b then h.get? b else none := by
  have sz : (keepOnly p h).objs.size = h.objs.size := by simp [keepOnly]
  by_cases hb : b < h.objs.size
  · have e : (keepOnly p h).objs[b]? = some (if p b then h.objs[b] else ⟨.none, none, .freed, #[]⟩) := by
      simp [keepOnly, hb]
    have e2 : h.objs[b]? = some h.objs[b] := by simp [hb]
    by_cases c : p b = true
    · rw [if_pos c] at e ⊢
      conv => lhs; unfold Heap.get?
      conv => rhs; unfold Heap.get?
      rw [e, e2]
    · rw [if_neg c] at e ⊢
      conv => lhs; unfold Heap.get?
      rw [e]
  · have hb2 : h.objs.size ≤ b := Nat.le_of_not_lt hb
    have e : (keepOnly p h).objs[b]? = none := Array.getElem?_eq_none (sz ▸ hb2)
    have e2 : h.objs[b]? = none := Array.getElem?_eq_none hb2
    have e3 : h.get? b = none := by unfold Heap.get?; rw [e2]
    rw [e3]
    conv => lhs; unfold Heap.get?
    rw [e]
    simp
/-- g and one more object of h -/
def withObj (g h : Heap) (a : Addr) : Heap := keepOnly (fun b => (g.get? b).isSome || b == a) h
theorem withObj_sub {g h : Heap} {a : Addr} (k : Sub g h) : Sub g (withObj g h a) := fun b o e => by
  unfold withObj; rw [keepOnly_get]; simp only [e, Option.isSome_some, Bool.true_or, if_true]; exact k b o e
theorem withObj_in {g h : Heap} {a : Addr} : Sub (withObj g h a) h := fun b o e => by
  unfold withObj at e; rw [keepOnly_get] at e
  split at e
  · exact e
  · cases e
theorem withObj_self {g h : Heap} {a : Addr} {o : Obj} (e : h.get? a = some o) : (withObj g h a).get? a = some o := by
  unfold withObj; rw [keepOnly_get]; simpa using e
theorem withObj_other {g h : Heap} {a b : Addr} (hg : g.get? b = none) (hb : b ≠ a) : (withObj g h a).get? b = none := by
  unfold withObj; rw [keepOnly_get, hg]
  have : (b == a) = false := by simpa using hb
  simp [this]

def Holds (env : Env) (m cm : Str → Option Value) (x : Str) (v : Value) : Prop :=
  (env.kindOf x = some .local ∧ m x = some v) ∨ (env.kindOf x = some .cell ∧ (env.cells.lookup x).isSome = true ∧ cm x = some v)
def LvIn (s₀ : Shared) (env : Env) (H : List (Addr × Obj)) (g : Heap) (s : Shared) (v : Value) : LV → Prop
  | .dat d => Rep g v d
  | .val u => v = u
  | .obj P _ => ∃ a o, v = .ref a ∧ s.heap.get? a = some o ∧ P a o g ∧ g.get? a = none ∧ s₀.heap.get? a = none ∧ a ≠ env.locals ∧ (∀ n c, env.cells.lookup n = some c → c ≠ a) ∧ ∀ p ∈ H, p.1 ≠ a

/-- the state of a call of a def: what its names hold; g stands still, H is what a loop around holds -/
structure FS (s₀ : Shared) (g₀ : Heap) (env : Env) (H : List (Addr × Obj)) (τ : Sto) (g : Heap) (m cm : Str → Option Value) (s : Shared) : Prop where
  call : InCallC s₀ env.locals m env.cells cm s
  st : Step g₀ s₀.heap g s.heap
  gL : g.get? env.locals = none
  gC : ∀ n c, env.cells.lookup n = some c → g.get? c = none
  hold : ∀ p ∈ H, s.heap.get? p.1 = some p.2 ∧ p.1 ≠ env.locals ∧ (∀ n c, env.cells.lookup n = some c → c ≠ p.1) ∧ g.get? p.1 = none ∧ s₀.heap.get? p.1 = none
  var : ∀ x lv, τ.lookup x = some lv → ∃ v, Holds env m cm x v ∧ LvIn s₀ env H g s v lv
  sep : ∀ x y a P mp Q mq, x ≠ y → τ.lookup x = some (.obj P mp) → τ.lookup y = some (.obj Q mq) → Holds env m cm x (.ref a) → ¬ Holds env m cm y (.ref a)

section
variable {s₀ s s' : Shared} {g₀ g g' : Heap} {env : Env} {H : List (Addr × Obj)} {τ : Sto} {m cm : Str → Option Value}

theorem Holds.fun {x : Str} {v u : Value} (h1 : Holds env m cm x v) (h2 : Holds env m cm x u) : v = u := by
  rcases h1 with ⟨a, b⟩ | ⟨a, _, b⟩ <;> rcases h2 with ⟨c, d⟩ | ⟨c, _, d⟩
  · rw [b] at d; exact Option.some.inj d
  · rw [a] at c; cases c
  · rw [a] at c; cases c
  · rw [b] at d; exact Option.some.inj d
theorem FS.sto (F : FS s₀ g₀ env H τ g m cm s) : StoIn τ env g s where
  sub := F.st.gh
  var := fun x d e => by
    obtain ⟨v, hv, lv⟩ := F.var x _ e
    refine ⟨v, ?_, lv⟩
    rcases hv with ⟨a, b⟩ | ⟨a, b, c⟩
    · exact .inl ⟨a, m, F.call.toInCall.ns, b⟩
    · obtain ⟨ad, hc⟩ := Option.isSome_iff_exists.mp b
      exact .inr ⟨.inl a, ad, hc, c ▸ F.call.cell x ad hc⟩
  val := fun x u e => by
    obtain ⟨v, hv, lv⟩ := F.var x _ e
    have lv' : v = u := lv
    subst lv'
    rcases hv with ⟨a, b⟩ | ⟨a, b, c⟩
    · exact .inl ⟨a, m, F.call.toInCall.ns, b⟩
    · obtain ⟨ad, hc⟩ := Option.isSome_iff_exists.mp b
      exact .inr ⟨.inl a, ad, hc, c ▸ F.call.cell x ad hc⟩
  obj := fun x P mp e => by
    obtain ⟨v, hv, lv⟩ := F.var x _ e
    obtain ⟨ad, o, rfl, h1, h2, _⟩ := lv
    refine ⟨ad, o, ?_, h1, h2⟩
    rcases hv with ⟨a, b⟩ | ⟨a, b, c⟩
    · exact .inl ⟨a, m, F.call.toInCall.ns, b⟩
    · obtain ⟨ca, hc⟩ := Option.isSome_iff_exists.mp b
      exact .inr ⟨.inl a, ca, hc, c ▸ F.call.cell x ca hc⟩
theorem LvIn.step {v : Value} {lv : LV} (x : Step g s.heap g' s'.heap) (h : LvIn s₀ env H g s v lv) : LvIn s₀ env H g' s' v lv := by
  cases lv with
  | dat d => exact Rep.sub x.gg h
  | val u => exact h
  | obj P mp =>
    obtain ⟨a, o, rfl, h1, h2, h3, h4, h5⟩ := h
    exact ⟨a, o, rfl, x.hh _ _ h1, mp _ _ _ _ x.gg h2, x.out h3 (by rw [h1]; rfl), h4, h5⟩
theorem FS.ev (F : FS s₀ g₀ env H τ g m cm s) (kk : Keeps s s') (x : Step g s.heap g' s'.heap) : FS s₀ g₀ env H τ g' m cm s' where
  call := by
    obtain ⟨h', tk, rfl, kp⟩ := kk
    exact F.call.kept kp
  st := F.st.trans x
  gL := x.out F.gL (by obtain ⟨o, _, _, ho, _⟩ := F.call.toInCall.ns; rw [ho]; rfl)
  gC := fun n c hc => x.out (F.gC n c hc) (by obtain ⟨o, ho, _⟩ := F.call.cell n c hc; rw [ho]; rfl)
  hold := fun p hp => by
    obtain ⟨h1, h2, h3, h4, h5⟩ := F.hold p hp
    exact ⟨x.hh _ _ h1, h2, h3, x.out h4 (by rw [h1]; rfl), h5⟩
  var := fun y lv e => let ⟨v, a, b⟩ := F.var y lv e; ⟨v, a, b.step x⟩
  sep := F.sep
theorem FS.tok (F : FS s₀ g₀ env H τ g m cm s) {t : Tok} : FS s₀ g₀ env H τ g m cm { s with toks := t } := F.ev kp_tok (.rfl F.st.gh)
theorem FS.done (F : FS s₀ g₀ env H τ g m cm s) : Keeps s₀ s := by
  obtain ⟨h, tk, e, kp⟩ := F.call.done
  exact ⟨h, tk, e, kp⟩

/-- what a new thing must be to be bound to a name -/
def NewLv (env : Env) (τ : Sto) (m cm : Str → Option Value) (x : Str) (v : Value) : LV → Prop
  | .dat _ => True
  | .val _ => True
  | .obj _ _ => ∀ y P mp, y ≠ x → τ.lookup y = some (.obj P mp) → ¬ Holds env m cm y v

theorem FS.bind (F : FS s₀ g₀ env H τ g m cm s) {x : Str} {v : Value} {lv : LV} {m' cm' : Str → Option Value} (call : InCallC s₀ env.locals m' env.cells cm' s')
    (hk : ∀ b o, b ≠ env.locals → (∀ n c, env.cells.lookup n = some c → b ≠ c) → s.heap.get? b = some o → s'.heap.get? b = some o)
    (hx : Holds env m' cm' x v) (hy : ∀ y u, y ≠ x → (Holds env m' cm' y u ↔ Holds env m cm y u)) (hl : LvIn s₀ env H g s v lv) (hn : NewLv env τ m cm x v lv) :
    FS s₀ g₀ env H (upd x lv τ) g m' cm' s' := by
  have gh : Sub g s'.heap := fun b o e => hk b o (fun q => by rw [q, F.gL] at e; cases e) (fun n c hc q => by rw [q, F.gC n c hc] at e; cases e) (F.st.gh b o e)
  have up : ∀ v lv, LvIn s₀ env H g s v lv → LvIn s₀ env H g s' v lv := by
    intro v lv h
    cases lv with
    | dat d => exact h
    | val u => exact h
    | obj P mp =>
      obtain ⟨a, o, rfl, h1, h2, h3, h4, h5, h6, h7⟩ := h
      exact ⟨a, o, rfl, hk a o h5 (fun n c hc q => h6 n c hc q.symm) h1, h2, h3, h4, h5, h6, h7⟩
  refine ⟨call, ⟨F.st.gg, call.toInCall.keep, gh, F.st.new⟩, F.gL, F.gC, fun p hp => ?_, fun y l e => ?_, fun y z a P mp Q mq hyz e1 e2 h1 h2 => ?_⟩
  · obtain ⟨h1, h2, h3, h4, h5⟩ := F.hold p hp
    exact ⟨hk _ _ h2 (fun n c hc q => h3 n c hc q.symm) h1, h2, h3, h4, h5⟩
  · rw [lookup_upd] at e
    by_cases q : y = x
    · rw [if_pos q] at e
      cases e
      subst q
      exact ⟨v, hx, up _ _ hl⟩
    · rw [if_neg q] at e
      obtain ⟨u, h1, h2⟩ := F.var y l e
      exact ⟨u, (hy y u q).mpr h1, up _ _ h2⟩
  · rw [lookup_upd] at e1 e2
    by_cases q : y = x
    · subst q
      rw [if_pos rfl] at e1
      cases e1
      have hz : ¬ z = y := fun t => hyz t.symm
      rw [if_neg hz] at e2
      have := hx.fun h1
      subst this
      exact hn z Q mq hz e2 ((hy z _ hz).mp h2)
    · rw [if_neg q] at e1
      by_cases q2 : z = x
      · subst q2
        rw [if_pos rfl] at e2
        cases e2
        have := hx.fun h2
        subst this
        exact hn y P mp q e1 ((hy y _ q).mp h1)
      · rw [if_neg q2] at e2
        exact F.sep y z a P mp Q mq hyz e1 e2 ((hy y _ q).mp h1) ((hy z _ q2).mp h2)
end

section
variable {X : Cx} {k : Nat} {sc : Scope} {τ : Sto} {s₀ s : Shared} {g₀ g : Heap} {env : Env} {H : List (Addr × Obj)} {m cm : Str → Option Value}

/-- a name is a place to store at -/
def canStore (sc : Scope) (x : Str) : Bool := sc.names.lookup x == some .local || sc.names.lookup x == some .cell

theorem wp_store {A : Around} {E : Value → Shared → Prop} {x : Str} {v : Value} {lv : LV} {Q : Unit → Shared → Prop} (F : FS s₀ g₀ env H τ g m cm s) (o : EnvOk env sc) (hx : canStore sc x = true) (hc : sc.names.lookup x = some .cell → (env.cells.lookup x).isSome = true)
    (hl : LvIn s₀ env H g s v lv) (hn : NewLv env τ m cm x v lv) (h : ∀ m' cm' s', FS s₀ g₀ env H (upd x lv τ) g m' cm' s' → Q () s') : wpAny X.M A (storeName env x v) Q E s := by
  unfold canStore at hx
  rw [Bool.or_eq_true] at hx
  rcases hx with hx | hx
  · have hk := o.kindOf (beq_iff_eq.mp hx)
    refine wpAny_storeName_local hk F.call.toInCall.ns (fun h' hns hs => h _ cm _ (F.bind (x := x) (v := v) ⟨⟨?_, hns, fun b ob e => ?_, F.call.toInCall.fresh⟩, fun n c hc => ?_, F.call.apart, F.call.above⟩ (fun b ob hb _ e => hs.extBut b ob hb e) ?_ (fun y u hy => ?_) hl hn)) o.plain
    · obtain ⟨h₁, tk, e⟩ := F.call.toInCall.same
      subst e
      exact ⟨h', _, rfl⟩
    · exact hs.extBut b ob (Nat.ne_of_lt (Nat.lt_of_lt_of_le (Heap.lt_size e) F.call.toInCall.fresh)) (F.call.toInCall.keep b ob e)
    · exact (F.call.cell n c hc).sameBut hs (Nat.ne_of_gt (F.call.above n c (mem_of_lookup hc)))
    · exact .inl ⟨hk, if_pos rfl⟩
    · unfold Holds
      simp only [if_neg hy]
  · have hk := o.kindOf (beq_iff_eq.mp hx)
    obtain ⟨c, hcl⟩ := Option.isSome_iff_exists.mp (hc (beq_iff_eq.mp hx))
    have hLc := F.call.above x c (mem_of_lookup hcl)
    refine wpAny_storeName_cell o.ek hk hcl (F.call.cell x c hcl) fun h' hce hs => h m (fun y => if y = x then some v else cm y) _ (F.bind (x := x) (v := v) ⟨⟨?_, F.call.toInCall.ns.sameBut hs (Nat.ne_of_lt hLc), fun b ob e => ?_, F.call.toInCall.fresh⟩, fun n c' hk' => ?_, F.call.apart, F.call.above⟩
      (fun b ob _ hb e => hs.extBut b ob (hb x c hcl) e) ?_ (fun y u hy => ?_) hl hn)
    · obtain ⟨h₁, tk, e⟩ := F.call.toInCall.same
      subst e
      exact ⟨h', _, rfl⟩
    · exact hs.extBut b ob (Nat.ne_of_lt (Nat.lt_trans (Nat.lt_of_lt_of_le (Heap.lt_size e) F.call.toInCall.fresh) hLc)) (F.call.toInCall.keep b ob e)
    · by_cases hkn : n = x
      · subst hkn
        rw [hcl] at hk'; cases hk'
        simpa using hce
      · rw [if_neg hkn]
        exact (F.call.cell n c' hk').sameBut hs fun e => hkn (name_of_addr F.call.apart (mem_of_lookup hk') (e ▸ mem_of_lookup hcl))
    · exact .inr ⟨hk, hc (beq_iff_eq.mp hx), if_pos rfl⟩
    · unfold Holds
      simp only [if_neg hy]

/-- how a piece of a def's body may end -/
inductive Out where
  | next (τ : Sto)
  | brk (τ : Sto)
  | cont (τ : Sto)
  | ret (d : Dat)
def OutIs (s₀ : Shared) (g₀ : Heap) (env : Env) (H : List (Addr × Obj)) (R : Out → Prop) (f : Flow) (s' : Shared) : Prop :=
  match f with
  | .next => ∃ τ g m cm, R (.next τ) ∧ FS s₀ g₀ env H τ g m cm s'
  | .brk => ∃ τ g m cm, R (.brk τ) ∧ FS s₀ g₀ env H τ g m cm s'
  | .cont => ∃ τ g m cm, R (.cont τ) ∧ FS s₀ g₀ env H τ g m cm s'
  | .ret v => ∃ d g, R (.ret d) ∧ Keeps s₀ s' ∧ Step g₀ s₀.heap g s'.heap ∧ Rep g v d
abbrev DefEnv (env : Env) (sc : Scope) : Prop := EnvOk env sc
def Ex (X : Cx) (k : Nat) (sc : Scope) (τ : Sto) (t : Env → Sem Flow) (R : Out → Prop) : Prop :=
  ∀ (A : Around) (env : Env) (s₀ : Shared) (g₀ : Heap) (H : List (Addr × Obj)) (g : Heap) (m cm : Str → Option Value) (s : Shared) (E : Value → Shared → Prop),
    Room A k → DefEnv env sc → Sub X.h0 g₀ → FS s₀ g₀ env H τ g m cm s → wpAny X.M A (t env) (OutIs s₀ g₀ env H R) E s

theorem OutIs.mono {R R' : Out → Prop} {f : Flow} {s' : Shared} (h : OutIs s₀ g₀ env H R f s') (hr : ∀ o, R o → R' o) : OutIs s₀ g₀ env H R' f s' := by
  cases f with
  | next => obtain ⟨τ, g, m, cm, r, F⟩ := h; exact ⟨τ, g, m, cm, hr _ r, F⟩
  | brk => obtain ⟨τ, g, m, cm, r, F⟩ := h; exact ⟨τ, g, m, cm, hr _ r, F⟩
  | cont => obtain ⟨τ, g, m, cm, r, F⟩ := h; exact ⟨τ, g, m, cm, hr _ r, F⟩
  | ret v => obtain ⟨d, g, r, F⟩ := h; exact ⟨d, g, hr _ r, F⟩
theorem Ex.mono {t : Env → Sem Flow} {R R' : Out → Prop} (h : Ex X k sc τ t R) (hr : ∀ o, R o → R' o) : Ex X k sc τ t R' :=
  fun A env s₀ g₀ H g m cm s E r o b F => wpAny_mono (h A env s₀ g₀ H g m cm s E r o b F) (fun _ _ x => x.mono hr) fun _ _ y => y

theorem Ex.nil {R : Out → Prop} (h : R (.next τ)) : Ex X k sc τ (execs []) R := fun A env s₀ g₀ H g m cm s E r o b F => wpAny_execs_nil ⟨τ, g, m, cm, h, F⟩
/-- a statement, then the rest -/
def Then (X : Cx) (k : Nat) (sc : Scope) (rest : List Stmt) (R : Out → Prop) : Out → Prop
  | .next τ => Ex X k sc τ (execs rest) R
  | o => R o
theorem Ex.cons {st : Stmt} {rest : List Stmt} {R : Out → Prop} (h : Ex X k sc τ (exec st) (Then X k sc rest R)) : Ex X k sc τ (execs (st :: rest)) R := by
  intro A env s₀ g₀ H g m cm s E r o b F
  refine wpAny_execs_cons (wpAny_mono (h A env s₀ g₀ H g m cm s E r o b F) (fun f s' x => ?_) fun _ _ y => y)
  cases f with
  | next => obtain ⟨τ', g', m', cm', rr, F'⟩ := x; exact rr A env s₀ g₀ H g' m' cm' s' E r o b F'
  | brk => exact x
  | cont => exact x
  | ret v => exact x
theorem Ex.last {st : Stmt} {R : Out → Prop} (h : Ex X k sc τ (exec st) R) : Ex X k sc τ (execs [st]) R :=
  Ex.cons (h.mono fun o r => by cases o with
    | next τ' => exact Ex.nil r
    | _ => exact r)

theorem Ex.return {e : Expr} {pos : Pos} {d : Dat} {R : Out → Prop} (h : Ev X k sc τ e d) (hr : R (.ret d)) : Ex X k sc τ (exec (.Return (some e) pos)) R := by
  intro A env s₀ g₀ H g m cm s E r o b F
  refine wpAny_Return_some (wp_ev (h A env g s E r o.toEnvOk (b.trans F.st.gg) F.sto) fun v g' s' k1 x1 p1 => ?_)
  exact ⟨d, g', hr, kp_trans F.done k1, F.st.trans x1, p1⟩
theorem Ex.if {test : Expr} {body orelse : List Stmt} {pos : Pos} {c : Bool} {R : Out → Prop} (h : EvT X k sc τ test c) (h1 : c = true → Ex X k sc τ (execs body) R) (h2 : c = false → Ex X k sc τ (execs orelse) R) : Ex X k sc τ (exec (.If test body orelse pos)) R := by
  intro A env s₀ g₀ H g m cm s E r o b F
  refine wpAny_If (wp_seq (h A env g s E r o.toEnvOk (b.trans F.st.gg) F.sto) fun c' s' ⟨e, k1, g', x1⟩ => ?_)
  subst e
  cases c' with
  | true => simp only [if_true]; exact h1 rfl A env s₀ g₀ H g' m cm s' E r o b (F.ev k1 x1)
  | false => simp only [Bool.false_eq_true, if_false]; exact h2 rfl A env s₀ g₀ H g' m cm s' E r o b (F.ev k1 x1)
/-- x = e -/
theorem Ex.assign {x : Str} {px pos : Pos} {e : Expr} {d : Dat} {R : Out → Prop} (h : Ev X k sc τ e d) (hr : R (.next (upd x (.dat d) τ))) (hx : canStore sc x = true := by rfl)
    (hs : ∀ env, swapsWith e (some (.Name x px)) pos.line env = pure false := by intro _; rfl) : Ex X k sc τ (exec (.Assign [.Name x px] e pos)) R := by
  intro A env s₀ g₀ H g m cm s E r o b F
  refine wpAny_Assign_Name (wp_ev (h A env g s E r o.toEnvOk (b.trans F.st.gg) F.sto) fun v g' s' k1 x1 p1 => ?_) (hs env)
  exact wp_store (lv := .dat d) (F.ev k1 x1) o.toEnvOk hx (o.cells x) p1 trivial fun m' cm' s'' F' => ⟨_, g', m', cm', hr, F'⟩
/-- x = e, e no datum -/
theorem Ex.assignV {x : Str} {px pos : Pos} {e : Expr} {u : Value} {R : Out → Prop} (h : EvP X k sc τ e fun _ v => v = u) (hr : R (.next (upd x (.val u) τ))) (hx : canStore sc x = true := by rfl)
    (hs : ∀ env, swapsWith e (some (.Name x px)) pos.line env = pure false := by intro _; rfl) : Ex X k sc τ (exec (.Assign [.Name x px] e pos)) R := by
  intro A env s₀ g₀ H g m cm s E r o b F
  refine wpAny_Assign_Name (wp_ev (h A env g s E r o.toEnvOk (b.trans F.st.gg) F.sto) fun v g' s' k1 x1 p1 => ?_) (hs env)
  exact wp_store (lv := .val u) (F.ev k1 x1) o.toEnvOk hx (o.cells x) p1 trivial fun m' cm' s'' F' => ⟨_, g', m', cm', hr, F'⟩
end
end Mine

namespace Mine
open PySem PySem.W PyProof.Rows PySem.Calls
set_option Elab.async false
set_option maxRecDepth 100000
set_option linter.unusedVariables false

/-- what stands at some addresses -/
def objsAt (wr : List Addr) (h : Heap) : List (Addr × Obj) := wr.filterMap fun b => (h.get? b).map fun o => (b, o)
theorem mem_objsAt {wr : List Addr} {h : Heap} {p : Addr × Obj} : p ∈ objsAt wr h ↔ p.1 ∈ wr ∧ h.get? p.1 = some p.2 := by
  obtain ⟨a, o⟩ := p
  unfold objsAt
  rw [List.mem_filterMap]
  constructor
  · rintro ⟨b, hb, e⟩
    cases z : h.get? b with
    | none => rw [z] at e; cases e
    | some q => rw [z] at e; cases e; exact ⟨hb, z⟩
  · rintro ⟨h1, h2⟩
    exact ⟨a, h1, by rw [show h.get? a = some o from h2]; rfl⟩

section
variable {s₀ s : Shared} {g₀ g : Heap} {env : Env} {H : List (Addr × Obj)} {τ : Sto} {m cm : Str → Option Value}

theorem LvIn.hold {H' : List (Addr × Obj)} {v : Value} {lv : LV} (h : LvIn s₀ env H g s v lv) (hh : ∀ a, (s.heap.get? a).isSome → g.get? a = none → a ≠ env.locals → (∀ n c, env.cells.lookup n = some c → c ≠ a) → (∀ p ∈ H, p.1 ≠ a) → ∀ p ∈ H', p.1 ≠ a) : LvIn s₀ env H' g s v lv := by
  cases lv with
  | dat d => exact h
  | val u => exact h
  | obj P mp =>
    obtain ⟨a, o, rfl, h1, h2, h3, h4, h5, h6, h7⟩ := h
    exact ⟨a, o, rfl, h1, h2, h3, h4, h5, h6, hh a (by rw [h1]; rfl) h3 h5 h6 h7⟩
/-- fewer things are held -/
theorem FS.less (F : FS s₀ g₀ env H τ g m cm s) {H' : List (Addr × Obj)} (h : ∀ p ∈ H', p ∈ H) : FS s₀ g₀ env H' τ g m cm s :=
  ⟨F.call, F.st, F.gL, F.gC, fun p hp => F.hold p (h p hp), fun x lv e => let ⟨v, a, b⟩ := F.var x lv e; ⟨v, a, b.hold fun a _ _ _ _ q p hp => q p (h p hp)⟩, F.sep⟩
/-- new things are held -/
theorem FS.more (F : FS s₀ g₀ env H τ g m cm s) {old g' : Heap} {wr : List Addr} (F0 : FS s₀ g₀ env H τ g' m cm { s with heap := old }) (hw : ∀ b ∈ wr, old.get? b = none) (hg : ∀ b ∈ wr, g.get? b = none) : FS s₀ g₀ env (objsAt wr s.heap ++ H) τ g m cm s := by
  have none_of : ∀ {k : Heap} {b}, Sub k old → b ∈ wr → k.get? b = none := by
    intro k b hs hb
    cases z : k.get? b with
    | none => rfl
    | some o => have := hs _ _ z; rw [hw b hb] at this; cases this
  refine ⟨F.call, F.st, F.gL, F.gC, fun p hp => ?_, fun x lv e => ?_, F.sep⟩
  · rcases List.mem_append.mp hp with hp | hp
    · obtain ⟨h1, h2⟩ := mem_objsAt.mp hp
      refine ⟨h2, fun q => ?_, fun n c hc q => ?_, hg _ h1, none_of F0.st.hh h1⟩
      · obtain ⟨o, _, _, ho, _⟩ := F0.call.toInCall.ns
        have := hw _ h1
        rw [q] at this
        have ho' : old.get? env.locals = some o := ho
        rw [ho'] at this; cases this
      · obtain ⟨o, ho, _⟩ := F0.call.cell n c hc
        have := hw _ h1
        rw [← q] at this
        have ho' : old.get? c = some o := ho
        rw [ho'] at this; cases this
    · exact F.hold p hp
  · obtain ⟨v, a, b⟩ := F.var x lv e
    obtain ⟨v0, a0, b0⟩ := F0.var x lv e
    have hv := a.fun a0
    subst hv
    refine ⟨v, a, ?_⟩
    cases lv with
    | dat d => exact b
    | val u => exact b
    | obj P mp =>
      obtain ⟨ad, o, rfl, h1, h2, h3, h4, h5, h6, h7⟩ := b
      obtain ⟨ad', o', e', k1, _⟩ := b0
      cases e'
      refine ⟨ad, o, rfl, h1, h2, h3, h4, h5, h6, fun p hp => ?_⟩
      rcases List.mem_append.mp hp with hp | hp
      · obtain ⟨q1, q2⟩ := mem_objsAt.mp hp
        intro q
        have := hw _ q1
        rw [q] at this
        have k1' : old.get? ad = some o' := k1
        rw [k1'] at this; cases this
      · exact h7 p hp
/-- the held things have been turned -/
theorem FS.wrote {wr : List Addr} (F : FS s₀ g₀ env (objsAt wr s.heap ++ H) τ g m cm s) {h' : Heap} {tk : Tok} (hd : ∀ p ∈ H, p.1 ∉ wr) (hl : ∀ b ∈ wr, (s.heap.get? b).isSome) (hk : ∀ b o, b ∉ wr → s.heap.get? b = some o → h'.get? b = some o) :
    FS s₀ g₀ env (objsAt wr h' ++ H) τ g m cm { s with heap := h', toks := tk } := by
  have at_ : ∀ b ∈ wr, b ≠ env.locals ∧ (∀ n c, env.cells.lookup n = some c → c ≠ b) ∧ g.get? b = none ∧ s₀.heap.get? b = none := by
    intro b hb
    obtain ⟨o, ho⟩ := Option.isSome_iff_exists.mp (hl b hb)
    obtain ⟨_, h2, h3, h4, h5⟩ := F.hold (b, o) (List.mem_append_left _ (mem_objsAt.mpr ⟨hb, ho⟩))
    exact ⟨h2, h3, h4, h5⟩
  have ns := F.call.toInCall.ns
  have keep0 : Sub s₀.heap h' := fun b o e => hk b o (fun q => by have := (at_ b q).2.2.2; rw [this] at e; cases e) (F.call.toInCall.keep b o e)
  have keepg : Sub g h' := fun b o e => hk b o (fun q => by have := (at_ b q).2.2.1; rw [this] at e; cases e) (F.st.gh b o e)
  refine ⟨⟨⟨?_, ?_, keep0, F.call.toInCall.fresh⟩, fun n c hc => ?_, F.call.apart, F.call.above⟩, ⟨F.st.gg, keep0, keepg, F.st.new⟩, F.gL, F.gC, fun p hp => ?_, fun x lv e => ?_, F.sep⟩
  · obtain ⟨h₁, t, e⟩ := F.call.toInCall.same
    subst e
    exact ⟨h', tk, rfl⟩
  · obtain ⟨o, es, ep, ho, r⟩ := ns
    exact ⟨o, es, ep, hk _ _ (fun q => (at_ _ q).1 rfl) ho, r⟩
  · obtain ⟨o, ho, hd⟩ := F.call.cell n c hc
    exact ⟨o, hk _ _ (fun q => (at_ _ q).2.1 n c hc rfl) ho, hd⟩
  · rcases List.mem_append.mp hp with hp | hp
    · obtain ⟨h1, h2⟩ := mem_objsAt.mp hp
      obtain ⟨a1, a2, a3, a4⟩ := at_ _ h1
      exact ⟨h2, a1, a2, a3, a4⟩
    · obtain ⟨h1, h2, h3, h4, h5⟩ := F.hold p (List.mem_append_right _ hp)
      exact ⟨hk _ _ (hd p hp) h1, h2, h3, h4, h5⟩
  · obtain ⟨v, a, b⟩ := F.var x lv e
    refine ⟨v, a, ?_⟩
    cases lv with
    | dat d => exact b
    | val u => exact b
    | obj P mp =>
      obtain ⟨ad, o, rfl, h1, h2, h3, h4, h5, h6, h7⟩ := b
      have hadw : ad ∉ wr := fun q => by
        obtain ⟨o', ho'⟩ := Option.isSome_iff_exists.mp (hl ad q)
        exact h7 (ad, o') (List.mem_append_left _ (mem_objsAt.mpr ⟨q, ho'⟩)) rfl
      refine ⟨ad, o, rfl, hk _ _ hadw h1, h2, h3, h4, h5, h6, fun p hp => ?_⟩
      rcases List.mem_append.mp hp with hp | hp
      · exact fun q => hadw (q ▸ (mem_objsAt.mp hp).1)
      · exact h7 p (List.mem_append_right _ hp)
end

section
variable {X : Cx} {k : Nat} {sc : Scope} {τ : Sto} {s₀ s : Shared} {g₀ g : Heap} {env : Env} {H : List (Addr × Obj)} {m cm : Str → Option Value}

theorem FS.base (F : FS s₀ g₀ env H τ g m cm s) : FS s₀ g env H τ g m cm s := ⟨F.call, ⟨.rfl, F.st.hh, F.st.gh, fun _ _ e => .inl e⟩, F.gL, F.gC, F.hold, F.var, F.sep⟩
theorem step_base {g₀ g g2 h0 h h2 : Heap} (x : Step g₀ h0 g h) (y : Step g h0 g2 h2) : Step g₀ h0 g2 h2 :=
  ⟨x.gg.trans y.gg, y.hh, y.gh, fun b o e => by
    rcases y.new b o e with q | q
    · exact x.new b o q
    · exact .inr q⟩
theorem FS.unbase {g2 : Heap} {h : Heap} (x : Step g₀ s₀.heap g h) (F : FS s₀ g env H τ g2 m cm s) : FS s₀ g₀ env H τ g2 m cm s := ⟨F.call, step_base x F.st, F.gL, F.gC, F.hold, F.var, F.sep⟩

/-- what a loop's turn is to bring -/
def Turn (Inv : Sto → Prop) (R : Out → Prop) : Out → Prop
  | .next τ => Inv τ
  | .cont τ => Inv τ
  | .brk τ => R (.next τ)
  | .ret d => R (.ret d)

theorem Ex.forG {tg : Expr} {bd : Dat → Sto → Sto} {pos : Pos} {iter : Expr} {body : List Stmt} {ds : List Dat} {R : Out → Prop} (hit : Its X k sc τ iter ds) (Inv : Nat → Sto → Prop) (h0 : Inv 0 τ)
    (turn : ∀ i τ' d, ds[i]? = some d → Inv i τ' → Ex X k sc (bd d τ') (execs body) (Turn (Inv (i + 1)) R)) (done : ∀ τ', Inv ds.length τ' → R (.next τ')) 
    (asg : ∀ (A : Around) (E : Value → Shared → Prop) (env : Env) (s₀ : Shared) (g₀ : Heap) (H : List (Addr × Obj)) (g : Heap) (m cm : Str → Option Value) (s : Shared) (τ' : Sto) (v : Value) (d : Dat) (Q : Unit → Shared → Prop), Room A k → EnvOk env sc → FS s₀ g₀ env H τ' g m cm s → Rep g v d → d ∈ ds →
      (∀ m' cm' s', FS s₀ g₀ env H (bd d τ') g m' cm' s' → Q () s') → wpAny X.M A (PySem.assign tg env v) Q E s) :
    Ex X k sc τ (exec (.For tg iter body [] pos)) R := by
  intro A env s₀ g₀ H g m cm s E r o b F
  refine wpAny_For (wp_ev (hit.1 A env g s E r o.toEnvOk (b.trans F.st.gg) F.sto) fun xv g1 s1 k1 x1 p1 => ?_) (hit.2 env)
  have F1 := F.ev k1 x1
  refine wpAny_mono (p1 s1 x1.gh A E r) (fun it s2 ⟨k2, I, fp, wr, P, St, e, W⟩ => ?_) fun _ _ y => y
  subst e
  have x2 : Step g1 s1.heap g1 s2.heap := ⟨.rfl, kp_sub k2, x1.gh.trans (kp_sub k2), fun _ _ e => .inl e⟩
  have F2' := F1.ev k2 x2
  have hd : ∀ p ∈ H, p.1 ∉ wr := fun p hp q => by
    have := (F1.hold p hp).1
    rw [W.fresh _ q] at this; cases this
  have F1' : FS s₀ g₀ env H τ g1 m cm { s2 with heap := s1.heap } := by
    obtain ⟨h', tk, rfl, kp⟩ := k2
    exact F1.tok
  have F2 := F2'.more F1' W.fresh fun b hb => by
    cases z : g1.get? b with
    | none => rfl
    | some o' => have := x1.gh _ _ z; rw [W.fresh b hb] at this; cases this
  refine codeAny_forLoop_any (fun n s' => ∃ i τ' g' m' cm', n = ds.length - i ∧ i ≤ ds.length ∧ Inv i τ' ∧ FS s₀ g₀ env (objsAt wr s'.heap ++ H) τ' g' m' cm' s' ∧ St i s'.heap ∧ Sub g1 g') ?_ ds.length ⟨0, τ, g1, m, cm, rfl, Nat.zero_le _, h0, F2, W.start, .rfl⟩
  rintro n s3 ⟨i, τ', g', m', cm', rfl, hi, hI, F3, hst, hg1⟩
  have hlv := W.live i _ hst
  rcases Nat.lt_or_ge i ds.length with hlt | hge
  · refine (W.walks A r.hh).item i s3 _ _ hlt hst fun v h' tk hP hst' hk' => ?_
    have F4 := F3.wrote (tk := tk) hd hlv hk'
    obtain ⟨d, hd1, hr⟩ := W.item i v hP
    refine W.own (i + 1) A _ _ v { s3 with heap := h', toks := tk } _ hst' ?_
    refine asg A _ env s₀ g₀ _ _ _ _ _ _ v d _ r o F4 (hr.sub hg1) (List.mem_of_getElem? hd1) fun m5 cm5 s5 F5 => ?_
    have hst5 : St (i + 1) s5.heap := (W.walks A r.hh).frame _ _ _ hst' fun c hc ob e => by
      rcases W.foot c hc with hw | hg
      · exact (F5.hold (c, ob) (List.mem_append_left _ (mem_objsAt.mpr ⟨hw, e⟩))).1
      · obtain ⟨ob', hg⟩ := Option.isSome_iff_exists.mp hg
        have e1 := F4.st.gh _ _ (hg1 _ _ hg)
        have e1' : h'.get? c = some ob' := e1
        rw [e] at e1'; cases e1'
        exact F5.st.gh _ _ (hg1 _ _ hg)
    have same : ∀ {s6 : Shared} {τ6 g6 m6 cm6}, FS s₀ g₀ env (objsAt wr h' ++ H) τ6 g6 m6 cm6 s6 → Sub g1 g6 → FS s₀ g₀ env (objsAt wr s6.heap ++ H) τ6 g6 m6 cm6 s6 ∧ St (i + 1) s6.heap := by
      intro s6 τ6 g6 m6 cm6 F6 hg6
      have hat : ∀ c ∈ wr, s6.heap.get? c = h'.get? c := by
        intro c hc
        obtain ⟨ob, hob⟩ := Option.isSome_iff_exists.mp (W.live _ _ hst' c hc)
        rw [hob]
        exact (F6.hold (c, ob) (List.mem_append_left _ (mem_objsAt.mpr ⟨hc, hob⟩))).1
      refine ⟨F6.less fun p hp => ?_, (W.walks A r.hh).frame _ _ _ hst' fun c hc ob e => ?_⟩
      · rcases List.mem_append.mp hp with hp | hp
        · obtain ⟨q1, q2⟩ := mem_objsAt.mp hp
          exact List.mem_append_left _ (mem_objsAt.mpr ⟨q1, by rw [← hat _ q1]; exact q2⟩)
        · exact List.mem_append_right _ hp
      · rcases W.foot c hc with hw | hg
        · rw [hat c hw]; exact e
        · obtain ⟨ob', hg⟩ := Option.isSome_iff_exists.mp hg
          have e1 : h'.get? c = some ob' := F4.st.gh _ _ (hg1 _ _ hg)
          rw [e] at e1; cases e1
          exact F6.st.gh _ _ (hg6 _ _ hg)
    have F5b := F5.base
    refine wpAny_mono (turn i τ' d hd1 hI A env s₀ _ (objsAt wr h' ++ H) _ m5 cm5 s5 _ r o (b.trans F5.st.gg) F5b) (fun f s6 x => ?_) fun _ _ y => y
    cases f with
    | next =>
      obtain ⟨τ6, g6, m6, cm6, rr, F6⟩ := x
      obtain ⟨a1, a2⟩ := same (F6.unbase F5.st) (hg1.trans F6.st.gg)
      exact ⟨ds.length - (i + 1), by omega, i + 1, τ6, g6, m6, cm6, rfl, hlt, rr, a1, a2, hg1.trans F6.st.gg⟩
    | cont =>
      obtain ⟨τ6, g6, m6, cm6, rr, F6⟩ := x
      obtain ⟨a1, a2⟩ := same (F6.unbase F5.st) (hg1.trans F6.st.gg)
      exact ⟨ds.length - (i + 1), by omega, i + 1, τ6, g6, m6, cm6, rfl, hlt, rr, a1, a2, hg1.trans F6.st.gg⟩
    | brk =>
      obtain ⟨τ6, g6, m6, cm6, rr, F6⟩ := x
      exact ⟨τ6, g6, m6, cm6, rr, (F6.unbase F5.st).less fun p hp => List.mem_append_right _ hp⟩
    | ret v =>
      obtain ⟨d6, g6, rr, k6, x6, r6⟩ := x
      exact ⟨d6, g6, rr, k6, step_base F5.st x6, r6⟩
  · have hin : i = ds.length := by omega
    subst hin
    refine (W.walks A r.hh).done s3 _ _ hst fun h' tk hk' => ?_
    have F4 := F3.wrote (tk := tk) hd hlv hk'
    exact wpAny_execs_nil ⟨τ', g', m', cm', done τ' hI, F4.less fun p hp => List.mem_append_right _ hp⟩
theorem Ex.for_ {x : Str} {px pos : Pos} {iter : Expr} {body : List Stmt} {ds : List Dat} {R : Out → Prop} (hit : Its X k sc τ iter ds) (Inv : Nat → Sto → Prop) (h0 : Inv 0 τ)
    (turn : ∀ i τ' d, ds[i]? = some d → Inv i τ' → Ex X k sc (upd x (.dat d) τ') (execs body) (Turn (Inv (i + 1)) R)) (done : ∀ τ', Inv ds.length τ' → R (.next τ')) (hx : canStore sc x = true := by rfl) :
    Ex X k sc τ (exec (.For (.Name x px) iter body [] pos)) R :=
  Ex.forG (bd := fun d τ' => upd x (.dat d) τ') hit Inv h0 turn done fun A E env s₀ g₀ H g m cm s τ' v d Q r o F hr _ h => wpAny_assign_Name (wp_store (lv := .dat d) F o.toEnvOk hx (o.cells x) hr trivial h)

theorem Ex.while_ {test : Expr} {body : List Stmt} {pos : Pos} {R : Out → Prop} (Inv : Nat → Sto → Prop) (n : Nat) (h0 : Inv n τ)
    (turn : ∀ n τ', Inv n τ' → ∃ c, EvT X k sc τ' test c ∧ (c = true → Ex X k sc τ' (execs body) (Turn (fun τ => ∃ j, j < n ∧ Inv j τ) R)) ∧ (c = false → R (.next τ'))) :
    Ex X k sc τ (exec (.While test body [] pos)) R := by
  intro A env s₀ g₀ H g m cm s E r o b F
  refine wpAny_While ?_
  refine codeAny_whileLoop (fun n s' => ∃ τ' g' m' cm', Inv n τ' ∧ FS s₀ g₀ env H τ' g' m' cm' s') ?_ n ⟨τ, g, m, cm, h0, F⟩
  rintro n s1 ⟨τ', g', m', cm', hI, F1⟩
  obtain ⟨c, ht, h1, h2⟩ := turn n τ' hI
  refine wp_seq (ht A env g' s1 _ r o.toEnvOk (b.trans F1.st.gg) F1.sto) fun c' s2 ⟨e, k1, g2, x1⟩ => ?_
  subst e
  have F2 := F1.ev k1 x1
  cases c' with
  | false =>
    simp only [Bool.false_eq_true, if_false]
    exact wpAny_execs_nil ⟨τ', g2, m', cm', h2 rfl, F2⟩
  | true =>
    simp only [if_true]
    refine wpAny_mono (h1 rfl A env s₀ g₀ H g2 m' cm' s2 _ r o b F2) (fun f s6 x => ?_) fun _ _ y => y
    cases f with
    | next =>
      obtain ⟨τ6, g6, m6, cm6, ⟨j, hj, hI6⟩, F6⟩ := x
      exact ⟨j, hj, τ6, g6, m6, cm6, hI6, F6⟩
    | cont =>
      obtain ⟨τ6, g6, m6, cm6, ⟨j, hj, hI6⟩, F6⟩ := x
      exact ⟨j, hj, τ6, g6, m6, cm6, hI6, F6⟩
    | brk => exact x
    | ret v => exact x

/-- a list of the frame's own -/
def listP (ds : List Dat) (_ : Addr) (o : Obj) (g : Heap) : Prop := ∃ vs n, o = { cls := .type "list", data := .seq (List.toArray vs) n } ∧ RepAll g vs ds
def LV.list (ds : List Dat) : LV := .obj (listP ds) fun _ _ _ _ k ⟨vs, n, e, r⟩ => ⟨vs, n, e, r.sub k⟩

/-- x = [] -/
theorem Ex.assignNil {x : Str} {px pos pl : Pos} {R : Out → Prop} (hr : R (.next (upd x (LV.list []) τ))) (hx : canStore sc x = true := by rfl)
    (hs : ∀ env, swapsWith (.List [] pl) (some (.Name x px)) pos.line env = pure false := by intro _; rfl) : Ex X k sc τ (exec (.Assign [.Name x px] (.List [] pl) pos)) R := by
  intro A env s₀ g₀ H g m cm s E r o b F
  refine wpAny_Assign_Name (List_ (wpAny_items_nil (wpAny_newObj_type ?_))) (hs env)
  have k1 : Keeps s { s with heap := s.heap.push { cls := .type "list", data := .seq (List.toArray []) } } := kp_mk (Sub.push .rfl _)
  have x1 : Step g s.heap g (s.heap.push { cls := .type "list", data := .seq (List.toArray []) }) := ⟨.rfl, Sub.push .rfl _, F.st.gh.trans (Sub.push .rfl _), fun _ _ e => .inl e⟩
  have none_of : ∀ {h : Heap}, Sub h s.heap → h.get? s.heap.objs.size = none := by
    intro h hs
    cases z : h.get? s.heap.objs.size with
    | none => rfl
    | some o => have := hs _ _ z; rw [fresh_size] at this; cases this
  have ne_of : ∀ {a : Addr} {ob : Obj}, s.heap.get? a = some ob → a ≠ s.heap.objs.size := fun e q => by rw [q, fresh_size] at e; cases e
  refine wp_store (lv := LV.list []) (F.ev k1 x1) o.toEnvOk hx (o.cells x) ?_ ?_ fun m' cm' s'' F' => ⟨_, g, m', cm', hr, F'⟩
  · refine ⟨_, _, rfl, Heap.get?_push_size _ rfl, ⟨[], 0, rfl, .nil⟩, none_of F.st.gh, none_of F.st.hh, ?_, ?_, ?_⟩
    · obtain ⟨ob, _, _, ho, _⟩ := F.call.toInCall.ns
      exact (ne_of ho).symm
    · intro n c hc
      obtain ⟨ob, ho, _⟩ := F.call.cell n c hc
      exact ne_of ho
    · intro p hp
      exact ne_of (F.hold p hp).1
  · intro y P mp hy e hh
    obtain ⟨v, hv, lv⟩ := F.var y _ e
    obtain ⟨a, ob, rfl, ho, _⟩ := lv
    have := hv.fun hh
    cases this
    rw [fresh_size] at ho; cases ho

/-- the object of a name is turned -/
theorem FS.mutate {x : Str} {a : Addr} {P : Addr → Obj → Heap → Prop} {mp} {lv : LV} {P' : Addr → Obj → Heap → Prop} {mp'} {h' : Heap} {tk : Tok} (F : FS s₀ g₀ env H τ g m cm s) (hx : τ.lookup x = some (.obj P mp)) (hh : Holds env m cm x (.ref a))
    (hk : Heap.ExtBut a s.heap h') (ho : ∃ o', h'.get? a = some o' ∧ P' a o' g) : FS s₀ g₀ env H (upd x (.obj P' mp') τ) g m cm { s with heap := h', toks := tk } := by
  obtain ⟨v, hv, ad, o, e, h1, h2, h3, h4, h5, h6, h7⟩ := F.var x _ hx
  subst e
  have := hv.fun hh
  cases this
  have keep0 : Sub s₀.heap h' := fun b ob e => hk b ob (fun q => by rw [q, h4] at e; cases e) (F.call.toInCall.keep b ob e)
  have keepg : Sub g h' := fun b ob e => hk b ob (fun q => by rw [q, h3] at e; cases e) (F.st.gh b ob e)
  refine ⟨⟨⟨?_, ?_, keep0, F.call.toInCall.fresh⟩, fun n c hc => ?_, F.call.apart, F.call.above⟩, ⟨F.st.gg, keep0, keepg, F.st.new⟩, F.gL, F.gC, fun p hp => ?_, fun y l e => ?_, fun y z b P1 m1 Q1 m2 hyz e1 e2 q1 q2 => ?_⟩
  · obtain ⟨h₁, t, e⟩ := F.call.toInCall.same
    subst e
    exact ⟨h', tk, rfl⟩
  · obtain ⟨ob, es, ep, ho, r⟩ := F.call.toInCall.ns
    exact ⟨ob, es, ep, hk _ _ (fun q => h5 q.symm) ho, r⟩
  · obtain ⟨ob, ho, hd⟩ := F.call.cell n c hc
    exact ⟨ob, hk _ _ (h6 n c hc) ho, hd⟩
  · obtain ⟨k1, k2, k3, k4, k5⟩ := F.hold p hp
    exact ⟨hk _ _ (h7 p hp) k1, k2, k3, k4, k5⟩
  · rw [lookup_upd] at e
    by_cases q : y = x
    · rw [if_pos q] at e
      cases e
      subst q
      obtain ⟨o', ho', hp'⟩ := ho
      exact ⟨_, hh, a, o', rfl, ho', hp', h3, h4, h5, h6, h7⟩
    · rw [if_neg q] at e
      obtain ⟨u, hu, lu⟩ := F.var y l e
      refine ⟨u, hu, ?_⟩
      cases l with
      | dat d => exact lu
      | val u => exact lu
      | obj P2 mp2 =>
        obtain ⟨b, ob, rfl, k1, k2, k3⟩ := lu
        exact ⟨b, ob, rfl, hk _ _ (fun w => F.sep y x b P2 mp2 P mp q e hx hu (by rw [w]; exact hh)) k1, k2, k3⟩
  · rw [lookup_upd] at e1 e2
    by_cases qy : y = x
    · subst qy
      have qz : ¬ z = y := fun t => hyz t.symm
      rw [if_neg qz] at e2
      exact F.sep y z b P mp Q1 m2 hyz hx e2 q1 q2
    · rw [if_neg qy] at e1
      by_cases qz : z = x
      · subst qz
        exact F.sep y z b P1 m1 P mp hyz e1 hx q1 q2
      · rw [if_neg qz] at e2
        exact F.sep y z b P1 m1 Q1 m2 hyz e1 e2 q1 q2

/-- an object that is turned no more stands still from here on -/
theorem Ex.freezeObj {x : Str} {P : Addr → Obj → Heap → Prop} {mp} {d : Dat} {t : Env → Sem Flow} {R : Out → Prop} (hx : τ.lookup x = some (.obj P mp)) (hd : ∀ a o g g', P a o g → Sub g g' → g'.get? a = some o → Rep g' (.ref a) d)
    (h : Ex X k sc (upd x (.dat d) τ) t R) : Ex X k sc τ t R := by
  intro A env s₀ g₀ H g m cm s E r o b F
  obtain ⟨v, hv, ad, ob, e, h1, h2, h3, h4, h5, h6, h7⟩ := F.var x _ hx
  subst e
  have sg : Sub g (withObj g s.heap ad) := withObj_sub F.st.gh
  refine h A env s₀ g₀ H (withObj g s.heap ad) m cm s E r o b ⟨F.call, ⟨F.st.gg.trans sg, F.st.hh, withObj_in, fun c oc e => ?_⟩, withObj_other F.gL (fun q => h5 q.symm), fun n c hc => withObj_other (F.gC n c hc) (h6 n c hc), fun p hp => ?_, fun y l e => ?_, fun y z b P1 m1 Q1 m2 hyz e1 e2 q1 q2 => ?_⟩
  · by_cases q : c = ad
    · subst q; exact .inr h4
    · cases z : g.get? c with
      | some o' =>
        have h1 := sg _ _ z
        rw [e] at h1; cases h1
        exact F.st.new c oc z
      | none => rw [withObj_other z q] at e; cases e
  · obtain ⟨k1, k2, k3, k4, k5⟩ := F.hold p hp
    exact ⟨k1, k2, k3, withObj_other k4 (h7 p hp), k5⟩
  · rw [lookup_upd] at e
    by_cases q : y = x
    · rw [if_pos q] at e
      cases e
      subst q
      exact ⟨_, hv, hd ad ob g _ h2 sg (withObj_self h1)⟩
    · rw [if_neg q] at e
      obtain ⟨u, hu, lu⟩ := F.var y l e
      refine ⟨u, hu, ?_⟩
      cases l with
      | dat d => exact Rep.sub sg lu
      | val u => exact lu
      | obj P2 mp2 =>
        obtain ⟨c, oc, rfl, k1, k2, k3, k4⟩ := lu
        exact ⟨c, oc, rfl, k1, mp2 _ _ _ _ sg k2, withObj_other k3 (fun w => F.sep y x c P2 mp2 P mp q e hx hu (by rw [w]; exact hv)), k4⟩
  · rw [lookup_upd] at e1 e2
    by_cases qy : y = x
    · rw [if_pos qy] at e1; cases e1
    · rw [if_neg qy] at e1
      by_cases qz : z = x
      · rw [if_pos qz] at e2; cases e2
      · rw [if_neg qz] at e2
        exact F.sep y z b P1 m1 Q1 m2 hyz e1 e2 q1 q2
theorem Ex.freeze {x : Str} {ds : List Dat} {t : Env → Sem Flow} {R : Out → Prop} (hx : τ.lookup x = some (LV.list ds)) (h : Ex X k sc (upd x (.dat (.list ds)) τ) t R) : Ex X k sc τ t R :=
  Ex.freezeObj hx (fun a o g g' ⟨vs, n, e, r⟩ hs hg => by subst e; exact .list ⟨n, hg⟩ (r.sub hs)) h

theorem holds_name {A : Around} {E : Value → Shared → Prop} {x : Str} {pos : Pos} {v : Value} {Q : Value → Shared → Prop} (F : FS s₀ g₀ env H τ g m cm s) (o : DefEnv env sc) (hh : Holds env m cm x v) (h : Q v s) (hd : (x == ("__debug__" : Str)) = false := by decide) :
    wpAny X.M A (eval (.Name x pos) env) Q E s := by
  rcases hh with ⟨a, b⟩ | ⟨a, b, c⟩
  · exact wpAny_Name (wpAny_loadName_local o.ek a F.call.toInCall.ns b h) hd
  · obtain ⟨ad, hc⟩ := Option.isSome_iff_exists.mp b
    exact wpAny_Name (wpAny_loadName_cell o.ek a hc (c ▸ F.call.cell x ad hc) h) hd

/-- x.append(e) -/
theorem Ex.append {x : Str} {px apos cpos pos : Pos} {e : Expr} {ds : List Dat} {d : Dat} {R : Out → Prop} (hx : τ.lookup x = some (LV.list ds)) (h : Ev X k sc τ e d) (hr : R (.next (upd x (LV.list (ds ++ [d])) τ))) (hz : ds.length ≤ sizeLine)
    (hp : plainE e = true := by rfl) (hline : (apos.endLine == cpos.line) = true := by decide) (hd : (x == ("__debug__" : Str)) = false := by decide)
    (hs : ∀ env, swapsWith (.Call (.Attribute (.Name x px) "append" apos) [e] [] cpos) none pos.line env = pure false := by intro _; rfl) :
    Ex X k sc τ (exec (.Expr (.Call (.Attribute (.Name x px) "append" apos) [e] [] cpos) pos)) R := by
  intro A env s₀ g₀ H g m cm s E r o b F
  obtain ⟨v, hv, ad, ob, ev, h1, ⟨vs, n, eo, rp⟩, h3, h4, h5, h6, h7⟩ := F.var x _ hx
  subst ev; subst eo
  refine wpAny_Expr ?_ o.quiet (hs env)
  refine wpAny_Call_append (by rfl) (by rw [starEach_plain hp]; rfl) hline (by rw [starEach_plain hp]; rfl) (holds_name F o hv ⟨ad, vs.toArray, rfl, ⟨_, n, h1, rfl, rfl, rfl⟩, ?_⟩ hd)
  refine wp_ev (h A env g s E r o.toEnvOk (b.trans F.st.gg) F.sto) fun y g1 s1 k1 x1 p1 => ?_
  have F1 := F.ev k1 x1
  refine wpAny_list_append_plain (items := vs.toArray) ⟨n, x1.hh _ _ h1⟩ (fun h' hl hs' => ?_) (by rw [List.size_toArray, rp.length]; exact hz)
  refine ⟨_, g1, m, cm, hr, F1.mutate (lv := LV.list ds) hx hv hs'.extBut ?_⟩
  obtain ⟨n', hn'⟩ := hl
  exact ⟨_, hn', vs ++ [y], n', by simp, (RepAll.append (.one p1) (rp.sub x1.gg))⟩
end
end Mine

namespace Mine
open PySem PySem.W PyProof.Rows PySem.Calls
set_option Elab.async false
set_option maxRecDepth 100000
set_option linter.unusedVariables false

theorem bindL_off {kindOf : Str → Option NameKind} {n : Str} : ∀ (binds : List (Str × Value)) (m : Str → Option Value), n ∉ binds.map (·.1) → bindL kindOf binds m n = m n
  | [], _, _ => rfl
  | (y, v) :: r, m, h => by
    have h1 : n ≠ y := fun q => h (by simp [q])
    have h2 : n ∉ r.map (·.1) := fun q => h (by simp only [List.map_cons]; exact List.mem_cons_of_mem _ q)
    unfold bindL
    rw [bindL_off r _ h2]
    split
    · simp [h1]
    · rfl
theorem bindC_off {kindOf : Str → Option NameKind} {n : Str} : ∀ (binds : List (Str × Value)) (m : Str → Option Value), n ∉ binds.map (·.1) → bindC kindOf binds m n = m n
  | [], _, _ => rfl
  | (y, v) :: r, m, h => by
    have h1 : n ≠ y := fun q => h (by simp [q])
    have h2 : n ∉ r.map (·.1) := fun q => h (by simp only [List.map_cons]; exact List.mem_cons_of_mem _ q)
    unfold bindC
    rw [bindC_off r _ h2]
    split
    · rfl
    · simp [h1]
theorem bindL_at {kindOf : Str → Option NameKind} {n : Str} {v : Value} (hk : kindOf n = some .local) : ∀ (binds : List (Str × Value)) (m : Str → Option Value), (binds.map (·.1)).Nodup → (n, v) ∈ binds → bindL kindOf binds m n = some v
  | [], _, _, h => by cases h
  | (y, u) :: r, m, nd, h => by
    rw [List.map_cons, List.nodup_cons] at nd
    unfold bindL
    rcases List.mem_cons.mp h with e | h
    · cases e
      rw [bindL_off r _ nd.1, if_pos hk]
      simp
    · exact bindL_at hk r _ nd.2 h
theorem bindC_at {kindOf : Str → Option NameKind} {n : Str} {v : Value} (hk : kindOf n = some .cell) : ∀ (binds : List (Str × Value)) (m : Str → Option Value), (binds.map (·.1)).Nodup → (n, v) ∈ binds → bindC kindOf binds m n = some v
  | [], _, _, h => by cases h
  | (y, u) :: r, m, nd, h => by
    rw [List.map_cons, List.nodup_cons] at nd
    unfold bindC
    rcases List.mem_cons.mp h with e | h
    · cases e
      have : ¬ kindOf n = some .local := by rw [hk]; decide
      rw [bindC_off r _ nd.1, if_neg this]
      simp
    · exact bindC_at hk r _ nd.2 h

/-- a def stands in the module under its name -/
def IsDef (X : Cx) (f : Str) (params : Arguments) (body : List Stmt) (scope : Scope) : Prop :=
  ∃ a o pm code doc, X.mg f = some (.ref a) ∧ X.h0.get? a = some o ∧ o.data = .func (docDef f params body scope pm code doc) ∧ X.h0.CodeRec code f

def FnOut (P : Dat → Prop) : Out → Prop
  | .ret d => P d
  | .next _ => P .none
  | _ => False

def sto0 : List Str → List Dat → Sto
  | p :: ps, d :: ds => (p, .dat d) :: sto0 ps ds
  | _, _ => []
theorem sto0_at {g : Heap} : ∀ {ps : List Str} {ds : List Dat} {vs : List Value}, RepAll g vs ds → ∀ {x : Str} {lv : LV}, (sto0 ps ds).lookup x = some lv → ∃ v d, (x, v) ∈ ps.zip vs ∧ lv = .dat d ∧ Rep g v d
  | [], _, _, _, x, lv, e => by simp [sto0] at e
  | _ :: _, [], _, _, x, lv, e => by simp [sto0] at e
  | p :: ps, d :: ds, _, .cons (v := v) (vs := vs) a r, x, lv, e => by
    unfold sto0 at e
    rw [List.lookup_cons] at e
    by_cases h : x = p
    · subst h
      simp only [beq_self_eq_true] at e
      cases e
      exact ⟨v, d, by simp, rfl, a⟩
    · have : (x == p) = false := by simpa using h
      rw [this] at e
      obtain ⟨v', d', h1, h2, h3⟩ := sto0_at r e
      exact ⟨v', d', by rw [List.zip_cons_cons]; exact List.mem_cons_of_mem _ h1, h2, h3⟩

theorem Fn.intro {X : Cx} {k : Nat} {f : Str} {params : Arguments} {body : List Stmt} {scope : Scope} {ds : List Dat} {P : Dat → Prop} (D : IsDef X f params body scope) (ps : List Str) (hlen : ps.length = ds.length)
    (hbind : ∀ pm code doc (vs : List Value), vs.length = ds.length → bindArgs (docDef f params body scope pm code doc) ⟨vs, []⟩ = pure (ps.zip vs))
    (hnd : ps.Nodup) (hkinds : (ps.all fun y => scope.names.lookup y == some .local || scope.names.lookup y == some .cell) = true)
    (h : Ex X k scope (sto0 ps ds) (execs body) (FnOut P)) (hk : scope.kind = .function := by rfl) (hco : scope.isCoroutine = false := by rfl) (hgen : scope.isGenerator = false := by rfl) :
    Fn X (k + 1) f ds fun g v => ∃ d, P d ∧ Rep g v d := by
  obtain ⟨a, o, pm, code, doc, h1, h2, h3, h4⟩ := D
  refine ⟨a, o, _, h1, h2, h3, ?_⟩
  intro g s vs b0 kk r A E rm
  have hl : vs.length = ds.length := r.length
  have hz : (ps.zip vs).map (·.1) = ps := by
    rw [List.map_fst_zip]; omega
  have hkk : ∀ n, ∀ x ∈ ps.zip vs, scope.names.lookup x.1 = some .local ∨ (scope.names.lookup x.1 = some .cell ∧ ((cellsFrom n scope.names []).lookup x.1).isSome = true) := by
    refine kindsX ?_
    rw [List.all_eq_true]
    intro y hy
    exact List.all_eq_true.mp hkinds y.1 (List.of_mem_zip hy).1
  refine wpAny_call (codeAny_call_cells (a := a) rm.room (kk _ _ (b0 _ _ h2)) h3 (X.hl.keeps (b0.trans kk)) (h4.keeps (b0.trans kk)) rfl (hbind pm code doc vs hl) rfl (hkk _) (fun s₁ C => ?_) hco hgen hk)
  have o : DefEnv (callEnvC (docDef f params body scope pm code doc) s.heap.objs.size a) scope := ⟨rfl, hk, rfl, rfl, fun x hx => cellsFrom_some _ _ _ (.inl hx)⟩
  have none_of : ∀ {b}, s.heap.objs.size ≤ b → g.get? b = none := by
    intro b hb
    cases z : g.get? b with
    | none => rfl
    | some o => exact absurd (Heap.lt_size (kk _ _ z)) (Nat.not_lt.mpr hb)
  have F : FS s g (callEnvC (docDef f params body scope pm code doc) s.heap.objs.size a) [] (sto0 ps ds) g (bindL (callEnvC (docDef f params body scope pm code doc) s.heap.objs.size a).kindOf (ps.zip vs) fun _ => none) (bindC (callEnvC (docDef f params body scope pm code doc) s.heap.objs.size a).kindOf (ps.zip vs) fun _ => none) s₁ := by
    refine ⟨C, ⟨.rfl, C.toInCall.keep, kk.trans C.toInCall.keep, fun _ _ e => .inl e⟩, none_of C.toInCall.fresh, fun n c hc => none_of (Nat.le_of_lt (Nat.lt_of_le_of_lt C.toInCall.fresh (C.above n c (mem_of_lookup hc)))), fun p hp => (nomatch hp), fun x lv e => ?_, fun x y a P mp Q mq _ e1 _ _ => ?_⟩
    · obtain ⟨v, d, hm, rfl, hr⟩ := sto0_at r e
      refine ⟨v, ?_, hr⟩
      rcases hkk (s.heap.objs.size + 1) _ hm with hq | ⟨hq, hq2⟩
      · exact .inl ⟨hq, bindL_at hq _ _ (hz.symm ▸ hnd) hm⟩
      · exact .inr ⟨hq, hq2, bindC_at hq _ _ (hz.symm ▸ hnd) hm⟩
    · obtain ⟨v, d, hm, e', hr⟩ := sto0_at r e1
      cases e'
  refine wpAny_mono (h (A.deeper _) _ s g [] g _ _ s₁ _ (rm.deeper _) o b0 F) (fun fl s' x => ?_) fun _ _ y => y
  cases fl with
  | next =>
    obtain ⟨τ', g', m', cm', rr, F'⟩ := x
    exact ⟨F'.done, g', F'.st, .none, rr, .none⟩
  | brk => obtain ⟨_, _, _, _, rr, _⟩ := x; exact rr.elim
  | cont => obtain ⟨_, _, _, _, rr, _⟩ := x; exact rr.elim
  | ret v =>
    obtain ⟨d, g', rr, k1, x1, r1⟩ := x
    exact ⟨k1, g', x1, d, rr, r1⟩
theorem Fn.mono {X : Cx} {k : Nat} {f : Str} {ds : List Dat} {P P' : Heap → Value → Prop} (h : Fn X k f ds P) (hp : ∀ g v, P g v → P' g v) : Fn X k f ds P' := by
  obtain ⟨a, o, fd, h1, h2, h3, hop⟩ := h
  exact ⟨a, o, fd, h1, h2, h3, fun g s vs b0 kk r A E rm => wpAny_mono (hop g s vs b0 kk r A E rm) (fun _ _ x => x.mono fun g' => hp g' _) fun _ _ y => y⟩
theorem Fn.le {X : Cx} {k j : Nat} {f : Str} {ds : List Dat} {P : Heap → Value → Prop} (h : Fn X k f ds P) (hj : k ≤ j) : Fn X j f ds P := by
  obtain ⟨a, o, fd, h1, h2, h3, hop⟩ := h
  exact ⟨a, o, fd, h1, h2, h3, fun g s vs b0 kk r A E rm => hop g s vs b0 kk r A E (rm.le hj)⟩
/-- a def that yields one datum -/
abbrev FnD (X : Cx) (k : Nat) (f : Str) (ds : List Dat) (d : Dat) : Prop := Fn X k f ds fun g v => Rep g v d
theorem FnD.intro {X : Cx} {k : Nat} {f : Str} {params : Arguments} {body : List Stmt} {scope : Scope} {ds : List Dat} {d : Dat} (D : IsDef X f params body scope) (ps : List Str) (hlen : ps.length = ds.length)
    (hbind : ∀ pm code doc (vs : List Value), vs.length = ds.length → bindArgs (docDef f params body scope pm code doc) ⟨vs, []⟩ = pure (ps.zip vs))
    (hnd : ps.Nodup) (hkinds : (ps.all fun y => scope.names.lookup y == some .local || scope.names.lookup y == some .cell) = true)
    (h : Ex X k scope (sto0 ps ds) (execs body) (FnOut (· = d))) (hk : scope.kind = .function := by rfl) (hco : scope.isCoroutine = false := by rfl) (hgen : scope.isGenerator = false := by rfl) : FnD X (k + 1) f ds d :=
  (Fn.intro D ps hlen hbind hnd hkinds h hk hco hgen).mono fun g v ⟨d', e, r⟩ => e ▸ r
end Mine

namespace Mine
open PySem PySem.W PyProof.Rows PySem.Calls
set_option Elab.async false
set_option maxRecDepth 100000
set_option linter.unusedVariables false

theorem closure_of {env : Env} : ∀ (names : List (Str × NameKind)) (acc : List (Str × Addr)), (∀ y ∈ names, y.2 = .free → (env.cells.lookup y.1).isSome = true) →
    ∃ cl, (forIn names acc fun (x : Str × NameKind) (r : List (Str × Addr)) => (if (x.2 == .free) = true then do let a ← cellOf env x.1; pure (ForInStep.yield ((x.1, a) :: r)) else pure (ForInStep.yield r) : Sem _)) = pure cl ∧
      (∀ n, (n, NameKind.free) ∈ names → cl.lookup n = env.cells.lookup n ∨ ∃ c, env.cells.lookup n = some c ∧ cl.lookup n = some c) ∧ (∀ n, (n, NameKind.free) ∉ names → cl.lookup n = acc.lookup n)
  | [], acc, _ => ⟨acc, rfl, fun _ h => (nomatch h), fun _ _ => rfl⟩
  | (y, kd) :: r, acc, h => by
    by_cases hk : kd = .free
    · subst hk
      obtain ⟨c, hc⟩ := Option.isSome_iff_exists.mp (h (y, .free) (.head _) rfl)
      obtain ⟨cl, h1, h2, h3⟩ := closure_of r ((y, c) :: acc) fun z hz => h z (.tail _ hz)
      refine ⟨cl, ?_, fun n hn => ?_, fun n hn => ?_⟩
      · rw [List.forIn_cons]
        have : cellOf env y = pure c := by unfold cellOf; rw [hc]
        simp only [beq_self_eq_true, if_true, this, pure_bind]
        exact h1
      · by_cases hr : (n, NameKind.free) ∈ r
        · exact h2 n hr
        · rcases List.mem_cons.mp hn with e | e
          · cases e
            refine .inr ⟨c, hc, ?_⟩
            rw [h3 _ hr]; simp
          · exact absurd e hr
      · have hne : ¬ n = y := fun q => hn (q ▸ .head _)
        rw [h3 n fun q => hn (.tail _ q), List.lookup_cons]
        have : (n == y) = false := by simpa using hne
        rw [this]
    · obtain ⟨cl, h1, h2, h3⟩ := closure_of r acc fun z hz => h z (.tail _ hz)
      have hkb : (kd == NameKind.free) = false := by simpa using hk
      refine ⟨cl, ?_, fun n hn => ?_, fun n hn => h3 n fun q => hn (.tail _ q)⟩
      · rw [List.forIn_cons]
        simp only [hkb, Bool.false_eq_true, if_false, pure_bind]
        exact h1
      · rcases List.mem_cons.mp hn with e | e
        · cases e; exact absurd rfl hk
        · exact h2 n e
theorem closureFor_of {env : Env} {scope : Scope} (h : ∀ y ∈ scope.names, y.2 = .free → (env.cells.lookup y.1).isSome = true) : ∃ cl, closureFor scope env = pure cl ∧ ∀ n, (n, NameKind.free) ∈ scope.names → cl.lookup n = env.cells.lookup n := by
  obtain ⟨cl, h1, h2, _⟩ := closure_of (env := env) scope.names [] h
  refine ⟨cl, ?_, fun n hn => ?_⟩
  · unfold closureFor
    show (forIn scope.names [] _ >>= fun r => pure r) = _
    rw [show (forIn scope.names ([] : List (Str × Addr)) fun (x : Str × NameKind) (r : List (Str × Addr)) => (match x with | (name, kind) => do
        if (kind == .free) = true then do let a ← cellOf env name; pure (ForInStep.yield ((name, a) :: r)) else pure (ForInStep.yield r) : Sem _)) = pure cl from h1]
    rfl
  · rcases h2 n hn with e | ⟨c, e1, e2⟩
    · exact e
    · rw [e1, e2]

/-- the scope of a comprehension, as it is read within a def -/
def relab (sc : Scope) (p : Str × NameKind) : Str × NameKind := if (p.2 == .free && sc.names.lookup p.1 == some .cell) = true then (p.1, .cell) else p
def relabelS (scope sc : Scope) : Scope := { scope with names := scope.names.map (relab sc) }
theorem relabel_eq {env : Env} {scope sc : Scope} (o : EnvOk env sc) : relabel scope env = relabelS scope sc := by
  unfold relabel relabelS
  have e : env.kindOf = fun n => sc.names.lookup n := by funext n; exact o.kindOf rfl
  have e2 : (fun (x : Str × NameKind) => match x with | (n, k) => if (k == .free && env.scope.kind == .function && env.kindOf n == some .cell) = true then (n, NameKind.cell) else (n, k)) = relab sc := by
    funext x
    obtain ⟨n, k⟩ := x
    unfold relab
    rw [o.ek, e]
    simp
  rw [e2]
theorem lookup_relabelS {sc : Scope} {y : Str} {kd : NameKind} : ∀ {names : List (Str × NameKind)}, names.lookup y = some kd → (names.map (relab sc)).lookup y = some (if (kd == .free && sc.names.lookup y == some .cell) = true then .cell else kd)
  | [], h => by simp at h
  | (n, k) :: r, h => by
    have e1 : (relab sc (n, k)).1 = n := by unfold relab; split <;> rfl
    rw [List.map_cons]
    cases hr : relab sc (n, k) with | mk a b =>
    rw [hr] at e1
    have e1' : a = n := e1
    subst e1'
    rw [List.lookup_cons] at h ⊢
    cases hx : y == a with
    | true =>
      rw [hx] at h
      dsimp only at h ⊢
      cases h
      have := beq_iff_eq.mp hx
      subst this
      unfold relab at hr
      dsimp only at hr
      split at hr
      · rename_i q; rw [if_pos q]; cases hr; rfl
      · rename_i q; rw [if_neg q]; cases hr; rfl
    | false =>
      rw [hx] at h
      exact lookup_relabelS (sc := sc) (names := r) h

/-- a comprehension's tests -/
def Tests (X : Cx) (k : Nat) (sc : Scope) (σ : Sto) (ifs : List Expr) (b : Bool) : Prop := (ifs = [] ∧ b = true) ∨ ∃ c, ifs = [c] ∧ EvT X k sc σ c b

/-- what stands around a comprehension, as it is read within -/
structure Caps (sc scope : Scope) (τ cap : Sto) : Prop where
  sub : ∀ y d, cap.lookup y = some (.dat d) → τ.lookup y = some (.dat d) ∧ (y, NameKind.free) ∈ scope.names ∧ scope.names.lookup y = some .free ∧ sc.names.lookup y = some .cell
  noval : ∀ y u, cap.lookup y ≠ some (.val u)
  obj : ∀ y P mp, cap.lookup y = some (.obj P mp) → τ.lookup y = some (.obj P mp) ∧ (y, NameKind.free) ∈ scope.names ∧ scope.names.lookup y = some .free ∧ sc.names.lookup y = some .cell
structure CompOk (sc scope : Scope) : Prop where
  kind : scope.kind = .function
  nocell : ∀ y ∈ scope.names, y.2 ≠ .cell
  free : ∀ y ∈ scope.names, y.2 = .free → sc.names.lookup y.1 = some .cell
  names : ∀ y ∈ scope.names, y.2 = .local → scope.names.lookup y.1 = some .local
  frees : ∀ y ∈ scope.names, y.2 = .free → scope.names.lookup y.1 = some .free

section
variable {X : Cx} {k : Nat} {sc scope : Scope} {τ cap : Sto}

theorem compEnv_ok {env : Env} {cl : List (Str × Addr)} {C : Addr} (o : EnvOk env sc) (c : CompOk sc scope) (hcl : ∀ n, (n, NameKind.free) ∈ scope.names → cl.lookup n = env.cells.lookup n) : EnvOk (compEnvC scope cl C env) (relabelS scope sc) where
  scope := relabel_eq o
  kind := c.kind
  glob := o.glob
  bi := o.bi
  cells := fun x hx => by
    have : ∃ kd, (x, kd) ∈ scope.names ∧ (kd = .cell ∨ (kd = .free)) := by
      have hm := mem_of_lookup hx
      obtain ⟨⟨n, kd⟩, h1, h2⟩ := List.mem_map.mp hm
      unfold relab at h2
      dsimp only at h2
      split at h2
      · rename_i hq
        cases h2
        exact ⟨kd, h1, .inr (by simpa using (Bool.and_eq_true_iff.mp hq).1)⟩
      · cases h2
        exact ⟨_, h1, .inl rfl⟩
    obtain ⟨kd, h1, h2⟩ := this
    rcases h2 with rfl | rfl
    · exact absurd rfl (c.nocell _ h1)
    · show (cl.lookup x).isSome = true
      rw [hcl x h1]
      exact o.cells x (c.free _ h1 rfl)

/-- the turns of a comprehension; bd tells what its names hold of an item -/
structure EltsG (X : Cx) (k : Nat) (sc scope : Scope) (cap : Sto) (bd : Dat → Sto) (ifs : List Expr) (elt : Expr) (ds : List Dat) (fz : List (Option Dat)) : Prop where
  len : fz.length = ds.length
  some_ : ∀ (i : Nat) (d y : Dat), ds[i]? = some d → fz[i]? = some (some y) → Tests X k (relabelS scope sc) (bd d ++ cap) ifs true ∧ Ev X k (relabelS scope sc) (bd d ++ cap) elt y
  none_ : ∀ (i : Nat) (d : Dat), ds[i]? = some d → fz[i]? = some (none : Option Dat) → Tests X k (relabelS scope sc) (bd d ++ cap) ifs false
abbrev Elts (X : Cx) (k : Nat) (sc scope : Scope) (cap : Sto) (x : Str) (ifs : List Expr) (elt : Expr) (ds : List Dat) (fz : List (Option Dat)) : Prop := EltsG X k sc scope cap (fun d => [(x, .dat d)]) ifs elt ds fz

/-- the binding of a comprehension's names -/
def AsgOk (X : Cx) (k : Nat) (sc scope : Scope) (τ cap : Sto) (tg : Expr) (bd : Dat → Sto) (ds : List Dat) : Prop :=
  ∀ (A : Around) (E : Value → Shared → Prop) (env : Env) (cl : List (Str × Addr)) (C : Addr) (g g' : Heap) (s s' : Shared) (v : Value) (d : Dat) (m : Str → Option Value) (Q : Unit → Shared → Prop), Room A k → EnvOk env sc → CompOk sc scope → Caps sc scope τ cap →
    (∀ n, (n, NameKind.free) ∈ scope.names → cl.lookup n = env.cells.lookup n) → StoIn τ env g s → Step g s.heap g' s'.heap → s'.heap.Ns C m → g'.get? C = none → s.heap.get? C = none → Rep g' v d → d ∈ ds →
    (∀ m2 h2 tk, (∀ b o, b ≠ C → s'.heap.get? b = some o → h2.get? b = some o) → h2.Ns C m2 → StoIn (bd d ++ cap) (compEnvC scope cl C env) g' { s' with heap := h2, toks := tk } → Q () { s' with heap := h2, toks := tk }) →
    wpAny X.M A (PySem.assign tg (compEnvC scope cl C env) v) Q E s'
theorem comp_stoG {env : Env} {cl : List (Str × Addr)} {C : Addr} {g g' : Heap} {s s' : Shared} {bs : Sto} {m : Str → Option Value} (o : EnvOk env sc) (c : CompOk sc scope) (cp : Caps sc scope τ cap) (hcl : ∀ n, (n, NameKind.free) ∈ scope.names → cl.lookup n = env.cells.lookup n)
    (hb : ∀ y lv, bs.lookup y = some lv → ∃ v d, lv = .dat d ∧ scope.names.lookup y = some .local ∧ m y = some v ∧ Rep g' v d) (q : StoIn τ env g s) (t : Step g s.heap g' s'.heap) (ns : s'.heap.Ns C m) : StoIn (bs ++ cap) (compEnvC scope cl C env) g' s' where
  sub := t.gh
  var := fun y e he => by
    rw [List.lookup_append] at he
    cases hy : bs.lookup y with
    | some lv =>
      rw [hy] at he
      obtain ⟨v, d, e1, e2, e3, e4⟩ := hb y lv hy
      subst e1
      simp at he
      subst he
      refine ⟨v, .inl ⟨?_, m, ns, e3⟩, e4⟩
      show (relabel scope env).names.lookup y = _
      rw [relabel_eq o]
      exact (lookup_relabelS (sc := sc) e2).trans (by rfl)
    | none =>
      rw [hy] at he
      simp at he
      obtain ⟨h1, h2, h3, h4⟩ := cp.sub y e he
      obtain ⟨u, hu, hr⟩ := q.var y e h1
      refine ⟨u, .inr ?_, hr.sub t.gg⟩
      rcases hu with ⟨a, _⟩ | ⟨a, ad, hc, hcell⟩
      · rw [o.kindOf h4] at a; cases a
      · refine ⟨.inl ?_, ad, ?_, hcell.keeps t.hh⟩
        · show (relabel scope env).names.lookup y = _
          rw [relabel_eq o]
          refine (lookup_relabelS (sc := sc) h3).trans ?_
          rw [h4]; rfl
        · show cl.lookup y = some ad
          rw [hcl y h2]; exact hc
  val := fun y u he => by
    rw [List.lookup_append] at he
    cases hy : bs.lookup y with
    | some lv =>
      rw [hy] at he
      obtain ⟨v, d, e1, _⟩ := hb y lv hy
      subst e1
      simp at he
    | none =>
      rw [hy] at he
      simp at he
      exact absurd he (cp.noval y u)
  obj := fun y P mp he => by
    rw [List.lookup_append] at he
    cases hy : bs.lookup y with
    | some lv =>
      rw [hy] at he
      obtain ⟨v, d, e1, _⟩ := hb y lv hy
      subst e1
      simp at he
    | none =>
      rw [hy] at he
      simp at he
      obtain ⟨h1, h2, h3, h4⟩ := cp.obj y P mp he
      obtain ⟨oa, ob, hu, ho, hp⟩ := q.obj y P mp h1
      refine ⟨oa, ob, .inr ?_, t.hh _ _ ho, mp _ _ _ _ t.gg hp⟩
      rcases hu with ⟨a, _⟩ | ⟨a, ad, hc, hcell⟩
      · rw [o.kindOf h4] at a; cases a
      · refine ⟨.inl ?_, ad, ?_, hcell.keeps t.hh⟩
        · show (relabel scope env).names.lookup y = _
          rw [relabel_eq o]
          refine (lookup_relabelS (sc := sc) h3).trans ?_
          rw [h4]; rfl
        · show cl.lookup y = some ad
          rw [hcl y h2]; exact hc

theorem asg_name {x : Str} {px : Pos} {ds : List Dat} (hx : scope.names.lookup x = some .local) : AsgOk X k sc scope τ cap (.Name x px) (fun d => [(x, .dat d)]) ds := by
  intro A E env cl C g g' s s' v d m Q r o c cp hcl q t ns gC sC hv hd h
  have oc : EnvOk (compEnvC scope cl C env) (relabelS scope sc) := compEnv_ok o c hcl
  refine wpAny_assign_Name (wpAny_storeName_local (m := m) (oc.kindOf ((lookup_relabelS (sc := sc) hx).trans (by rfl))) ns (fun h₂ hn₂ hs₂ => ?_) oc.plain)
  have up2 : ∀ b ob, b ≠ C → s'.heap.get? b = some ob → h₂.get? b = some ob := fun b ob hb e => hs₂.extBut b ob hb e
  have x3 : Step g s.heap g' h₂ := ⟨t.gg, fun b ob e => up2 b ob (fun z => by rw [z, sC] at e; cases e) (t.hh _ _ e), fun b ob e => up2 b ob (fun z => by rw [z, gC] at e; cases e) (t.gh _ _ e), t.new⟩
  refine h _ h₂ _ up2 hn₂ (comp_stoG (s' := { s' with heap := h₂, toks := s'.toks + 1 }) (m := fun y => if y = x then some v else m y) o c cp hcl (fun y lv hy => ?_) q x3 hn₂)
  rw [List.lookup_cons] at hy
  by_cases e : y = x
  · subst e
    simp at hy
    exact ⟨v, d, hy.symm, hx, by simp, hv⟩
  · have : (y == x) = false := by simpa using e
    rw [this] at hy
    simp at hy
/-- a comprehension's loop, whatever its target -/
theorem compLoop_any {prog : Program} {w : World} {A : Around} {R : Result → Shared → Prop} {s : Shared} {elt target iter : Expr} {ifs : List Expr} {scope : Scope} {pos : Pos} {it acc : Value} {env : Env} (I : Nat → Shared → Prop)
    (turn : ∀ n s, I n s → wpAny (model prog w) A (pyNext it) (fun r s₁ => match r with
      | none => R (.ok .next) s₁
      | some v => wpAny (model prog w) A (letOwnedTupleGo target it v) (fun _ s₁' => wpAny (model prog w) A (PySem.assign target env v) (fun _ s₂ =>
          wpAny (model prog w) A (forIn ifs true fun c r => if r = true then do let ok ← isTrue c env (eval c env); pure (ForInStep.yield ok) else pure (ForInStep.yield r)) (fun ok s₃ =>
            if ok = true then wpAny (model prog w) A (eval elt env) (fun x s₄ =>
              wpAny (model prog w) A (call (.builtin "list.append") [acc, x]) (fun _ s₅ => ∃ m, m < n ∧ I m s₅) (notedBy (model prog w) A env fun e s' => R (.error e) s') s₄) (notedBy (model prog w) A env fun e s' => R (.error e) s') s₃
            else ∃ m, m < n ∧ I m s₃) (notedBy (model prog w) A env fun e s' => R (.error e) s') s₂) (notedBy (model prog w) A env fun e s' => R (.error e) s') s₁') (notedBy (model prog w) A env fun e s' => R (.error e) s') s₁) (notedBy (model prog w) A env fun e s' => R (.error e) s') s)
    (n : Nat) (h : I n s) : codeAny (model prog w) A (.compLoop (.ListComp elt [⟨target, iter, ifs, 0⟩] scope pos) 0 it acc env) R s := by
  refine codeAny_loop rfl I (fun n s hI => ?_) n h
  show wpAny _ A ((compTurn (.ListComp elt [⟨target, iter, ifs, 0⟩] scope pos) 0 it acc env).onRaise (fun x => do noteFrame x env; theTreesLotGoes x)) _ _ s
  refine wpAny_noted ?_
  rw [compTurn_list]
  refine wpAny_bind (wpAny_standAt (wpAny_bind (wpAny_mono (turn n s hI) (fun r s₁ h₁ => ?_) fun _ _ h' => h')))
  cases r with
  | none => exact wpAny_pure h₁
  | some v =>
    refine wpAny_bind (wpAny_mono h₁ (fun _ s₁' h₁' => ?_) fun _ _ h' => h')
    refine wpAny_bind (wpAny_mono h₁' (fun _ s₂ h₂ => wpAny_bind (wpAny_mono h₂ (fun ok s₃ h₃ => ?_) fun _ _ h' => h')) fun _ _ h' => h')
    cases ok with
    | false => exact wpAny_pure ⟨rfl, h₃⟩
    | true => exact wpAny_bind (wpAny_bind (wpAny_mono h₃ (fun x s₄ h₄ => wpAny_bind (wpAny_mono h₄ (fun _ s₅ h₅ => wpAny_pure (wpAny_pure ⟨rfl, h₅⟩)) fun _ _ h' => h')) fun _ _ h' => h'))

theorem wp_tests {A : Around} {env : Env} {g : Heap} {s : Shared} {E : Value → Shared → Prop} {σ : Sto} {ifs : List Expr} {b : Bool} (h : Tests X k sc σ ifs b) (r : Room A k) (o : EnvOk env sc) (bs : Sub X.h0 g) (q : StoIn σ env g s) :
    wpAny X.M A (forIn ifs true fun c r => if r = true then do let ok ← isTrue c env (eval c env); pure (ForInStep.yield ok) else pure (ForInStep.yield r)) (fun c s' => c = b ∧ Keeps s s' ∧ ∃ g', Step g s.heap g' s'.heap) E s := by
  rcases h with ⟨rfl, rfl⟩ | ⟨c, rfl, h⟩
  · exact wpAny_tests_nil ⟨rfl, kp_refl, g, .rfl q.sub⟩
  · exact wpAny_tests_one (h A env g s E r o bs q)

theorem comp_core {A : Around} {env : Env} {g1 : Heap} {s1 : Shared} {E : Value → Shared → Prop} {tg : Expr} {bd : Dat → Sto} {pos : Pos} {elt iter : Expr} {ifs : List Expr} {cl : List (Str × Addr)} {xv : Value} {ds : List Dat} {fz : List (Option Dat)} {RR : Value → Addr → Result → Shared → Prop}
    (r : Room A k) (o : EnvOk env sc) (c : CompOk sc scope) (cp : Caps sc scope τ cap) (hcl : ∀ n, (n, NameKind.free) ∈ scope.names → cl.lookup n = env.cells.lookup n) (asg : AsgOk X k sc scope τ cap tg bd ds)
    (bs : Sub X.h0 g1) (q : StoIn τ env g1 s1) (hit : IterOf X k g1 s1 xv ds) (el : EltsG X k sc scope cap bd ifs elt ds fz) (hz : ds.length ≤ sizeLine)
    (hRR : ∀ D C s' g' m' ws n, Keeps s1 s' → Step g1 s1.heap g' s'.heap → s1.heap.get? D = none → s1.heap.get? C = none → D ≠ C → s'.heap.Ns C m' → s'.heap.get? D = some { cls := .type "list", data := .seq (List.toArray ws) n } → RepAll g' ws (fz.filterMap id) →
      g'.get? D = none → g'.get? C = none → RR (.ref D) C (.ok .next) s') :
    wpAny X.M A (pyIter xv) (fun it s₂ => wpAny X.M A (newList []) (fun acc s₃ => wpAny X.M A (newFunctionEnv scope env.globals cl [] env.qual none .none (some env)) (fun cenv s₄ =>
      codeAny X.M A (.compStart (.ListComp elt [⟨tg, iter, ifs, 0⟩] scope pos) 0 it acc { cenv with scope := relabel scope env }) (RR acc cenv.locals) s₄) E s₃) E s₂) E s1 := by
  refine wpAny_mono (hit A E r) (fun it s2 ⟨k2, I, fp, wr, P, St, e, W⟩ => ?_) fun _ _ y => y
  subst e
  have sub12 := kp_sub k2
  refine wpAny_newObj_type (wpAny_newFunctionEnv c.nocell (by intro y hy; simp at hy) (fun h₁ hns₁ hsb₁ => ?_) c.kind)
  dsimp only at hns₁ hsb₁ ⊢
  generalize hH2 : s2.heap.push { cls := .type "list", dict := none, data := .seq ([] : List Value).toArray } = H2 at hns₁ hsb₁ ⊢
  have hC : H2.objs.size = s2.heap.objs.size + 1 := by rw [← hH2, Heap.size_push]
  generalize hD' : s2.heap.objs.size = D at *
  generalize hC' : H2.objs.size = C at *
  have hDC : D ≠ C := by omega
  have below : ∀ b, b < D → b ≠ C ∧ b ≠ D := fun b hb => ⟨by rw [hC]; exact Nat.ne_of_lt (Nat.lt_succ_of_lt hb), Nat.ne_of_lt hb⟩
  have hDf : D ∉ fp := fun hm => Nat.lt_irrefl _ (hD' ▸ W.low _ hm)
  have hCf : C ∉ fp := fun hm => by have := W.low _ hm; rw [hD', hC] at this; exact Nat.lt_irrefl _ (Nat.lt_of_succ_lt this)
  have old : Sub s2.heap h₁ := fun b ob e => hsb₁.extBut b ob (below b (hD' ▸ Heap.lt_size e)).1 (Heap.get?_push_of_some _ (hH2 ▸ Heap.get?_push_of_some _ e))
  have hacc : h₁.get? D = some { cls := .type "list", data := .seq (List.toArray []) 0 } := hsb₁.extBut _ _ hDC (Heap.get?_push_of_some _ (hH2 ▸ hD' ▸ Heap.get?_push_size _ rfl))
  have fresh2 : ∀ a, D ≤ a → s2.heap.get? a = none := fun a ha => by
    cases e : s2.heap.get? a with
    | none => rfl
    | some o' => exact absurd (Heap.lt_size e) (Nat.not_lt.mpr (hD' ▸ ha))
  have fresh1 : ∀ a, D ≤ a → s1.heap.get? a = none := fun a ha => by
    cases e : s1.heap.get? a with
    | none => rfl
    | some o' => have := sub12 _ _ e; rw [fresh2 a ha] at this; cases this
  have hst₁ : St 0 h₁ := (W.walks A r.hh).frame _ _ _ W.start fun b _ ob e => old b ob e
  have oc : EnvOk (compEnvC scope cl C env) (relabelS scope sc) := compEnv_ok o c hcl
  have none1 : ∀ {g' : Heap}, (∀ b ob, g'.get? b = some ob → g1.get? b = some ob ∨ s1.heap.get? b = none) → True := fun _ => trivial
  have g1none : ∀ a, s1.heap.get? a = none → g1.get? a = none := fun a ha => by
    cases e : g1.get? a with
    | none => rfl
    | some o' => have := q.sub _ _ e; rw [ha] at this; cases this
  obtain ⟨h2', t2, e2, kp2⟩ := k2
  have loop : ∀ s₃ : Shared, (∃ tk, s₃ = { s2 with heap := h₁, toks := tk }) →
      codeAny X.M A (.compLoop (.ListComp elt [⟨tg, iter, ifs, 0⟩] scope pos) 0 (.ref I) (.ref D) (compEnvC scope cl C env)) (RR (.ref D) C) s₃ := by
    rintro s₃ ⟨tk₃, rfl⟩
    refine compLoop_any (fun n s' => ∃ i ws ep g' m', n = ds.length - i ∧ i ≤ ds.length ∧ ws.length ≤ i ∧ Keeps s1 s' ∧ Step g1 s1.heap g' s'.heap ∧ s'.heap.Ns C m' ∧ s'.heap.get? D = some { cls := .type "list", data := .seq (List.toArray ws) ep } ∧
      RepAll g' ws ((fz.take i).filterMap id) ∧ g'.get? D = none ∧ g'.get? C = none ∧ (∀ b ∈ wr, g'.get? b = none) ∧ St i s'.heap) ?_ ds.length
      ⟨0, [], 0, g1, _, rfl, Nat.zero_le _, Nat.le_refl _, ?_, ⟨.rfl, sub12.trans old, q.sub.trans (sub12.trans old), fun _ _ e => .inl e⟩, hns₁, hacc, .nil, g1none D (fresh1 D (Nat.le_refl _)), g1none C (fresh1 C (by omega)), fun b hb => g1none b (W.fresh b hb), hst₁⟩
    · rintro n s' ⟨i, ws, ep, g', m', rfl, hi, hwl, ks, x1, ns, hD1, hr, gD, gC, gw, hst⟩
      have hCw : C ∉ wr := fun h => hCf ((W.walks A r.hh).sub _ h)
      have hDw : D ∉ wr := fun h => hDf ((W.walks A r.hh).sub _ h)
      rcases Nat.lt_or_ge i ds.length with hlt | hge
      · refine (W.walks A r.hh).item i s' _ _ hlt hst fun v h' tk hP hst' hk' => ?_
        obtain ⟨d, hd1, hrv⟩ := W.item i v hP
        have x2 : Step g1 s1.heap g' h' := ⟨x1.gg, fun b ob e => hk' b ob (fun z => by rw [W.fresh b z] at e; cases e) (x1.hh _ _ e), fun b ob e => hk' b ob (fun z => by rw [gw b z] at e; cases e) (x1.gh _ _ e), x1.new⟩
        refine W.own (i + 1) A _ tg v { s' with heap := h', toks := tk } _ hst' ?_
        have C1 : s1.heap.get? C = none := fresh1 C (by omega)
        refine asg A _ env cl C g1 g' s1 { s' with heap := h', toks := tk } v d m' _ r o c cp hcl q x2 (ns.at' fun ob e => hk' _ ob hCw e) gC C1 (hrv.sub x1.gg) (List.mem_of_getElem? hd1) fun m₂ h₂ tk₂ up2 hn₂ q3 => ?_
        have x3 : Step g1 s1.heap g' h₂ := ⟨x2.gg, fun b ob e => up2 b ob (fun z => by rw [z, C1] at e; cases e) (x2.hh _ _ e), fun b ob e => up2 b ob (fun z => by rw [z, gC] at e; cases e) (x2.gh _ _ e), x2.new⟩
        have ks3 : Keeps s1 { s' with heap := h₂, toks := tk₂ } := by
          obtain ⟨ha, ta, rfl, _⟩ := ks
          exact ⟨h₂, _, rfl, x3.hh⟩
        have hst₂ : St (i + 1) h₂ := (W.walks A r.hh).frame _ _ _ hst' fun b hb ob e => up2 b ob (fun z => hCf (z ▸ hb)) e
        have hD2 : h₂.get? D = some { cls := .type "list", data := .seq (List.toArray ws) ep } := up2 _ _ hDC (hk' _ _ hDw hD1)
        have hfi : i < fz.length := by rw [el.len]; exact hlt
        cases hfz : fz[i]? with
        | none => rw [List.getElem?_eq_none_iff] at hfz; omega
        | some f =>
          have htake : (fz.take (i + 1)).filterMap id = (fz.take i).filterMap id ++ f.toList := by
            rw [List.take_add_one, hfz, List.filterMap_append]
            cases f <;> simp
          cases f with
          | none =>
            refine wp_seq (wp_tests (el.none_ i d hd1 hfz) r oc (bs.trans x1.gg) q3) fun ok s4 ⟨e, k4, g4, x4⟩ => ?_
            subst e
            simp only [Bool.false_eq_true, if_false]
            refine ⟨ds.length - (i + 1), by omega, i + 1, ws, ep, g4, _, rfl, hlt, by omega, kp_trans ks3 k4, x3.trans x4, hn₂.keeps (kp_sub k4), kp_sub k4 _ _ hD2, ?_, x4.out gD (by rw [hD2]; rfl), x4.out gC ?_, fun b hb => x4.out (gw b hb) ?_, ?_⟩
            · rw [htake]; simpa using hr.sub x4.gg
            · obtain ⟨ob, _, _, ho, _⟩ := hn₂; have ho' : h₂.get? C = some ob := ho; show (h₂.get? C).isSome = true; rw [ho']; rfl
            · exact W.live _ _ hst₂ b hb
            · exact (W.walks A r.hh).frame _ _ _ hst₂ fun b _ ob e => kp_sub k4 _ _ e
          | some y =>
            obtain ⟨t1, t2⟩ := el.some_ i d y hd1 hfz
            refine wp_seq (wp_tests t1 r oc (bs.trans x1.gg) q3) fun ok s4 ⟨e, k4, g4, x4⟩ => ?_
            subst e
            simp only [if_true]
            refine wp_ev (t2 A _ g4 s4 _ r oc ((bs.trans x1.gg).trans x4.gg) (q3.step x4)) fun u g5 s5 k5 x5 r5 => ?_
            have x45 := x4.trans x5
            have hD5 : s5.heap.get? D = some { cls := .type "list", data := .seq (List.toArray ws) ep } := x45.hh _ _ hD2
            refine wpAny_list_append_plain (items := ws.toArray) ⟨ep, hD5⟩ (fun h₆ hl₆ hs₆ => ?_) (by rw [List.size_toArray]; omega)
            have up6 : ∀ b ob, b ≠ D → s5.heap.get? b = some ob → h₆.get? b = some ob := fun b ob hb e => hs₆.extBut b ob hb e
            have gD5 : g5.get? D = none := x45.out gD (by rw [hD2]; rfl)
            have D1 : s1.heap.get? D = none := fresh1 D (Nat.le_refl _)
            have x6 : Step g1 s1.heap g5 h₆ := ⟨(x3.trans x45).gg, fun b ob e => up6 b ob (fun z => by rw [z, D1] at e; cases e) ((x3.trans x45).hh _ _ e), fun b ob e => up6 b ob (fun z => by rw [z, gD5] at e; cases e) (x45.gh _ _ e), (x3.trans x45).new⟩
            obtain ⟨ep', hl₆'⟩ := hl₆
            refine ⟨ds.length - (i + 1), by omega, i + 1, ws ++ [u], ep', g5, _, rfl, hlt, by rw [List.length_append, List.length_singleton]; omega, ?_, x6, ((hn₂.keeps (kp_sub k4)).keeps (kp_sub k5)).at' fun ob e => up6 _ _ (Ne.symm hDC) e, by simpa using hl₆', ?_, gD5, x45.out gC ?_, fun b hb => x45.out (gw b hb) ?_, ?_⟩
            · obtain ⟨ha, ta, e5, _⟩ := kp_trans ks3 (kp_trans k4 k5)
              exact ⟨h₆, ta, by rw [e5], x6.hh⟩
            · rw [htake]
              exact (RepAll.one r5).append (hr.sub x45.gg)
            · obtain ⟨ob, _, _, ho, _⟩ := hn₂; have ho' : h₂.get? C = some ob := ho; show (h₂.get? C).isSome = true; rw [ho']; rfl
            · exact W.live _ _ hst₂ b hb
            · exact (W.walks A r.hh).frame _ _ _ hst₂ fun b hb ob e => up6 b ob (fun z => hDf (z ▸ hb)) (x45.hh _ _ e)
      · have hin : i = ds.length := by omega
        subst hin
        refine (W.walks A r.hh).done s' _ _ hst fun h' tk hk' => ?_
        have hfull : (fz.take ds.length).filterMap id = fz.filterMap id := by rw [← el.len, List.take_length]
        rw [hfull] at hr
        refine hRR D C _ g' m' ws ep ?_ ⟨x1.gg, fun b ob e => hk' b ob (fun z => by rw [W.fresh b z] at e; cases e) (x1.hh _ _ e), fun b ob e => hk' b ob (fun z => by rw [gw b z] at e; cases e) (x1.gh _ _ e), x1.new⟩ (fresh1 D (Nat.le_refl _)) (fresh1 C (by omega)) hDC (ns.at' fun ob e => hk' _ ob hCw e) (hk' _ _ hDw hD1) hr gD gC
        obtain ⟨ha, ta, rfl, _⟩ := ks
        exact ⟨h', tk, rfl, fun b ob e => hk' b ob (fun z => by rw [W.fresh b z] at e; cases e) (x1.hh _ _ e)⟩
    · subst e2
      exact ⟨h₁, tk₃, rfl, fun b ob e => old _ _ (kp2 b ob e)⟩
  exact codeAny_compStart_list (loop _ ⟨_, rfl⟩) ((W.walks A r.hh).self 0 _ _ _ hst₁ (loop _ ⟨_, rfl⟩))
end
end Mine

namespace Mine
open PySem PySem.W PyProof.Rows PySem.Calls
set_option Elab.async false
set_option maxRecDepth 100000
set_option linter.unusedVariables false
section
variable {X : Cx} {k : Nat} {sc scope : Scope} {τ cap : Sto}

theorem closure_ok {env : Env} (o : EnvOk env sc) (c : CompOk sc scope) : ∃ cl, closureFor scope env = pure cl ∧ ∀ n, (n, NameKind.free) ∈ scope.names → cl.lookup n = env.cells.lookup n :=
  closureFor_of fun y hy hf => o.cells _ (c.free y hy hf)

theorem plain_rep {g h : Heap} {D : Addr} {ws : List Value} {ds : List Dat} {n : Nat} (e : h.get? D = some { cls := .type "list", data := .seq (List.toArray ws) n }) (r : RepAll g ws ds) (k : Sub g h) : Rep (withObj g h D) (.ref D) (.list ds) :=
  .list ⟨n, withObj_self e⟩ (r.sub (withObj_sub k))
theorem step_with {g1 h1 g h : Heap} {D : Addr} (x : Step g1 h1 g h) (d : h1.get? D = none) : Step g1 h1 (withObj g h D) h :=
  ⟨x.gg.trans (withObj_sub x.gh), x.hh, withObj_in, fun b o e => by
    by_cases q : b = D
    · subst q; exact .inr d
    · cases z : g.get? b with
      | some o' =>
        have h1 := withObj_sub (a := D) x.gh _ _ z
        rw [e] at h1; cases h1
        exact x.new b o z
      | none => rw [withObj_other z q] at e; cases e⟩
theorem step_but {g1 h1 g h h' : Heap} {C : Addr} (x : Step g1 h1 g h) (c : h1.get? C = none) (gc : g.get? C = none) (s : Heap.SameBut C h h') : Step g1 h1 g h' :=
  ⟨x.gg, fun b o e => s.extBut b o (fun z => by rw [z, c] at e; cases e) (x.hh b o e), fun b o e => s.extBut b o (fun z => by rw [z, gc] at e; cases e) (x.gh b o e), x.new⟩

theorem Ev.compG {tg : Expr} {bd : Dat → Sto} {pos : Pos} {elt iter : Expr} {ifs : List Expr} {ds : List Dat} {fz : List (Option Dat)} (hit : Its X k sc τ iter ds) (cap : Sto) (c : CompOk sc scope) (cp : Caps sc scope τ cap) (asg : AsgOk X k sc scope τ cap tg bd ds)
    (el : EltsG X k sc scope cap bd ifs elt ds fz) (hz : ds.length ≤ sizeLine) : Ev X k sc τ (.ListComp elt [⟨tg, iter, ifs, 0⟩] scope pos) (.list (fz.filterMap id)) := by
  intro A env g s E r o b q
  obtain ⟨cl, hcl, hcl2⟩ := closure_ok o c
  rw [eval_ListComp]
  refine wpAny_comprehension_free (use := none) rfl (hit.2 env) hcl c.kind c.names (wp_ev (hit.1 A env g s E r o b q) fun xv g1 s1 k1 x1 p1 => ?_)
  refine comp_core (RR := fun acc C => compPost X.M A E none (Post g s fun g v => Rep g v (.list (fz.filterMap id))) acc C) r o c cp hcl2 asg (b.trans x1.gg) (q.step x1) (p1 s1 x1.gh) el hz ?_
  intro D C s' g' m' ws n k2 x2 hD hC hDC ns eD rp gD gC
  refine ⟨m', ns, fun h' hs => ?_⟩
  have eD' : h'.get? D = some { cls := .type "list", data := .seq (List.toArray ws) n } := hs.extBut _ _ hDC eD
  have x3 : Step g1 s1.heap g' h' := step_but x2 hC gC hs
  have x4 := step_with x3 hD
  refine ⟨?_, withObj g' h' D, x1.trans x4, plain_rep eD' rp x3.gh⟩
  obtain ⟨ha, ta, rfl, _⟩ := kp_trans k1 k2
  exact ⟨h', ta, rfl, (x1.trans x4).hh⟩

theorem Ev.comp {x : Str} {px pos : Pos} {elt iter : Expr} {ifs : List Expr} {ds : List Dat} {fz : List (Option Dat)} (hit : Its X k sc τ iter ds) (cap : Sto) (c : CompOk sc scope) (cp : Caps sc scope τ cap) (hx : scope.names.lookup x = some .local)
    (el : Elts X k sc scope cap x ifs elt ds fz) (hz : ds.length ≤ sizeLine) : Ev X k sc τ (.ListComp elt [⟨.Name x px, iter, ifs, 0⟩] scope pos) (.list (fz.filterMap id)) := Ev.compG hit cap c cp (asg_name hx) el hz

theorem exec_Assign_comp {env : Env} {x y : Str} {px py : Pos} {elt iter : Expr} {ifs : List Expr} {pos spos : Pos} {A : Around} {Q : Flow → Shared → Prop} {E : Value → Shared → Prop} {s : Shared}
    (hsw : swapsWith (.ListComp elt [⟨.Name x px, iter, ifs, 0⟩] scope pos) (some (.Name y py)) spos.line env = pure true)
    (h : wpAny X.M A (comprehension (.ListComp elt [⟨.Name x px, iter, ifs, 0⟩] scope pos) scope env (firstIterPos [⟨.Name x px, iter, ifs, 0⟩] pos) (newList []) false (eval iter env) (some (PySem.assign (.Name y py) env))) (fun _ s' => Q .next s') E s) :
    wpAny X.M A (exec (.Assign [.Name y py] (.ListComp elt [⟨.Name x px, iter, ifs, 0⟩] scope pos) spos) env) Q E s := by
  rw [exec_Assign_Name_used _ _ _ _ hsw]
  refine wpAny_bind (wpAny_standAt (wpAny_bind ?_))
  show wpAny _ A (do let _ ← comprehension (.ListComp elt [⟨.Name x px, iter, ifs, 0⟩] scope pos) scope env _ (newList []) false (eval iter env) (some (PySem.assign (.Name y py) env))) _ _ s
  exact wpAny_bind (wpAny_mono h (fun _ s' hq => wpAny_pure (wpAny_pure hq)) fun _ _ e => e)

/-- y = [.. for x in ..], y a local name on the comprehension's own line -/
theorem Ex.assignComp {x y : Str} {px py pos spos : Pos} {elt iter : Expr} {ifs : List Expr} {ds : List Dat} {fz : List (Option Dat)} {R : Out → Prop} (hit : Its X k sc τ iter ds) (cap : Sto) (c : CompOk sc scope) (cp : Caps sc scope τ cap) (hx : scope.names.lookup x = some .local)
    (el : Elts X k sc scope cap x ifs elt ds fz) (hz : ds.length ≤ sizeLine) (hr : R (.next (upd y (.dat (.list (fz.filterMap id))) τ))) (hy : sc.names.lookup y = some .local)
    (hsw : ∀ env : Env, env.scope.kind = .function → env.scope.names.lookup y = some .local → swapsWith (.ListComp elt [⟨.Name x px, iter, ifs, 0⟩] scope pos) (some (.Name y py)) spos.line env = pure true) :
    Ex X k sc τ (exec (.Assign [.Name y py] (.ListComp elt [⟨.Name x px, iter, ifs, 0⟩] scope pos) spos)) R := by
  intro A env s₀ g₀ H g m cm s E r o b F
  obtain ⟨cl, hcl, hcl2⟩ := closure_ok o c
  refine exec_Assign_comp (hsw env o.ek (o.scope ▸ hy)) (wpAny_mono (wpAny_comprehension_free (Q := fun _ s' => OutIs s₀ g₀ env H R .next s') (use := some (PySem.assign (.Name y py) env)) rfl (hit.2 env) hcl c.kind c.names
    (wp_ev (hit.1 A env g s E r o (b.trans F.st.gg) F.sto) fun xv g1 s1 k1 x1 p1 => ?_)) (fun _ _ q => q) fun _ _ e => e)
  have F1 := F.ev k1 x1
  refine comp_core (RR := fun acc C => compPost X.M A E (some (PySem.assign (.Name y py) env)) (fun _ s' => OutIs s₀ g₀ env H R .next s') acc C) r o c cp hcl2 (asg_name hx) ((b.trans F.st.gg).trans x1.gg) F1.sto (p1 s1 x1.gh) el hz ?_
  intro D C s' g' m' ws n k2 x2 hD hC hDC ns eD rp gD gC
  have x3 := step_with x2 hD
  have F2 := (F1.ev k2 x3).more (wr := [C]) (old := s1.heap) ?_ (fun b hb => by rw [List.mem_singleton.mp hb]; exact hC) (fun b hb => by rw [List.mem_singleton.mp hb]; exact withObj_other gC (Ne.symm hDC)) (g' := g1)
  · show wpAny X.M A (PySem.assign (.Name y py) env (.ref D)) _ _ _
    have hLC : env.locals ≠ C := by
      obtain ⟨ob, _, _, ho, _⟩ := F1.call.toInCall.ns
      intro e; rw [e, hC] at ho; cases ho
    refine wpAny_assign_Name (wp_store (lv := .dat (.list (fz.filterMap id))) F2 o (by unfold canStore; rw [hy]; rfl) (o.cells y) (plain_rep eD rp x2.gh) trivial fun m2 cm2 s2 F3 => ?_)
    have live : ∀ b ∈ [C], (s2.heap.get? b).isSome := by
      intro b hb
      rw [List.mem_singleton.mp hb]
      obtain ⟨ob, _, _, ho, _⟩ := ns
      rw [(F3.hold (C, ob) (List.mem_append_left _ (mem_objsAt.mpr ⟨by simp, ho⟩))).1]; rfl
    have F3' : FS s₀ g₀ env (objsAt [C] s2.heap ++ H) (upd y (.dat (.list (fz.filterMap id))) τ) (withObj g' s'.heap D) m2 cm2 s2 := by
      refine F3.less fun p hp => ?_
      rcases List.mem_append.mp hp with hp | hp
      · obtain ⟨q1, q2⟩ := mem_objsAt.mp hp
        refine List.mem_append_left _ (mem_objsAt.mpr ⟨q1, ?_⟩)
        obtain ⟨ob, _, _, ho, _⟩ := ns
        have hC1 := List.mem_singleton.mp q1
        have := (F3.hold (C, ob) (List.mem_append_left _ (mem_objsAt.mpr ⟨by simp, ho⟩))).1
        rw [hC1] at q2
        have hq : some p.2 = some ob := q2.symm.trans this
        rw [hC1, hq]; exact ho
      · exact List.mem_append_right _ hp
    refine ⟨m', ?_, fun h' hs => ?_⟩
    · obtain ⟨ob, es, ep, ho, rr⟩ := ns
      exact ⟨ob, es, ep, (F3.hold (C, ob) (List.mem_append_left _ (mem_objsAt.mpr ⟨by simp, ho⟩))).1, rr⟩
    · have F4 := F3'.wrote (h' := h') (tk := s2.toks) (fun p hp q => by
        have := (F1.hold p hp).1
        rw [List.mem_singleton.mp q, hC] at this; cases this) live (fun b ob hb e => hs.extBut b ob (fun z => hb (by rw [z]; simp)) e)
      exact ⟨_, _, m2, cm2, hr, F4.less fun p hp => List.mem_append_right _ hp⟩
  · obtain ⟨ha, ta, rfl, _⟩ := k2
    exact F1.tok
end
end Mine

namespace Mine
open PySem PySem.W PyProof.Rows PySem.Calls
set_option Elab.async false
set_option maxRecDepth 100000
set_option linter.unusedVariables false

def chars (x : Str) : List Dat := x.cps.toList.map fun c => .str ⟨#[c]⟩

section
variable {X : Cx} {k : Nat} {sc : Scope} {τ : Sto} {s₀ s : Shared} {g₀ g : Heap} {env : Env} {H : List (Addr × Obj)} {m cm : Str → Option Value}

/-- a, b = (u, v) out of a tuple -/
theorem wp_assign2 {A : Around} {E : Value → Shared → Prop} {a b : Str} {pa pb pos : Pos} {n : Nat} {T : Addr} {u v : Value} {d e : Dat} {Q : Unit → Shared → Prop} (F : FS s₀ g₀ env H τ g m cm s) (o : EnvOk env sc) (r : Room A k) (ht : s.heap.IsTuple T #[u, v])
    (hu : Rep g u d) (hv : Rep g v e) (ha : canStore sc a = true) (hb : canStore sc b = true) (h : ∀ m' cm' s', FS s₀ g₀ env H (upd b (.dat e) (upd a (.dat d) τ)) g m' cm' s' → Q () s') :
    wpAny X.M A (PySem.assign (.Tuple [.Name a pa, .Name b pb] n pos) env (.ref T)) Q E s := by
  refine wpAny_assign_Tuple r.hh ht (by rfl) (by rfl) fun h' hx => ?_
  have k1 : Keeps s { s with heap := h' } := ⟨h', s.toks, rfl, fun b ob e => hx b ob (Nat.ne_of_lt (Heap.lt_size e)) e⟩
  have F1 := F.ev k1 ⟨.rfl, kp_sub k1, F.st.gh.trans (kp_sub k1), fun _ _ e => .inl e⟩
  show wpAny X.M A (assignInOrder [PySem.assign (.Name a pa) env, PySem.assign (.Name b pb) env] [u, v]) Q E _
  refine wpAny_assignInOrder_more (wpAny_assign_Name (wp_store (lv := .dat d) F1 o ha (o.cells a) hu trivial fun m2 cm2 s2 F2 => ?_))
  refine wpAny_assignInOrder_more (wpAny_assign_Name (wp_store (lv := .dat e) F2 o hb (o.cells b) hv trivial fun m3 cm3 s3 F3 => ?_))
  exact wpAny_assignInOrder_none (h m3 cm3 s3 F3)

/-- what enumerate makes of a value -/
structure Enum (X : Cx) (g : Heap) (s₂ : Shared) (old : Heap) (e it : Addr) (ds : List Dat) (fp : List Addr) (P : Nat → Value → Prop) (St : Nat → Heap → Prop) : Prop where
  draws : ∀ A', A'.handled = none → Draws X.prog X.w A' it fp ds.length P St
  start : St 0 s₂.heap
  enum : IsEnum s₂.heap e it 0 .none
  hei : e ≠ it
  hef : e ∉ fp
  hif : it ∈ fp
  fe : old.get? e = none
  fi : old.get? it = none
  foot : ∀ b ∈ fp, b = it ∨ (g.get? b).isSome
  item : ∀ i v, P i v → ∃ d, ds[i]? = some d ∧ Rep g v d
def EnumOf (X : Cx) (k : Nat) (g : Heap) (s : Shared) (xv : Value) (ds : List Dat) : Prop :=
  ∀ (A : Around) (E : Value → Shared → Prop), Room A k → wpAny X.M A (call (.type "enumerate") [xv]) (fun v s₂ => Keeps s s₂ ∧ ∃ e it fp P St, v = .ref e ∧ Enum X g s₂ s.heap e it ds fp P St) E s

theorem enumOf_list {a : Addr} {vs : List Value} {ds : List Dat} (kk : Sub g s.heap) (il : g.PlainList a vs.toArray) (r : RepAll g vs ds) : EnumOf X k g s (.ref a) ds := by
  intro A E rm
  have il' := isList_sub kk il
  have hlt : a < s.heap.objs.size := let ⟨_, e, _⟩ := il'; Heap.lt_size e
  have hn : vs.toArray.size = ds.length := by rw [List.size_toArray, r.length]
  refine call_enumerate_list il' fun h' he hit hsz hk => ⟨⟨h', s.toks, rfl, hk⟩, s.heap.objs.size + 1, s.heap.objs.size, [s.heap.objs.size, a], (fun i v => vs.toArray[i]? = some v), (fun i h => h.IsListIter s.heap.objs.size a i ∧ h.IsList a vs.toArray), rfl, ?_⟩
  have big : s.heap.get? (s.heap.objs.size + 1) = none := by
    cases z : s.heap.get? (s.heap.objs.size + 1) with
    | none => rfl
    | some o' => exact absurd (Heap.lt_size z) (Nat.not_lt.mpr (Nat.le_succ _))
  exact {
    draws := fun A' hA => hn ▸ Draws.list hA s.heap.objs.size a (Nat.ne_of_lt hlt) vs.toArray
    start := ⟨hit, let ⟨o, ho, rr⟩ := il'; ⟨o, hk _ _ ho, rr⟩⟩
    enum := he
    hei := by intro q; exact absurd q (Nat.succ_ne_self _)
    hef := fun q => by
      rcases List.mem_cons.mp q with q | q
      · exact absurd q (Nat.succ_ne_self _)
      · have := List.mem_singleton.mp q; rw [← this] at hlt; exact absurd hlt (Nat.not_lt.mpr (Nat.le_succ _))
    hif := by simp
    fe := big
    fi := fresh_size
    foot := fun b hb => by
      rcases List.mem_cons.mp hb with q | q
      · exact .inl q
      · rw [List.mem_singleton.mp q]
        obtain ⟨n, ho⟩ := il
        exact .inr (by rw [ho]; rfl)
    item := fun i v hv => r.get' (by simpa using hv) }
theorem enumOf_str {x : Str} {t : Tok} (kk : Sub g s.heap) : EnumOf X k g s (.str x t) (chars x) := by
  intro A E rm
  have hn : (chars x).length = x.cps.size := by simp [chars]
  refine call_enumerate_str fun h' he hit hsz hk => ⟨⟨h', s.toks, rfl, hk⟩, s.heap.objs.size + 1, s.heap.objs.size, [s.heap.objs.size], (fun i v => ∃ c u, x.cps[i]? = some c ∧ v = .str ⟨#[c]⟩ u), (fun i h => h.IsStrIter s.heap.objs.size (strIterType x) x t i), rfl, ?_⟩
  have big : s.heap.get? (s.heap.objs.size + 1) = none := by
    cases z : s.heap.get? (s.heap.objs.size + 1) with
    | none => rfl
    | some o' => exact absurd (Heap.lt_size z) (Nat.not_lt.mpr (Nat.le_succ _))
  exact {
    draws := fun A' hA => by
      rw [hn]
      cases ha : x.cps.all (· < 128)
      · have e : strIterType x = "str_iterator" := by simp [strIterType, ha]
        rw [e]; exact Draws.strWide hA _ x t
      · have e : strIterType x = "str_ascii_iterator" := by simp [strIterType, ha]
        rw [e]; exact Draws.strAscii hA _ x t
    start := hit
    enum := he
    hei := by intro q; exact absurd q (Nat.succ_ne_self _)
    hef := fun q => absurd (List.mem_singleton.mp q) (Nat.succ_ne_self _)
    hif := by simp
    fe := big
    fi := fresh_size
    foot := fun b hb => .inl (List.mem_singleton.mp hb)
    item := fun i v hv => by
      obtain ⟨c, u, hc, rfl⟩ := hv
      exact ⟨.str ⟨#[c]⟩, by simp [chars, hc], .str _ _⟩ }

/-- for i, c in enumerate(e) -/
theorem Ex.forEnum {xi xc f : Str} {pi pc pt pf pcall pos : Pos} {nt : Nat} {e : Expr} {body : List Stmt} {ds : List Dat} {R : Out → Prop} (hf : EvP X k sc τ (.Name f pf) fun _ u => u = .type "enumerate") {d0 : Dat} (he : Ev X k sc τ e d0)
    (hen : ∀ g s v, Sub g s.heap → Rep g v d0 → EnumOf X k g s v ds) (Inv : Nat → Sto → Prop) (h0 : Inv 0 τ)
    (turn : ∀ i τ' d, ds[i]? = some d → Inv i τ' → Ex X k sc (upd xc (.dat d) (upd xi (.dat (.int i)) τ')) (execs body) (Turn (Inv (i + 1)) R)) (done : ∀ τ', Inv ds.length τ' → R (.next τ'))
    (hx : canStore sc xi = true := by rfl) (hx2 : canStore sc xc = true := by rfl) (hp : plainE e = true := by rfl)
    (hs : ∀ env x, foldedSetIterable (.Call (.Name f pf) [e] [] pcall) env x = pure x := by intro _ _; rfl) :
    Ex X k sc τ (exec (.For (.Tuple [.Name xi pi, .Name xc pc] nt pt) (.Call (.Name f pf) [e] [] pcall) body [] pos)) R := by
  intro A env s₀ g₀ H g m cm s E r o b F
  refine wpAny_For (wpAny_Call_NameR (wp_ev (hf A env g s E r o (b.trans F.st.gg) F.sto) fun u g1 s1 k1 x1 p1 => ?_)) (hs env)
  subst p1
  have F1 := F.ev k1 x1
  refine callWith_of (P := fun h => True) (by rw [plain_any pcall env (es := [e]) (by rw [List.all_cons, hp]; rfl)]; rfl) (fun h _ => ⟨.machine, .inr (.inl rfl), Looks.of_pure rfl⟩)
    (evalArgs_evs (EvL.cons he .nil hp) r o (b.trans F1.st.gg) F1.sto fun vs g2 s2 k2 x2 p2 => ⟨trivial, ?_⟩)
  have F2 := F1.ev k2 x2
  cases p2 with
  | cons p2 pn =>
    rename_i v0 vs0
    cases pn
    refine wpAny_mono (hen g2 s2 v0 x2.gh p2 A E r) (fun ev s3 ⟨k3, e3, it, fp, P, St, hev, W⟩ => ?_) fun _ _ y => y
    subst hev
    have x3 : Step g2 s2.heap g2 s3.heap := ⟨.rfl, kp_sub k3, x2.gh.trans (kp_sub k3), fun _ _ e => .inl e⟩
    have F3' := F2.ev k3 x3
    refine wpAny_pyIter_enum W.enum ?_
    have fresh : ∀ b ∈ [e3, it], s2.heap.get? b = none := by
      intro b hb
      rcases List.mem_cons.mp hb with rfl | hb
      · exact W.fe
      · rw [List.mem_singleton.mp hb]; exact W.fi
    have hd : ∀ p ∈ H, p.1 ∉ [e3, it] := fun p hp q => by
      have := (F2.hold p hp).1
      rw [fresh _ q] at this; cases this
    have F2' : FS s₀ g₀ env H τ g2 m cm { s3 with heap := s2.heap } := by
      obtain ⟨h', tk, rfl, kp⟩ := k3
      exact F2.tok
    have F3 := F3'.more F2' fresh fun b hb => by
      cases z : g2.get? b with
      | none => rfl
      | some o' => have := x2.gh _ _ z; rw [fresh b hb] at this; cases this
    have WT : ∀ A', A'.handled = none → WalksT X.prog X.w A' e3 (e3 :: fp) [e3, it] ds.length _ _ _ := fun A' hA => WalksT.enumerateD (W.draws A'.in1 hA) e3 W.hei W.hef W.hif
    have foot : ∀ b ∈ e3 :: fp, b ∈ [e3, it] ∨ (g2.get? b).isSome := by
      intro b hb
      rcases List.mem_cons.mp hb with rfl | hb
      · exact .inl (by simp)
      · rcases W.foot b hb with rfl | q
        · exact .inl (by simp)
        · exact .inr q
    have live : ∀ (i : Nat) (h : Heap), ((∃ old, IsEnum h e3 it i old) ∧ St i h) → ∀ b ∈ [e3, it], (h.get? b).isSome := by
      rintro i h ⟨⟨old, he⟩, hst⟩ b hb
      rcases List.mem_cons.mp hb with rfl | hb
      · have he' : h.get? b = _ := he
        rw [he']; rfl
      · rw [List.mem_singleton.mp hb]
        obtain ⟨ob, ho⟩ := (W.draws A r.hh).live _ _ hst
        rw [ho]; rfl
    refine codeAny_forLoop_any (fun n s' => ∃ i τ' g' m' cm', n = ds.length - i ∧ i ≤ ds.length ∧ Inv i τ' ∧ FS s₀ g₀ env (objsAt [e3, it] s'.heap ++ H) τ' g' m' cm' s' ∧ ((∃ old, IsEnum s'.heap e3 it i old) ∧ St i s'.heap) ∧ Sub g2 g') ?_ ds.length ⟨0, τ, g2, m, cm, rfl, Nat.zero_le _, h0, F3, ⟨⟨_, W.enum⟩, W.start⟩, .rfl⟩
    rintro n s4 ⟨i, τ', g', m', cm', rfl, hi, hI, F4, hst, hg1⟩
    have hlv := live i _ hst
    rcases Nat.lt_or_ge i ds.length with hlt | hge
    · refine (WT A r.hh).item i s4 _ _ hlt hst fun T vals h' tk hP hTn hT hmid hk' => ?_
      have F5 := F4.wrote (tk := tk) hd hlv hk'
      obtain ⟨t, xv, hPx, rfl⟩ := hP
      obtain ⟨d, hd1, hr⟩ := W.item i xv hPx
      have hTw := (WT A r.hh).apart _ _ _ hmid
      have hlv5 : ∀ b ∈ [e3, it], (h'.get? b).isSome := by
        obtain ⟨⟨xx, ho⟩, hs1, _, _⟩ := hmid
        intro b hb
        rcases List.mem_cons.mp hb with rfl | hb
        · have ho' : h'.get? b = _ := ho
          rw [ho']; rfl
        · rw [List.mem_singleton.mp hb]
          obtain ⟨ob, ho⟩ := (W.draws A r.hh).live _ _ hs1
          rw [ho]; rfl
      refine (WT A r.hh).go _ _ _ i T { s4 with heap := h', toks := tk } _ _ hmid fun h'' hst' hk'' => ?_
      have F6 := F5.wrote (tk := tk) (s := { s4 with heap := h', toks := tk }) hd hlv5 hk''
      have hT6 : h''.IsTuple T #[.int i t, xv] := let ⟨ob, ho, rr⟩ := hT; ⟨ob, hk'' _ _ hTw ho, rr⟩
      refine wp_assign2 F6 o r hT6 (.int i t) (hr.sub hg1) hx hx2 fun m7 cm7 s7 F7 => ?_
      have same : ∀ {s6 : Shared} {τ6 g6 m6 cm6}, FS s₀ g₀ env (objsAt [e3, it] h'' ++ H) τ6 g6 m6 cm6 s6 → Sub g2 g6 → FS s₀ g₀ env (objsAt [e3, it] s6.heap ++ H) τ6 g6 m6 cm6 s6 ∧ ((∃ old, IsEnum s6.heap e3 it (i + 1 : Nat) old) ∧ St (i + 1) s6.heap) := by
        intro s6 τ6 g6 m6 cm6 F8 hg6
        have hat : ∀ c ∈ [e3, it], s6.heap.get? c = h''.get? c := by
          intro c hc
          obtain ⟨ob, hob⟩ := Option.isSome_iff_exists.mp (live _ _ hst' c hc)
          rw [hob]
          exact (F8.hold (c, ob) (List.mem_append_left _ (mem_objsAt.mpr ⟨hc, hob⟩))).1
        refine ⟨F8.less fun p hp => ?_, (WT A r.hh).frame _ _ _ hst' fun c hc ob e => ?_⟩
        · rcases List.mem_append.mp hp with hp | hp
          · obtain ⟨q1, q2⟩ := mem_objsAt.mp hp
            exact List.mem_append_left _ (mem_objsAt.mpr ⟨q1, by rw [← hat _ q1]; exact q2⟩)
          · exact List.mem_append_right _ hp
        · rcases foot c hc with hw | hg
          · rw [hat c hw]; exact e
          · obtain ⟨ob', hg⟩ := Option.isSome_iff_exists.mp hg
            have e1 : h''.get? c = some ob' := F6.st.gh _ _ (hg1 _ _ hg)
            rw [e] at e1; cases e1
            exact F8.st.gh _ _ (hg6 _ _ hg)
      have F7b := F7.base
      refine wpAny_mono (turn i τ' d hd1 hI A env s₀ _ (objsAt [e3, it] h'' ++ H) _ m7 cm7 s7 _ r o (b.trans F7.st.gg) F7b) (fun f s6 x => ?_) fun _ _ y => y
      cases f with
      | next =>
        obtain ⟨τ6, g6, m6, cm6, rr, F8⟩ := x
        obtain ⟨a1, a2⟩ := same (F8.unbase F7.st) (hg1.trans F8.st.gg)
        exact ⟨ds.length - (i + 1), by omega, i + 1, τ6, g6, m6, cm6, rfl, hlt, rr, a1, a2, hg1.trans F8.st.gg⟩
      | cont =>
        obtain ⟨τ6, g6, m6, cm6, rr, F8⟩ := x
        obtain ⟨a1, a2⟩ := same (F8.unbase F7.st) (hg1.trans F8.st.gg)
        exact ⟨ds.length - (i + 1), by omega, i + 1, τ6, g6, m6, cm6, rfl, hlt, rr, a1, a2, hg1.trans F8.st.gg⟩
      | brk =>
        obtain ⟨τ6, g6, m6, cm6, rr, F8⟩ := x
        exact ⟨τ6, g6, m6, cm6, rr, (F8.unbase F7.st).less fun p hp => List.mem_append_right _ hp⟩
      | ret v =>
        obtain ⟨d6, g6, rr, k6, x6, r6⟩ := x
        exact ⟨d6, g6, rr, k6, step_base F7.st x6, r6⟩
    · have hin : i = ds.length := by omega
      subst hin
      refine (WT A r.hh).done s4 _ _ hst fun h' tk hk' => ?_
      have F5 := F4.wrote (tk := tk) hd hlv hk'
      exact wpAny_execs_nil ⟨τ', g', m', cm', done τ' hI, F5.less fun p hp => List.mem_append_right _ hp⟩
end
end Mine

namespace Mine
open PySem PySem.W PyProof.Rows PySem.Calls
set_option Elab.async false
set_option maxRecDepth 100000
set_option linter.unusedVariables false

/-- a comparison of the items of a walk, wherever g stands -/
def CmpG (X : Cx) (k : Nat) (op : CmpOp) (g : Heap) (P : Nat → Value → Prop) (bt : Nat → Nat → Bool) : Prop :=
  ∀ (A : Around) (i j : Nat) (vi vj : Value) (s : Shared) (Q : Value → Shared → Prop) (E : Value → Shared → Prop), Room A k → Sub g s.heap → P i vi → P j vj → Q (.bool (bt i j)) s → wpAny X.M A (richCompare op vi vj) Q E s
section
variable {X : Cx} {k : Nat} {A : Around} {R : Result → Shared → Prop} {g : Heap} {I S : Addr} {fp wr : List Addr} {n : Nat} {P : Nat → Value → Prop} {St : Nat → Heap → Prop}

theorem max_turns (rm : Room A (k + 1)) (W : Walks X.prog X.w A.in1 I fp wr n P St) (bt : Nat → Nat → Bool) (hc : CmpG X k .Gt g P bt) (hS : S ∉ fp) (gS : g.get? S = none) (gw : ∀ b ∈ wr, g.get? b = none) :
    ∀ (todo j : Nat) (s : Shared) (best : Value) (ep : Nat), todo = n - (j + 1) → j < n → Sub g s.heap → St (j + 1) s.heap → P (argBest bt j) best →
    s.heap.get? S = some { cls := .type "list", dict := none, data := .seq #[best, best] ep, slots := #[] } →
    (∀ v h' tk, P (argBest bt (n - 1)) v → (∀ b o, b ∉ wr → b ≠ S → s.heap.get? b = some o → h'.get? b = some o) → R (.ok (.ret v)) { s with heap := h', toks := tk }) →
    codeAny X.M A (.builtin "max.loop" ⟨[.ref I, .none, .ref S], []⟩) R s := by
  have nm : (toString "max" ++ toString ".loop" : String) = "max.loop" := by decide
  have Sw : S ∉ wr := fun q => hS (W.sub _ q)
  intro todo
  induction todo with
  | zero =>
    intro j s best ep ht hj kk hst hP hs hR
    refine codeAny_builtin F.entry_max_loop ?_
    rw [Around.under_plainId F.plain_max_loop _]
    show wpAny _ A.in1 (seqItems? (.ref S) >>= _) _ _ s
    refine wpAny_bind (wpAny_seqItems hs rfl ?_)
    show wpAny _ A.in1 (tryCatch (pyNext (.ref I)) _ >>= _) _ _ s
    have hn : j + 1 = n := by omega
    refine wpAny_bind (wpAny_tryCatch (W.done s _ _ (hn ▸ hst) fun h' tk hk => ?_))
    show wpAny _ A.in1 (updateSeq S (fun _ => #[]) >>= _) _ _ _
    refine wpAny_bind (wpAny_updateSeq (hk S _ Sw hs) rfl (wpAny_bind (wpAny_letGo (wpAny_pure ?_))))
    have hn' : n - 1 = j := by omega
    exact hR best _ tk (by rw [hn']; exact hP) fun b o hb hbS e => (Heap.get?_update_other _ _ (Ne.symm hbS)).trans (hk b o hb e)
  | succ todo ih =>
    intro j s best ep ht hj kk hst hP hs hR
    refine codeAny_builtin F.entry_max_loop ?_
    rw [Around.under_plainId F.plain_max_loop _]
    show wpAny _ A.in1 (seqItems? (.ref S) >>= _) _ _ s
    refine wpAny_bind (wpAny_seqItems hs rfl ?_)
    show wpAny _ A.in1 (tryCatch (pyNext (.ref I)) _ >>= _) _ _ s
    refine wpAny_bind (wpAny_tryCatch (W.item (j + 1) s _ _ (by omega) hst fun v h' tk hPv hst' hk => ?_))
    have kk' : Sub g h' := fun b o e => hk b o (fun q => by rw [gw b q] at e; cases e) (kk b o e)
    have hs' := hk S _ Sw hs
    show wpAny _ A.in1 (tryCatch (holding [v, v] (richCompare .Gt v best >>= _)) _ >>= _) _ _ _
    refine wpAny_bind (wpAny_tryCatch (wpAny_holding (wpAny_bind (hc A.in1 (j + 1) (argBest bt j) v best _ _ _ rm.in1 kk' hPv hP ?_))))
    refine wpAny_bind (wpAny_holding (wpAny_truthy_bool ?_))
    refine wpAny_bind (wpAny_letGo (wpAny_pure ?_))
    cases hb : bt (j + 1) (argBest bt j) with
    | true =>
      simp only [if_true]
      refine wpAny_bind (wpAny_updateSeq hs' rfl (wpAny_bind (wpAny_letGo ?_)))
      rw [nm]
      refine wpAny_pure ⟨plainId_quiet F.plain_max_loop _, ih (j + 1) _ v _ (by omega) (by omega) (fun b o e => ?_) (W.frame _ _ _ hst' fun b hbf o e => ?_) (by simp only [argBest, hb, if_true]; exact hPv) (Heap.get?_update_self _ hs' rfl) fun u h'' tk'' hPu hk'' => ?_⟩
      · exact (Heap.get?_update_other _ _ (fun q => by rw [← q, gS] at e; cases e)).trans (kk' b o e)
      · exact (Heap.get?_update_other _ _ (fun q : S = b => hS (q ▸ hbf))).trans e
      · exact hR u h'' tk'' hPu fun b o hbw hbS e => hk'' b o hbw hbS ((Heap.get?_update_other _ _ (Ne.symm hbS)).trans (hk b o hbw e))
    | false =>
      simp only [Bool.false_eq_true, if_false]
      refine wpAny_bind (wpAny_letGo ?_)
      rw [nm]
      refine wpAny_pure ⟨plainId_quiet F.plain_max_loop _, ih (j + 1) _ best ep (by omega) (by omega) kk' hst' (by simp only [argBest, hb, Bool.false_eq_true, if_false]; exact hP) hs' fun u h'' tk'' hPu hk'' => ?_⟩
      exact hR u h'' tk'' hPu fun b o hbw hbS e => hk'' b o hbw hbS (hk b o hbw e)

theorem max_starts (rm : Room A (k + 1)) (W : Walks X.prog X.w A.in1 I fp wr n P St) (bt : Nat → Nat → Bool) (hc : CmpG X k .Gt g P bt) (hS : S ∉ fp) (gS : g.get? S = none) (gw : ∀ b ∈ wr, g.get? b = none) (hn : 0 < n) {s : Shared} {ep : Nat} (kk : Sub g s.heap) (hst : St 0 s.heap)
    (hs : s.heap.get? S = some { cls := .type "list", dict := none, data := .seq #[] ep, slots := #[] })
    (hR : ∀ v h' tk, P (argBest bt (n - 1)) v → (∀ b o, b ∉ wr → b ≠ S → s.heap.get? b = some o → h'.get? b = some o) → R (.ok (.ret v)) { s with heap := h', toks := tk }) :
    codeAny X.M A (.builtin "max.loop" ⟨[.ref I, .none, .ref S], []⟩) R s := by
  have nm : (toString "max" ++ toString ".loop" : String) = "max.loop" := by decide
  have Sw : S ∉ wr := fun q => hS (W.sub _ q)
  refine codeAny_builtin F.entry_max_loop ?_
  rw [Around.under_plainId F.plain_max_loop _]
  show wpAny _ A.in1 (seqItems? (.ref S) >>= _) _ _ s
  refine wpAny_bind (wpAny_seqItems hs rfl ?_)
  show wpAny _ A.in1 (tryCatch (pyNext (.ref I)) _ >>= _) _ _ s
  refine wpAny_bind (wpAny_tryCatch (W.item 0 s _ _ hn hst fun v h' tk hPv hst' hk => ?_))
  have kk' : Sub g h' := fun b o e => hk b o (fun q => by rw [gw b q] at e; cases e) (kk b o e)
  have hs' := hk S _ Sw hs
  show wpAny _ A.in1 (updateSeq S (fun _ => #[v, v]) >>= _) _ _ _
  refine wpAny_bind (wpAny_updateSeq hs' rfl ?_)
  rw [nm]
  refine wpAny_pure ⟨plainId_quiet F.plain_max_loop _, max_turns rm W bt hc hS gS gw _ 0 _ v _ rfl hn (fun b o e => ?_) (W.frame _ _ _ hst' fun b hbf o e => ?_) hPv (Heap.get?_update_self _ hs' rfl) fun u h'' tk'' hPu hk'' => ?_⟩
  · exact (Heap.get?_update_other _ _ (fun q => by rw [← q, gS] at e; cases e)).trans (kk' b o e)
  · exact (Heap.get?_update_other _ _ (fun q : S = b => hS (q ▸ hbf))).trans e
  · exact hR u h'' tk'' hPu fun b o hbw hbS e => hk'' b o hbw hbS ((Heap.get?_update_other _ _ (Ne.symm hbS)).trans (hk b o hbw e))
end

theorem max_iter {X : Cx} {k : Nat} {A : Around} {E : Value → Shared → Prop} {g : Heap} {s : Shared} {xv : Value} {ds : List Dat} {bt : Nat → Nat → Bool} (rm : Room A (k + 2)) (kk : Sub g s.heap) (hit : IterOf X k g s xv ds) (hn : 0 < ds.length)
    (hc : CmpG X k .Gt g (fun i v => ∃ d, ds[i]? = some d ∧ Rep g v d) bt) :
    wpAny X.M A (call (.builtin "max") [xv]) (Post g s fun g' v => ∃ d, ds[argBest bt (ds.length - 1)]? = some d ∧ Rep g' v d) E s := by
  have nm : (toString "max" ++ toString ".loop" : String) = "max.loop" := by decide
  refine call_function_tree F.kind_max F.plain_max F.entry_max (F.args_max1 _) ?_
  show wpAny _ A.in1 (Builtin.Builtins.bindParams "max" ["key", "default"] 0 ⟨[], []⟩ >>= _) _ _ s
  refine wpAny_bind (wpAny_of_eq (show Builtin.Builtins.bindParams "max" ["key", "default"] 0 ⟨[], []⟩ = pure [none, none] from rfl) ?_)
  refine wpAny_bind (wpAny_pure ?_)
  refine wpAny_bind (wpAny_mono (hit A.in1 E (rm.in1.le (Nat.le_succ _))) (fun it s2 ⟨k2, I, fp, wr, P, St, e, W⟩ => ?_) fun _ _ y => y)
  subst e
  refine wpAny_bind (wpAny_newObj_type ?_)
  have hSf : s2.heap.objs.size ∉ fp := fun hm => Nat.lt_irrefl _ (W.low _ hm)
  have kk2 : Sub g s2.heap := kk.trans (kp_sub k2)
  have none_of : ∀ {b}, s2.heap.get? b = none ∨ s.heap.get? b = none → g.get? b = none := by
    intro b h
    cases z : g.get? b with
    | none => rfl
    | some o =>
      rcases h with h | h
      · have := kk2 _ _ z; rw [h] at this; cases this
      · have := kk _ _ z; rw [h] at this; cases this
  rw [nm]
  refine wpAny_pure ⟨plainId_quiet F.plain_max_loop _, max_starts (k := k + 1) (g := g) rm (W.walks A.in1 rm.hh) bt (fun A' i j vi vj s' Q E' r' kk' hi hj h => hc A' i j vi vj s' Q E' (r'.le (Nat.le_succ _)) kk' (W.item i vi hi) (W.item j vj hj) h) hSf (none_of (.inl fresh_size)) (fun b hb => none_of (.inr (W.fresh b hb))) hn (kk2.trans (Sub.push .rfl _))
    ((W.walks A.in1 rm.hh).frame _ _ _ W.start fun b _ o e => Heap.get?_push_of_some _ e) (Heap.get?_push_size _ rfl) fun v h' tk hP hk => ?_⟩
  obtain ⟨d, hd, hr⟩ := W.item _ _ hP
  have sub : Sub s.heap h' := fun b o e => hk b o (fun q => by rw [W.fresh b q] at e; cases e) (Nat.ne_of_lt (Heap.lt_size (kp_sub k2 _ _ e))) (Heap.get?_push_of_some _ (kp_sub k2 _ _ e))
  refine ⟨?_, g, ⟨.rfl, sub, kk.trans sub, fun _ _ e => .inl e⟩, d, hd, hr⟩
  obtain ⟨h2, t2, rfl, _⟩ := k2
  exact ⟨h', tk, rfl, sub⟩

section
variable {X : Cx} {k : Nat} {A : Around} {R : Result → Shared → Prop} {g : Heap} {I S : Addr} {fp wr : List Addr} {n : Nat} {P : Nat → Value → Prop} {St : Nat → Heap → Prop}

theorem min_turns (rm : Room A (k + 1)) (W : Walks X.prog X.w A.in1 I fp wr n P St) (bt : Nat → Nat → Bool) (hc : CmpG X k .Lt g P bt) (hS : S ∉ fp) (gS : g.get? S = none) (gw : ∀ b ∈ wr, g.get? b = none) :
    ∀ (todo j : Nat) (s : Shared) (best : Value) (ep : Nat), todo = n - (j + 1) → j < n → Sub g s.heap → St (j + 1) s.heap → P (argBest bt j) best →
    s.heap.get? S = some { cls := .type "list", dict := none, data := .seq #[best, best] ep, slots := #[] } →
    (∀ v h' tk, P (argBest bt (n - 1)) v → (∀ b o, b ∉ wr → b ≠ S → s.heap.get? b = some o → h'.get? b = some o) → R (.ok (.ret v)) { s with heap := h', toks := tk }) →
    codeAny X.M A (.builtin "min.loop" ⟨[.ref I, .none, .ref S], []⟩) R s := by
  have nm : (toString "min" ++ toString ".loop" : String) = "min.loop" := by decide
  have Sw : S ∉ wr := fun q => hS (W.sub _ q)
  intro todo
  induction todo with
  | zero =>
    intro j s best ep ht hj kk hst hP hs hR
    refine codeAny_builtin F.entry_min_loop ?_
    rw [Around.under_plainId F.plain_min_loop _]
    show wpAny _ A.in1 (seqItems? (.ref S) >>= _) _ _ s
    refine wpAny_bind (wpAny_seqItems hs rfl ?_)
    show wpAny _ A.in1 (tryCatch (pyNext (.ref I)) _ >>= _) _ _ s
    have hn : j + 1 = n := by omega
    refine wpAny_bind (wpAny_tryCatch (W.done s _ _ (hn ▸ hst) fun h' tk hk => ?_))
    show wpAny _ A.in1 (updateSeq S (fun _ => #[]) >>= _) _ _ _
    refine wpAny_bind (wpAny_updateSeq (hk S _ Sw hs) rfl (wpAny_bind (wpAny_letGo (wpAny_pure ?_))))
    have hn' : n - 1 = j := by omega
    exact hR best _ tk (by rw [hn']; exact hP) fun b o hb hbS e => (Heap.get?_update_other _ _ (Ne.symm hbS)).trans (hk b o hb e)
  | succ todo ih =>
    intro j s best ep ht hj kk hst hP hs hR
    refine codeAny_builtin F.entry_min_loop ?_
    rw [Around.under_plainId F.plain_min_loop _]
    show wpAny _ A.in1 (seqItems? (.ref S) >>= _) _ _ s
    refine wpAny_bind (wpAny_seqItems hs rfl ?_)
    show wpAny _ A.in1 (tryCatch (pyNext (.ref I)) _ >>= _) _ _ s
    refine wpAny_bind (wpAny_tryCatch (W.item (j + 1) s _ _ (by omega) hst fun v h' tk hPv hst' hk => ?_))
    have kk' : Sub g h' := fun b o e => hk b o (fun q => by rw [gw b q] at e; cases e) (kk b o e)
    have hs' := hk S _ Sw hs
    show wpAny _ A.in1 (tryCatch (holding [v, v] (richCompare .Lt v best >>= _)) _ >>= _) _ _ _
    refine wpAny_bind (wpAny_tryCatch (wpAny_holding (wpAny_bind (hc A.in1 (j + 1) (argBest bt j) v best _ _ _ rm.in1 kk' hPv hP ?_))))
    refine wpAny_bind (wpAny_holding (wpAny_truthy_bool ?_))
    refine wpAny_bind (wpAny_letGo (wpAny_pure ?_))
    cases hb : bt (j + 1) (argBest bt j) with
    | true =>
      simp only [if_true]
      refine wpAny_bind (wpAny_updateSeq hs' rfl (wpAny_bind (wpAny_letGo ?_)))
      rw [nm]
      refine wpAny_pure ⟨plainId_quiet F.plain_min_loop _, ih (j + 1) _ v _ (by omega) (by omega) (fun b o e => ?_) (W.frame _ _ _ hst' fun b hbf o e => ?_) (by simp only [argBest, hb, if_true]; exact hPv) (Heap.get?_update_self _ hs' rfl) fun u h'' tk'' hPu hk'' => ?_⟩
      · exact (Heap.get?_update_other _ _ (fun q => by rw [← q, gS] at e; cases e)).trans (kk' b o e)
      · exact (Heap.get?_update_other _ _ (fun q : S = b => hS (q ▸ hbf))).trans e
      · exact hR u h'' tk'' hPu fun b o hbw hbS e => hk'' b o hbw hbS ((Heap.get?_update_other _ _ (Ne.symm hbS)).trans (hk b o hbw e))
    | false =>
      simp only [Bool.false_eq_true, if_false]
      refine wpAny_bind (wpAny_letGo ?_)
      rw [nm]
      refine wpAny_pure ⟨plainId_quiet F.plain_min_loop _, ih (j + 1) _ best ep (by omega) (by omega) kk' hst' (by simp only [argBest, hb, Bool.false_eq_true, if_false]; exact hP) hs' fun u h'' tk'' hPu hk'' => ?_⟩
      exact hR u h'' tk'' hPu fun b o hbw hbS e => hk'' b o hbw hbS (hk b o hbw e)

theorem min_starts (rm : Room A (k + 1)) (W : Walks X.prog X.w A.in1 I fp wr n P St) (bt : Nat → Nat → Bool) (hc : CmpG X k .Lt g P bt) (hS : S ∉ fp) (gS : g.get? S = none) (gw : ∀ b ∈ wr, g.get? b = none) (hn : 0 < n) {s : Shared} {ep : Nat} (kk : Sub g s.heap) (hst : St 0 s.heap)
    (hs : s.heap.get? S = some { cls := .type "list", dict := none, data := .seq #[] ep, slots := #[] })
    (hR : ∀ v h' tk, P (argBest bt (n - 1)) v → (∀ b o, b ∉ wr → b ≠ S → s.heap.get? b = some o → h'.get? b = some o) → R (.ok (.ret v)) { s with heap := h', toks := tk }) :
    codeAny X.M A (.builtin "min.loop" ⟨[.ref I, .none, .ref S], []⟩) R s := by
  have nm : (toString "min" ++ toString ".loop" : String) = "min.loop" := by decide
  have Sw : S ∉ wr := fun q => hS (W.sub _ q)
  refine codeAny_builtin F.entry_min_loop ?_
  rw [Around.under_plainId F.plain_min_loop _]
  show wpAny _ A.in1 (seqItems? (.ref S) >>= _) _ _ s
  refine wpAny_bind (wpAny_seqItems hs rfl ?_)
  show wpAny _ A.in1 (tryCatch (pyNext (.ref I)) _ >>= _) _ _ s
  refine wpAny_bind (wpAny_tryCatch (W.item 0 s _ _ hn hst fun v h' tk hPv hst' hk => ?_))
  have kk' : Sub g h' := fun b o e => hk b o (fun q => by rw [gw b q] at e; cases e) (kk b o e)
  have hs' := hk S _ Sw hs
  show wpAny _ A.in1 (updateSeq S (fun _ => #[v, v]) >>= _) _ _ _
  refine wpAny_bind (wpAny_updateSeq hs' rfl ?_)
  rw [nm]
  refine wpAny_pure ⟨plainId_quiet F.plain_min_loop _, min_turns rm W bt hc hS gS gw _ 0 _ v _ rfl hn (fun b o e => ?_) (W.frame _ _ _ hst' fun b hbf o e => ?_) hPv (Heap.get?_update_self _ hs' rfl) fun u h'' tk'' hPu hk'' => ?_⟩
  · exact (Heap.get?_update_other _ _ (fun q => by rw [← q, gS] at e; cases e)).trans (kk' b o e)
  · exact (Heap.get?_update_other _ _ (fun q : S = b => hS (q ▸ hbf))).trans e
  · exact hR u h'' tk'' hPu fun b o hbw hbS e => hk'' b o hbw hbS ((Heap.get?_update_other _ _ (Ne.symm hbS)).trans (hk b o hbw e))
end

theorem min_iter {X : Cx} {k : Nat} {A : Around} {E : Value → Shared → Prop} {g : Heap} {s : Shared} {xv : Value} {ds : List Dat} {bt : Nat → Nat → Bool} (rm : Room A (k + 2)) (kk : Sub g s.heap) (hit : IterOf X k g s xv ds) (hn : 0 < ds.length)
    (hc : CmpG X k .Lt g (fun i v => ∃ d, ds[i]? = some d ∧ Rep g v d) bt) :
    wpAny X.M A (call (.builtin "min") [xv]) (Post g s fun g' v => ∃ d, ds[argBest bt (ds.length - 1)]? = some d ∧ Rep g' v d) E s := by
  have nm : (toString "min" ++ toString ".loop" : String) = "min.loop" := by decide
  refine call_function_tree F.kind_min F.plain_min F.entry_min (F.args_min1 _) ?_
  show wpAny _ A.in1 (Builtin.Builtins.bindParams "min" ["key", "default"] 0 ⟨[], []⟩ >>= _) _ _ s
  refine wpAny_bind (wpAny_of_eq (show Builtin.Builtins.bindParams "min" ["key", "default"] 0 ⟨[], []⟩ = pure [none, none] from rfl) ?_)
  refine wpAny_bind (wpAny_pure ?_)
  refine wpAny_bind (wpAny_mono (hit A.in1 E (rm.in1.le (Nat.le_succ _))) (fun it s2 ⟨k2, I, fp, wr, P, St, e, W⟩ => ?_) fun _ _ y => y)
  subst e
  refine wpAny_bind (wpAny_newObj_type ?_)
  have hSf : s2.heap.objs.size ∉ fp := fun hm => Nat.lt_irrefl _ (W.low _ hm)
  have kk2 : Sub g s2.heap := kk.trans (kp_sub k2)
  have none_of : ∀ {b}, s2.heap.get? b = none ∨ s.heap.get? b = none → g.get? b = none := by
    intro b h
    cases z : g.get? b with
    | none => rfl
    | some o =>
      rcases h with h | h
      · have := kk2 _ _ z; rw [h] at this; cases this
      · have := kk _ _ z; rw [h] at this; cases this
  rw [nm]
  refine wpAny_pure ⟨plainId_quiet F.plain_min_loop _, min_starts (k := k + 1) (g := g) rm (W.walks A.in1 rm.hh) bt (fun A' i j vi vj s' Q E' r' kk' hi hj h => hc A' i j vi vj s' Q E' (r'.le (Nat.le_succ _)) kk' (W.item i vi hi) (W.item j vj hj) h) hSf (none_of (.inl fresh_size)) (fun b hb => none_of (.inr (W.fresh b hb))) hn (kk2.trans (Sub.push .rfl _))
    ((W.walks A.in1 rm.hh).frame _ _ _ W.start fun b _ o e => Heap.get?_push_of_some _ e) (Heap.get?_push_size _ rfl) fun v h' tk hP hk => ?_⟩
  obtain ⟨d, hd, hr⟩ := W.item _ _ hP
  have sub : Sub s.heap h' := fun b o e => hk b o (fun q => by rw [W.fresh b q] at e; cases e) (Nat.ne_of_lt (Heap.lt_size (kp_sub k2 _ _ e))) (Heap.get?_push_of_some _ (kp_sub k2 _ _ e))
  refine ⟨?_, g, ⟨.rfl, sub, kk.trans sub, fun _ _ e => .inl e⟩, d, hd, hr⟩
  obtain ⟨h2, t2, rfl, _⟩ := k2
  exact ⟨h', tk, rfl, sub⟩
end Mine

namespace Mine
open PySem PySem.W PyProof.Rows PySem.Calls
set_option Elab.async false
set_option maxRecDepth 100000
set_option linter.unusedVariables false

/-- the common head of two rows -/
def lcp2 : List Int → List Int → List Int
  | a :: as, b :: bs => if a = b then a :: lcp2 as bs else []
  | _, _ => []
theorem lcp2_left : ∀ (a b : List Int), lcp2 a b <+: a
  | [], b => by cases b <;> exact List.prefix_rfl
  | a :: as, [] => List.nil_prefix
  | a :: as, b :: bs => by
    unfold lcp2
    split
    · exact List.cons_prefix_cons.mpr ⟨rfl, lcp2_left as bs⟩
    · exact List.nil_prefix
theorem lcp2_right : ∀ (a b : List Int), lcp2 a b <+: b
  | [], b => by cases b <;> exact List.nil_prefix
  | a :: as, [] => List.prefix_rfl
  | a :: as, b :: bs => by
    unfold lcp2
    split
    · rename_i h; exact List.cons_prefix_cons.mpr ⟨h, lcp2_right as bs⟩
    · exact List.nil_prefix
theorem lcp2_most : ∀ {p a b : List Int}, p <+: a → p <+: b → p <+: lcp2 a b
  | [], _, _, _, _ => List.nil_prefix
  | x :: p, [], _, h, _ => by simp at h
  | x :: p, _ :: _, [], _, h => by simp at h
  | x :: p, a :: as, b :: bs, h1, h2 => by
    obtain ⟨e1, h1⟩ := List.cons_prefix_cons.mp h1
    obtain ⟨e2, h2⟩ := List.cons_prefix_cons.mp h2
    unfold lcp2
    rw [if_pos (e1.symm.trans e2)]
    exact List.cons_prefix_cons.mpr ⟨e1, lcp2_most h1 h2⟩
theorem prefix_antisymm {a b : List Int} (h1 : a <+: b) (h2 : b <+: a) : a = b := h1.eq_of_length (Nat.le_antisymm h1.length_le h2.length_le)

/-- c is the common head of all rows -/
def IsCp (rows : List (List Int)) (c : List Int) : Prop := (∀ r ∈ rows, c <+: r) ∧ ∀ p, (∀ r ∈ rows, p <+: r) → p <+: c
theorem pre_between : ∀ {p a r b : List Int}, p <+: a → p <+: b → ¬ r < a → ¬ b < r → p <+: r
  | [], _, _, _, _, _, _, _ => List.nil_prefix
  | x :: p, [], _, _, h, _, _, _ => by simp at h
  | x :: p, _ :: _, _, [], _, h, _, _ => by simp at h
  | x :: p, a :: as, [], b :: bs, h1, h2, h3, h4 => absurd (List.nil_lt_cons _ _) h3
  | x :: p, a :: as, y :: r, b :: bs, h1, h2, h3, h4 => by
    obtain ⟨e1, g1⟩ := List.cons_prefix_cons.mp h1
    obtain ⟨e2, g2⟩ := List.cons_prefix_cons.mp h2
    subst e1; subst e2
    rw [List.cons_lt_cons_iff] at h3 h4
    have hy : x = y := by
      rcases Int.lt_trichotomy x y with h | h | h
      · exact absurd (.inl h) h4
      · exact h
      · exact absurd (.inl h) h3
    subst hy
    exact List.cons_prefix_cons.mpr ⟨rfl, pre_between g1 g2 (fun q => h3 (.inr ⟨rfl, q⟩)) fun q => h4 (.inr ⟨rfl, q⟩)⟩

theorem argBest_le (bt : Nat → Nat → Bool) : ∀ n, argBest bt n ≤ n
  | 0 => Nat.le_refl _
  | n + 1 => by
    unfold argBest
    split
    · exact Nat.le_refl _
    · exact Nat.le_succ_of_le (argBest_le bt n)
theorem argBest_spec {bt : Nat → Nat → Bool} (tr : ∀ i j k, bt i j = true → bt j k = true → bt i k = true) (ir : ∀ i, bt i i = false) : ∀ n i, i ≤ n → bt i (argBest bt n) = false
  | 0, i, h => by
    have : i = 0 := by omega
    subst this
    exact ir 0
  | n + 1, i, h => by
    unfold argBest
    have ih := argBest_spec tr ir n
    split
    · rename_i hb
      rcases Nat.lt_or_ge i (n + 1) with hi | hi
      · cases hq : bt i (n + 1) with
        | false => rfl
        | true =>
          have := tr _ _ _ hq hb
          rw [ih i (by omega)] at this
          cases this
      · have : i = n + 1 := by omega
        rw [this]; exact ir _
    · rename_i hb
      rcases Nat.lt_or_ge i (n + 1) with hi | hi
      · exact ih i (by omega)
      · have : i = n + 1 := by omega
        rw [this]; simpa using hb

def rowAt (rows : List (List Int)) (i : Nat) : List Int := rows.getD i []
def btLt (rows : List (List Int)) (i j : Nat) : Bool := decide (rowAt rows i < rowAt rows j)
def btGt (rows : List (List Int)) (i j : Nat) : Bool := decide (rowAt rows j < rowAt rows i)
def minRow (rows : List (List Int)) : List Int := rowAt rows (argBest (btLt rows) (rows.length - 1))
def maxRow (rows : List (List Int)) : List Int := rowAt rows (argBest (btGt rows) (rows.length - 1))
theorem lt_tr {a b c : List Int} (h1 : a < b) (h2 : b < c) : a < c := List.lt_trans h1 h2
theorem minRow_spec {rows : List (List Int)} {r : List Int} (h : r ∈ rows) : ¬ r < minRow rows := by
  obtain ⟨i, hi, rfl⟩ := List.getElem_of_mem h
  have := argBest_spec (bt := btLt rows) (fun i j k h1 h2 => by simp only [btLt, decide_eq_true_eq] at *; exact lt_tr h1 h2) (fun i => by simp [btLt, List.lt_irrefl]) (rows.length - 1) i (by omega)
  simp only [btLt, decide_eq_false_iff_not] at this
  have e : rowAt rows i = rows[i] := by simp [rowAt, hi]
  rw [e] at this
  exact this
theorem maxRow_spec {rows : List (List Int)} {r : List Int} (h : r ∈ rows) : ¬ maxRow rows < r := by
  obtain ⟨i, hi, rfl⟩ := List.getElem_of_mem h
  have := argBest_spec (bt := btGt rows) (fun i j k h1 h2 => by simp only [btGt, decide_eq_true_eq] at *; exact lt_tr h2 h1) (fun i => by simp [btGt, List.lt_irrefl]) (rows.length - 1) i (by omega)
  simp only [btGt, decide_eq_false_iff_not] at this
  have e : rowAt rows i = rows[i] := by simp [rowAt, hi]
  rw [e] at this
  exact this
theorem argBest_mem {rows : List (List Int)} (bt : Nat → Nat → Bool) (h : rows ≠ []) : rowAt rows (argBest bt (rows.length - 1)) ∈ rows := by
  have h0 : 0 < rows.length := List.length_pos_iff.mpr h
  have h1 := argBest_le bt (rows.length - 1)
  have h2 : argBest bt (rows.length - 1) < rows.length := by omega
  have e : rowAt rows (argBest bt (rows.length - 1)) = rows[argBest bt (rows.length - 1)] := by simp [rowAt, h2]
  rw [e]
  exact List.getElem_mem h2
theorem isCp_minMax {rows : List (List Int)} (h : rows ≠ []) : IsCp rows (lcp2 (minRow rows) (maxRow rows)) := by
  refine ⟨fun r hr => pre_between (lcp2_left _ _) (lcp2_right _ _) (minRow_spec hr) (maxRow_spec hr), fun p hp => ?_⟩
  exact lcp2_most (hp _ (argBest_mem _ h)) (hp _ (argBest_mem _ h))

/-- a walk through two rows of which the first isn't above the other -/
theorem lcp2_stop {a b : List Int} {i : Nat} (h : a.take i = b.take i) (ha : i < a.length) (hb : i < b.length) (hne : a[i] ≠ b[i]) : lcp2 a b = a.take i := by
  induction i generalizing a b with
  | zero =>
    cases a with
    | nil => simp at ha
    | cons x a =>
      cases b with
      | nil => simp at hb
      | cons y b =>
        have : x ≠ y := by simpa using hne
        simp [lcp2, this]
  | succ i ih =>
    cases a with
    | nil => simp at ha
    | cons x a =>
      cases b with
      | nil => simp at hb
      | cons y b =>
        simp only [List.take_succ_cons, List.cons.injEq] at h
        obtain ⟨e, h⟩ := h
        unfold lcp2
        rw [if_pos e, ih h (by simpa using ha) (by simpa using hb) (by simpa using hne)]
        simp
theorem lcp2_whole {a b : List Int} (h : a <+: b) : lcp2 a b = a := prefix_antisymm (lcp2_left _ _) (lcp2_most List.prefix_rfl h)
theorem in_bounds {a b : List Int} {i : Nat} (h : a.take i = b.take i) (ha : i < a.length) (hle : ¬ b < a) : i < b.length := by
  induction i generalizing a b with
  | zero =>
    cases b with
    | nil => cases a with
      | nil => simp at ha
      | cons x a => exact absurd (List.nil_lt_cons _ _) hle
    | cons y b => simp
  | succ i ih =>
    cases a with
    | nil => simp at ha
    | cons x a =>
      cases b with
      | nil => exact absurd (List.nil_lt_cons _ _) hle
      | cons y b =>
        simp only [List.take_succ_cons, List.cons.injEq] at h
        obtain ⟨e, h⟩ := h
        subst e
        rw [List.cons_lt_cons_iff] at hle
        have := ih h (by simpa using ha) fun q => hle (.inr ⟨rfl, q⟩)
        simpa using this
end Mine

namespace Mine
open PySem PySem.W PyProof.Rows PySem.Calls
set_option Elab.async false
set_option maxRecDepth 100000
set_option linter.unusedVariables false

/-- the parts of a text's statements -/
def stAt : List Stmt → Nat → Stmt
  | a :: _, 0 => a
  | _ :: r, n + 1 => stAt r n
  | [], _ => .Pass ⟨0, 0, 0, 0⟩
def fnB : Stmt → List Stmt
  | .FunctionDef _ _ body .. => body
  | _ => []
def fnP : Stmt → Arguments
  | .FunctionDef _ p .. => p
  | _ => ⟨[], [], none, [], [], none, []⟩
def fnN : Stmt → List (Str × NameKind)
  | .FunctionDef _ _ _ _ _ _ sc .. => sc.names
  | _ => []
def fnS (st : Stmt) (more : List (Str × Const)) : Scope := ⟨.function, fnN st, false, false, more⟩

/-- a def of the text's stands in the module -/
def Stands (X : Cx) (f : Str) (st : Stmt) : Prop := ∃ m, IsDef X f (fnP st) (fnB st) (fnS st m)

theorem upd_same {x y : Str} {lv : LV} {τ : Sto} (h : x = y) : (upd x lv τ).lookup y = some lv := by rw [lookup_upd, if_pos h.symm]
theorem upd_other {x y : Str} {lv : LV} {τ : Sto} {r : Option LV} (h : x ≠ y) (e : τ.lookup y = r) : (upd x lv τ).lookup y = r := by rw [lookup_upd, if_neg (Ne.symm h), e]

section
variable {X : Cx} {k : Nat} {sc : Scope} {σ τ : Sto}

/-- isinstance(e, (list, tuple)) -/
theorem Ev.isin {f a b : Str} {p pa pb pt pos : Pos} {n : Nat} {e : Expr} {d : Dat} {Tx : String} {b1 b2 : Bool} (hf : EvP X k sc σ (.Name f p) fun _ u => u = .builtin "isinstance") (he : Ev X k sc σ e d)
    (h1 : EvP X k sc σ (.Name a pa) fun _ u => u = .type "list") (h2 : EvP X k sc σ (.Name b pb) fun _ u => u = .type "tuple")
    (hty : ∀ g v s, Rep g v d → Sub g s.heap → Shared.TypeIs s v Tx) (ha : ∀ (g : Heap) (x : Value), Rep g x d → AnswersAll (fun s => s.TypeIs x Tx) x [.type "list", .type "tuple"] [b1, b2]) (hp : plainE e = true := by rfl) :
    Ev X k sc σ (.Call (.Name f p) [e, .Tuple [.Name a pa, .Name b pb] n pt] [] pos) (.bool (b1 || b2)) := by
  intro A env g s E rm o bs q
  refine wpAny_Call_NameR (wp_ev (hf A env g s E rm o bs q) fun u g1 s1 k1 x1 p1 => ?_)
  subst p1
  refine callWith_of (P := fun h => True) (by rw [plain_any pos env (es := [e, .Tuple [.Name a pa, .Name b pb] n pt]) (by rw [List.all_cons, hp]; rfl)]; rfl) (fun h _ => ⟨.machine, .inr (.inl rfl), Looks.of_pure rfl⟩) ?_
  rw [starEach_plain hp]
  refine evalArgs_plain (spliced_cons (wp_ev (he A env g1 s1 E rm o (bs.trans x1.gg) (q.step x1)) fun v g2 s2 k2 x2 p2 => ?_))
  have bs2 := (bs.trans x1.gg).trans x2.gg
  have q2 := (q.step x1).step x2
  rw [starEach_plain (e := .Tuple [.Name a pa, .Name b pb] n pt) rfl]
  show wpAny _ _ (spliced ((false, eval (.Tuple [.Name a pa, .Name b pb] n pt) env) :: backTo pos (starEach [] env))) _ _ _
  refine spliced_cons (Tuple_ ?_)
  rw [starEach_plain (e := .Name a pa) rfl, starEach_plain (e := .Name b pb) rfl]
  show wpAny _ _ (spliced ((false, eval (.Name a pa) env) :: (false, eval (.Name b pb) env) :: backTo pt (starEach [] env))) _ _ _
  refine spliced_cons (wp_ev (h1 A env g2 s2 E rm o bs2 q2) fun v1 g3 s3 k3 x3 p3 => spliced_cons (wp_ev (h2 A env g3 s3 E rm o (bs2.trans x3.gg) (q2.step x3)) fun v2 g4 s4 k4 x4 p4 => wpAny_items_nil ?_))
  subst p3; subst p4
  refine wpAny_newObj_type (wpAny_items_nil ⟨trivial, ?_⟩)
  have x5 := step_push (o := { cls := .type "tuple", data := .seq (List.toArray [Value.type "list", Value.type "tuple"]) }) (x1.trans (x2.trans (x3.trans x4)))
  have k5 : Keeps s { s4 with heap := s4.heap.push { cls := .type "tuple", data := .seq (List.toArray [Value.type "list", Value.type "tuple"]) } } := kp_trans k1 (kp_trans k2 (kp_trans k3 (kp_trans k4 (kp_mk (Sub.push .rfl _)))))
  refine IsiPair.tupleOfB (Tx := Tx) (b := b1 || b2) (ha g2 v p2) (hty g2 v _ p2 ((x2.gh.trans (x3.hh.trans x4.hh)).trans (Sub.push .rfl _))) (Heap.get?_push_size _ rfl) (by cases b1 <;> cases b2 <;> rfl) fun tk => ?_
  exact .trans k5 x5 (Post.tok x5.gh (.bool _))

/-- a kind of row: its data, its items, and what the language does with them -/
structure SeqK (X : Cx) (mk : List Int → Dat) (it : Int → Dat) (ok : List Int → Prop) : Prop where
  lt : ∀ {A : Around} {E : Value → Shared → Prop} {Q : Value → Shared → Prop} {s : Shared} {g : Heap} {u v : Value} {a b : List Int}, ok a → ok b → A.units < cLine → Sub g s.heap → Rep g u (mk a) → Rep g v (mk b) → Q (.bool (decide (a < b))) s → wpAny X.M A (richCompare .Lt u v) Q E s
  gt : ∀ {A : Around} {E : Value → Shared → Prop} {Q : Value → Shared → Prop} {s : Shared} {g : Heap} {u v : Value} {a b : List Int}, ok a → ok b → A.units < cLine → Sub g s.heap → Rep g u (mk a) → Rep g v (mk b) → Q (.bool (decide (b < a))) s → wpAny X.M A (richCompare .Gt u v) Q E s
  enum : ∀ (k : Nat) (g : Heap) (s : Shared) (v : Value) (a : List Int), ok a → Sub g s.heap → Rep g v (mk a) → EnumOf X k g s v (a.map it)
  item : ∀ {k : Nat} {sc : Scope} {σ : Sto} {z : Str} {pz : Pos} {y : Str} {p pos : Pos} {a : List Int} {i : Nat} {c : Int}, ok a → Ev X k sc σ (.Name z pz) (mk a) → Ev X k sc σ (.Name y p) (.int i) → a[i]? = some c → (i : Int) < 2 ^ 62 → Ev X k sc σ (.Subscript (.Name z pz) (.Name y p) pos) (it c)
  ne : ∀ (k : Nat) (a b : List Int) (i j : Int), ok a → ok b → i ∈ a → j ∈ b → Op2 X k (compareOp .NotEq) (it i) (it j) (.bool (i != j))
  slice : ∀ {k : Nat} {sc : Scope} {σ : Sto} {z : Str} {pz : Pos} {y : Str} {p ps pos : Pos} {a : List Int} {i : Nat}, ok a → Ev X k sc σ (.Name z pz) (mk a) → Ev X k sc σ (.Name y p) (.int i) → Ev X k sc σ (.Subscript (.Name z pz) (.Slice Option.none (Option.some (.Name y p)) Option.none ps) pos) (mk (a.take i))

/-- lists of ints -/
def dInts (ns : List Int) : List Dat := ns.map .int
def dList (ns : List Int) : Dat := .list (dInts ns)
theorem intsAre_of : ∀ {ns : List Int} {g : Heap} {vs : List Value}, RepAll g vs (dInts ns) → IntsAre vs ns
  | [], _, _, .nil => .nil
  | n :: ns, _, _, .cons (.int _ t) r => .cons _ _ (intsAre_of r)
def okL (ns : List Int) : Prop := ns.length ≤ sizeLine
theorem seqK_list (X : Cx) : SeqK X dList .int okL where
  lt := by
    intro A E Q s g u v a b _ _ hu kk r1 r2 h
    cases r1 with
    | list i1 r1 =>
      cases r2 with
      | list i2 r2 => exact rc_list_lt (isList_sub kk i1) (isList_sub kk i2) (intsAre_of r1) (intsAre_of r2) hu h
  gt := by
    intro A E Q s g u v a b _ _ hu kk r1 r2 h
    cases r1 with
    | list i1 r1 =>
      cases r2 with
      | list i2 r2 => exact rc_list_gt (isList_sub kk i1) (isList_sub kk i2) (intsAre_of r1) (intsAre_of r2) hu h
  enum := by
    intro k g s v a _ kk r
    cases r with
    | list i r => exact enumOf_list kk i r
  item := by
    intro k sc σ z pz y p pos a i c _ hv hi hc hb
    exact Ev.item hv hi (by omega) (by omega) (by simp [dInts, hc])
  ne := fun k a b i j _ _ _ _ => op_ne
  slice := by
    intro k sc σ z pz y p ps pos a i ho hv hi
    refine (Ev.slice hv .none (.some hi) (by simpa [dInts] using (show a.length ≤ sizeLine from ho))).to ?_
    rw [cut_upto]; simp [dList, dInts]

/-- the rows stand in a list or a tuple -/
def Cont (mk : List Int → Dat) (rows : List (List Int)) (d : Dat) : Prop := d = .list (rows.map mk) ∨ d = .tuple (rows.map mk)
theorem rowAt_get {rows : List (List Int)} {mk : List Int → Dat} {i : Nat} {d : Dat} (h : (rows.map mk)[i]? = some d) : d = mk (rowAt rows i) ∧ rowAt rows i ∈ rows := by
  rw [List.getElem?_map] at h
  cases e : rows[i]? with
  | none => rw [e] at h; cases h
  | some r =>
    rw [e] at h
    have hr : rowAt rows i = r := by simp [rowAt, e]
    rw [hr]
    exact ⟨by cases h; rfl, List.mem_of_getElem? e⟩
variable {mk : List Int → Dat} {it : Int → Dat} {ok : List Int → Prop}
theorem op_min (K : SeqK X mk it ok) {rows : List (List Int)} {d : Dat} (hc : Cont mk rows d) (hn : rows ≠ []) (ho : ∀ r ∈ rows, ok r) : OpN X (k + 2) (fun vs => call (.builtin "min") vs) [d] fun g v => Rep g v (mk (minRow rows)) := by
  intro g s vs b0 kk r A E rm
  cases r with
  | cons r rn =>
    cases rn
    have hn' : 0 < (rows.map mk).length := by rw [List.length_map]; exact List.length_pos_iff.mpr hn
    refine wpAny_mono (min_iter (k := k) (bt := btLt rows) rm kk (iterOf_dat kk r hc) hn' ?_) (fun v s' x => x.mono fun g' ⟨d', e, r'⟩ => ?_) fun _ _ y => y
    · intro A' i j vi vj s' Q E' rm' kk' ⟨di, ei, ri⟩ ⟨dj, ej, rj⟩ hq
      obtain ⟨e1, m1⟩ := rowAt_get ei
      obtain ⟨e2, m2⟩ := rowAt_get ej
      subst e1; subst e2
      exact K.lt (ho _ m1) (ho _ m2) (by have := rm'.un; omega) kk' ri rj hq
    · rw [List.length_map] at e
      obtain ⟨e1, _⟩ := rowAt_get e
      subst e1
      exact r'
theorem op_max (K : SeqK X mk it ok) {rows : List (List Int)} {d : Dat} (hc : Cont mk rows d) (hn : rows ≠ []) (ho : ∀ r ∈ rows, ok r) : OpN X (k + 2) (fun vs => call (.builtin "max") vs) [d] fun g v => Rep g v (mk (maxRow rows)) := by
  intro g s vs b0 kk r A E rm
  cases r with
  | cons r rn =>
    cases rn
    have hn' : 0 < (rows.map mk).length := by rw [List.length_map]; exact List.length_pos_iff.mpr hn
    refine wpAny_mono (max_iter (k := k) (bt := btGt rows) rm kk (iterOf_dat kk r hc) hn' ?_) (fun v s' x => x.mono fun g' ⟨d', e, r'⟩ => ?_) fun _ _ y => y
    · intro A' i j vi vj s' Q E' rm' kk' ⟨di, ei, ri⟩ ⟨dj, ej, rj⟩ hq
      obtain ⟨e1, m1⟩ := rowAt_get ei
      obtain ⟨e2, m2⟩ := rowAt_get ej
      subst e1; subst e2
      exact K.gt (ho _ m1) (ho _ m2) (by have := rm'.un; omega) kk' ri rj hq
    · rw [List.length_map] at e
      obtain ⟨e1, _⟩ := rowAt_get e
      subst e1
      exact r'
end
end Mine

namespace Mine
open PySem PySem.W PyProof.Rows PySem.Calls
set_option Elab.async false
set_option maxRecDepth 100000
set_option linter.unusedVariables false

mutual
theorem Rep.reads {h : Heap} : ∀ {v : Value} {d : Dat} (n : Nat), Rep h v d → kqdOk n d = true → ∃ as, Reads h v (kqdP d) as
  | _, _, _, .none, _ => ⟨_, Reads.none⟩
  | _, _, _, .bool b, _ => ⟨_, Reads.bool b⟩
  | _, _, _, .int i t, _ => ⟨_, Reads.int i t⟩
  | _, _, _, .str x t, _ => ⟨_, Reads.str x t⟩
  | _, _, n, .bytes _ _, hk => by cases n <;> simp [kqdOk] at hk
  | _, _, 0, .tuple _ _, hk => by simp [kqdOk] at hk
  | _, _, 0, .list _ _, hk => by simp [kqdOk] at hk
  | _, _, n + 1, .tuple ⟨_, ho⟩ r, hk => by
    obtain ⟨as, q⟩ := RepAll.reads n r (by simpa [kqdOk] using hk)
    rw [kqdP]
    exact ⟨as, reads_tuple_at ho rfl rfl (by simpa using q)⟩
  | _, _, n + 1, .list ⟨_, ho⟩ r, hk => by
    obtain ⟨as, q⟩ := RepAll.reads n r (by simpa [kqdOk] using hk)
    rw [kqdP]
    exact ⟨_, reads_list_at ho rfl rfl (by simpa using q)⟩
theorem RepAll.reads {h : Heap} : ∀ {vs : List Value} {ds : List Dat} (n : Nat), RepAll h vs ds → (∀ d ∈ ds, kqdOk n d = true) → ∃ as, ReadsAll h vs (kqdPs ds) as
  | _, _, _, .nil, _ => ⟨_, ReadsAll.nil⟩
  | _, _, n, .cons hd r, hk => by
    obtain ⟨as, q⟩ := Rep.reads n hd (hk _ (.head _))
    obtain ⟨bs, p⟩ := RepAll.reads n r fun d hm => hk d (.tail _ hm)
    rw [kqdPs]
    exact ⟨_, ReadsAll.cons q p⟩
end
theorem shaped_of {d : Dat} (h : kqdOk 9 d = true) : SeqAt.shaped (kqdP d) = true := by
  have l := kqd_lay 9 d h
  unfold SeqAt.shaped; rw [l.1, Bool.true_and]; exact decide_eq_true (Nat.le_trans l.2 (by decide))

section
variable {X : Cx} {k : Nat} {sc : Scope} {σ τ : Sto}
theorem eqv_is {d e : Dat} {b : Bool} (hd : kqdOk 9 d = true) (he : kqdOk 9 e = true) (hb : b = true ↔ d = e) : PyData.eqv (kqdP d) (kqdP e) = b := by
  have q := kqd_eqv 9 d e 9 hd he
  cases b with
  | true => exact q.mpr (hb.mp rfl)
  | false => exact Bool.eq_false_iff.mpr fun x => absurd (hb.mpr (q.mp x)) (by decide)
/-- d == e of data -/
theorem op_eqD {d e : Dat} {b : Bool} (hd : kqdOk 9 d = true) (he : kqdOk 9 e = true) (hb : b = true ↔ d = e) : Op2 X k (compareOp .Eq) d e (.bool b) := by
  intro g s u v b0 kk hu hv A E rm
  obtain ⟨as, ra⟩ := (hu.sub kk).reads 9 hd
  obtain ⟨bs, rb⟩ := (hv.sub kk).reads 9 he
  exact eq_dataH ra rb (shaped_of hd) (shaped_of he) (by have := rm.un; omega) (by rw [eqv_is hd he hb]; exact Post.here kk (.bool _))
theorem op_neD {d e : Dat} {b : Bool} (hd : kqdOk 9 d = true) (he : kqdOk 9 e = true) (hb : b = true ↔ d = e) : Op2 X k (compareOp .NotEq) d e (.bool (!b)) := by
  intro g s u v b0 kk hu hv A E rm
  obtain ⟨as, ra⟩ := (hu.sub kk).reads 9 hd
  obtain ⟨bs, rb⟩ := (hv.sub kk).reads 9 he
  exact ne_dataH ra rb (shaped_of hd) (shaped_of he) (by have := rm.un; omega) (by rw [eqv_is hd he hb]; exact Post.here kk (.bool _))

theorem dList_ok {n : Nat} {ns : List Int} : kqdOk (n + 1) (dList ns) = true := by
  unfold dList dInts kqdOk
  rw [List.all_eq_true]
  intro d hd
  obtain ⟨i, _, rfl⟩ := List.mem_map.mp hd
  cases n <;> rfl
theorem dList_inj {a b : List Int} (h : dList a = dList b) : a = b := by
  unfold dList dInts at h
  have h' := Dat.list.inj h
  exact (List.map_inj_right (fun x y e => Dat.int.inj e)).mp h'
theorem dList_iff {a b : List Int} : (decide (a = b) = true ↔ dList a = dList b) := by
  rw [decide_eq_true_iff]
  exact ⟨fun h => by rw [h], dList_inj⟩

/-- the least of whole numbers -/
theorem dInts_get {ns : List Int} {i : Nat} {d : Dat} (h : (dInts ns)[i]? = some d) : d = .int (ns.getD i 0) := by
  unfold dInts at h
  rw [List.getElem?_map] at h
  cases e : ns[i]? with
  | none => rw [e] at h; cases h
  | some r =>
    rw [e] at h
    cases h
    simp [e]
end
end Mine

namespace Mine
open PySem PySem.W PyProof.Rows PySem.Calls
set_option Elab.async false
set_option maxRecDepth 100000
set_option linter.unusedVariables false

theorem Caps.nil {sc scope : Scope} {τ : Sto} : Caps sc scope τ [] := ⟨fun y d e => by simp at e, fun y u e => by simp at e, fun y P mp e => by simp at e⟩
theorem Caps.cons {sc scope : Scope} {τ cap : Sto} {y : Str} {d : Dat} (e : τ.lookup y = some (.dat d)) (r : Caps sc scope τ cap) (h1 : ((y, NameKind.free) ∈ scope.names) := by decide) (h2 : scope.names.lookup y = some .free := by rfl)
    (h3 : sc.names.lookup y = some .cell := by rfl) : Caps sc scope τ ((y, .dat d) :: cap) := by
  refine ⟨fun z d' h => ?_, fun z u h => ?_, fun z P mp h => ?_⟩
  · rw [List.lookup_cons] at h
    by_cases q : z = y
    · subst q
      simp only [beq_self_eq_true] at h
      cases h
      exact ⟨e, h1, h2, h3⟩
    · have : (z == y) = false := by simpa using q
      rw [this] at h
      exact r.sub z d' h
  · rw [List.lookup_cons] at h
    by_cases q : z = y
    · subst q
      simp only [beq_self_eq_true] at h
      cases h
    · have : (z == y) = false := by simpa using q
      rw [this] at h
      exact r.noval z u h
  · rw [List.lookup_cons] at h
    by_cases q : z = y
    · subst q
      simp only [beq_self_eq_true] at h
      cases h
    · have : (z == y) = false := by simpa using q
      rw [this] at h
      exact r.obj z P mp h
section
variable {X : Cx} {k : Nat} {sc scope : Scope} {τ cap : Sto} {α : Type} {l : List α} {toD f : α → Dat} {p : α → Bool}
theorem elts_map {x : Str} {elt : Expr} (el : ∀ a ∈ l, Ev X k (relabelS scope sc) ((x, .dat (toD a)) :: cap) elt (f a)) : Elts X k sc scope cap x [] elt (l.map toD) (l.map fun a => some (f a)) where
  len := by simp
  some_ := fun i d y h1 h2 => by
    rw [List.getElem?_map] at h1 h2
    cases e : l[i]? with
    | none => rw [e] at h1; cases h1
    | some a =>
      rw [e] at h1 h2
      cases h1; cases h2
      exact ⟨.inl ⟨rfl, rfl⟩, el a (List.mem_of_getElem? e)⟩
  none_ := fun i d h1 h2 => by
    rw [List.getElem?_map] at h2
    cases e : l[i]? with
    | none => rw [e] at h2; cases h2
    | some a => rw [e] at h2; cases h2
theorem elts_filt {x : Str} {c elt : Expr} (ht : ∀ a ∈ l, EvT X k (relabelS scope sc) ((x, .dat (toD a)) :: cap) c (p a)) (el : ∀ a ∈ l, p a = true → Ev X k (relabelS scope sc) ((x, .dat (toD a)) :: cap) elt (f a)) :
    Elts X k sc scope cap x [c] elt (l.map toD) (l.map fun a => if p a then some (f a) else none) where
  len := by simp
  some_ := fun i d y h1 h2 => by
    rw [List.getElem?_map] at h1 h2
    cases e : l[i]? with
    | none => rw [e] at h1; cases h1
    | some a =>
      rw [e] at h1 h2
      cases h1
      have hm := List.mem_of_getElem? e
      cases hp : p a with
      | false => simp [hp] at h2
      | true =>
        simp [hp] at h2
        subst h2
        exact ⟨.inr ⟨c, rfl, hp ▸ ht a hm⟩, el a hm hp⟩
  none_ := fun i d h1 h2 => by
    rw [List.getElem?_map] at h1 h2
    cases e : l[i]? with
    | none => rw [e] at h1; cases h1
    | some a =>
      rw [e] at h1 h2
      cases h1
      have hm := List.mem_of_getElem? e
      cases hp : p a with
      | false => exact .inr ⟨c, rfl, hp ▸ ht a hm⟩
      | true => simp [hp] at h2
theorem fm_map : ∀ (l : List α), (l.map fun a => some (f a)).filterMap id = l.map f
  | [] => rfl
  | a :: l => by simp
theorem fm_filt : ∀ (l : List α), (l.map fun a => if p a then some (f a) else none).filterMap id = (l.filter p).map f
  | [] => rfl
  | a :: l => by
    rw [List.map_cons, List.filterMap_cons, fm_filt l]
    cases h : p a <;> simp [h]
theorem Ev.compFilt {x : Str} {px pos : Pos} {t elt iter : Expr} (hit : Its X k sc τ iter (l.map toD)) (cap : Sto) (c : CompOk sc scope) (cp : Caps sc scope τ cap) (hx : scope.names.lookup x = some .local)
    (ht : ∀ a ∈ l, EvT X k (relabelS scope sc) ((x, .dat (toD a)) :: cap) t (p a)) (el : ∀ a ∈ l, p a = true → Ev X k (relabelS scope sc) ((x, .dat (toD a)) :: cap) elt (f a)) (hz : l.length ≤ sizeLine) :
    Ev X k sc τ (.ListComp elt [⟨.Name x px, iter, [t], 0⟩] scope pos) (.list ((l.filter p).map f)) :=
  (Ev.comp hit cap c cp hx (elts_filt ht el) (by simpa using hz)).to (by rw [fm_filt])
theorem Ex.assignCompMap {x y : Str} {px py pos spos : Pos} {elt iter : Expr} {R : Out → Prop} (hit : Its X k sc τ iter (l.map toD)) (cap : Sto) (c : CompOk sc scope) (cp : Caps sc scope τ cap) (hx : scope.names.lookup x = some .local)
    (el : ∀ a ∈ l, Ev X k (relabelS scope sc) ((x, .dat (toD a)) :: cap) elt (f a)) (hz : l.length ≤ sizeLine) (hr : R (.next (upd y (.dat (.list (l.map f))) τ))) (hy : sc.names.lookup y = some .local)
    (hsw : ∀ env : Env, env.scope.kind = .function → env.scope.names.lookup y = some .local → swapsWith (.ListComp elt [⟨.Name x px, iter, [], 0⟩] scope pos) (some (.Name y py)) spos.line env = pure true) :
    Ex X k sc τ (exec (.Assign [.Name y py] (.ListComp elt [⟨.Name x px, iter, [], 0⟩] scope pos) spos)) R :=
  Ex.assignComp hit cap c cp hx (elts_map el) (by simpa using hz) (by rw [fm_map]; exact hr) hy hsw
theorem CompOk.of {sc scope : Scope} (h1 : scope.kind = .function := by rfl) (h2 : ∀ y ∈ scope.names, y.2 ≠ .cell := by decide) (h3 : (scope.names.all fun y => !(y.2 == .free) || sc.names.lookup y.1 == some .cell) = true := by rfl)
        (h4 : ∀ y ∈ scope.names, y.2 = .local → scope.names.lookup y.1 = some .local := by decide) (h5 : ∀ y ∈ scope.names, y.2 = .free → scope.names.lookup y.1 = some .free := by decide) : CompOk sc scope := ⟨h1, h2, fun y hy hf => by
    have := List.all_eq_true.mp h3 y hy
    rw [hf] at this
    simpa using this, h4, h5⟩
theorem swaps_comp {env : Env} {y : Str} {elt : Expr} {gens : List Comprehension} {py pos : Pos} {line : Nat} (hk : env.scope.kind = .function) (hl : env.scope.names.lookup y = some .local) (hline : (py.line == pos.line) = true := by rfl)
    (hn : (scope.names.any fun (n, k) => n == y && (k == .local || k == .cell)) = false := by rfl) : swapsWith (.ListComp elt gens scope pos) (some (.Name y py)) line env = pure true := by
  show (pure (env.blockKind == .function && env.kindOf y == some .local && py.line == (Expr.ListComp elt gens scope pos).pos.line && !(scope.names.any fun (n, k) => n == y && (k == .local || k == .cell))) : Sem Bool) = pure true
  have e1 : env.blockKind = .function := by
    unfold Env.blockKind; rw [hk]; rfl
  have e2 : env.kindOf y = some .local := hl
  have e3 : (py.line == (Expr.ListComp elt gens scope pos).pos.line) = true := hline
  rw [e1, e2, e3, hn]
  rfl
end
theorem fmodNat (a b : Nat) : (a : Int).fmod (b : Int) = ((a % b : Nat) : Int) := (Int.ofNat_fmod a b).symm
theorem fdivNat (a b : Nat) : (a : Int).fdiv (b : Int) = ((a / b : Nat) : Int) := (Int.ofNat_fdiv a b).symm
end Mine

namespace Mine
open PySem PySem.W PyProof.Rows PySem.Calls
set_option Elab.async false
set_option maxRecDepth 100000
set_option linter.unusedVariables false

theorem repAll_of_well {P : Params} {h : Heap} : ∀ {ns : List Int} {vs : List Value}, WellAll P h vs (ofPys (ns.map PyData.int)) → RepAll h vs (dInts ns)
  | [], _, .nil => .nil
  | n :: ns, _, .cons (.int _ t) r => .cons (.int _ t) (repAll_of_well r)
theorem rep_of_well {P : Params} {h : Heap} {l : Addr} {ns : List Int} (w : Well P h (.ref l) (ofPy (PyData.list (ns.map PyData.int)))) : Rep h (.ref l) (dList ns) := by
  have e : ofPy (PyData.list (ns.map PyData.int)) = .list (ofPys (ns.map PyData.int)) := by unfold ofPy; rfl
  rw [e] at w
  cases w with
  | list ho r => exact .list ⟨_, ho⟩ (repAll_of_well r)

theorem free_of {p : Program} {loose : List Str} {mean : ExcName → Option Value} {mg mb : Str → Option Value} {h : Heap} (T : Top p loose mean mg mb h) (x : Str)
    (hx : decide (x ∉ startupNames ∧ x ∉ loose ∧ x ∉ (recsOf p).map (·.name) ∧ x ∉ (litsOf p).map (·.1) ∧ x ∉ (clssOf p loose).map (·.name)) = true) : mg x = none := by
  obtain ⟨h1, h2, h3, h4, h5⟩ := of_decide_eq_true hx
  exact T.free x h1 h2 h3 h4 h5
theorem fn_of {p : Program} {loose : List Str} {mean : ExcName → Option Value} {mg mb : Str → Option Value} {h : Heap} (T : Top p loose mean mg mb h) (x : Str) {d : DefRec} (hd : (recsOf p).find? (fun d => decide (d.name = x)) = some d) :
    ∃ a o pm code doc, mg d.name = some (.ref a) ∧ h.get? a = some o ∧ o.data = .func (docDef d.name d.params d.body d.scope pm code doc) ∧ h.CodeRec code d.name := T.fn d (List.mem_of_find?_eq_some hd)
end Mine

namespace Mine
open PySem PySem.W PyProof.Rows PySem.Calls
set_option Elab.async false
set_option maxRecDepth 100000
set_option linter.unusedVariables false

theorem slot_map_next : Slot "map" "__next__" "map.__next__" :=
  .of (owner := "map") (n := "__next__") (by rw [typeLookup_type, builtinLookup_eq_fast]; kernel_rfl) (by decide +kernel) (by decide +kernel) (by decide +kernel)
    (by first | exact .inl (by decide +kernel) | exact .inr (by decide +kernel)) (by rw [isSubtype_type]; kernel_rfl)
theorem slot_map_iter : Slot "map" "__iter__" "map.__iter__" :=
  .of (owner := "map") (n := "__iter__") (by rw [typeLookup_type, builtinLookup_eq_fast]; kernel_rfl) (by decide +kernel) (by decide +kernel) (by decide +kernel)
    (by first | exact .inl (by decide +kernel) | exact .inr (by decide +kernel)) (by rw [isSubtype_type]; kernel_rfl)
theorem slot_map_init : Slot "map" "__init__" "object.__init__" :=
  .of (owner := "object") (n := "__init__") (by rw [typeLookup_type, builtinLookup_eq_fast]; kernel_rfl) (by decide +kernel) (by decide +kernel) (by decide +kernel)
    (by first | exact .inl (by decide +kernel) | exact .inr (by decide +kernel)) (by rw [isSubtype_type]; kernel_rfl)
theorem entry_map_next : entryFor table "map.__next__" = some Builtin.«map.__next__» := entryFor_of_tree (by kernel_rfl)
theorem entry_map_new : entryFor table "map.__new__" = some Builtin.«map.__new__» := entryFor_of_tree (by kernel_rfl)
theorem entry_map_iter : entryFor table "map.__iter__" = some Builtin.«dict_keyiterator.__iter__» :=
  entryFor_alias (id' := "dict_keyiterator.__iter__") (by kernel_rfl) (by first | rfl | decide +kernel | (unfold String.splitOn; simp +decide [String.splitOnAux])) (by decide +kernel) (by kernel_rfl)
theorem args_map_next (a : Value) : argsOk "map.__next__" ⟨[a], []⟩ := by unfold argsOk; kernel_rfl
theorem args_map_iter (a : Value) : argsOk "map.__iter__" ⟨[a], []⟩ := by unfold argsOk; kernel_rfl
theorem mro_map : mroOf (.type "map") = pure [.type "map", .type "object"] := by rw [mroOf_type]; kernel_rfl
theorem lookup_map_new : typeLookup (.type "map") "__new__" = pure (some (.builtin "map.__new__")) := by rw [typeLookup_type, builtinLookup_eq_fast]; kernel_rfl
theorem called_map : TypeCalled "map" "map.__new__" "object.__init__" :=
  ⟨by decide +kernel, by decide +kernel, ⟨_, _, mro_map⟩, madeBy_type mro_map lookup_map_new (by decide +kernel), by decide +kernel, by rw [isSubtype_type]; kernel_rfl, slot_map_init⟩
theorem typeCall_map (a b : Value) : checkTypeCall "map" ⟨[a, b], []⟩ = pure () := by kernel_rfl
theorem newCall_map (a b : Value) : checkBuiltinCall "map.__new__" ⟨[.type "map", a, b], []⟩ = pure () := by kernel_rfl
theorem nolen_map : typeLookup (.type "map") "__len__" = pure none := by rw [typeLookup_type, builtinLookup_eq_fast]; kernel_rfl
theorem nohint_map : typeLookup (.type "map") "__length_hint__" = pure none := by rw [typeLookup_type, builtinLookup_eq_fast]; kernel_rfl
theorem sub_map : isSubtype (.type "map") (.type "map") = pure true := by rw [isSubtype_type]; kernel_rfl
theorem meets_map_new (f : Value) (l : Addr) (items : Array Value) (n : Nat) (dct : Option Addr) (sl : Array (Option Value)) :
    Meets (Builtin.«map.__new__» ⟨[.type "map", f, .ref l], []⟩) (fun _ R s => s.heap.get? l = some { cls := .type "list", dict := dct, data := .seq items n, slots := sl } ∧
      R (.ok (.ret (.ref ((s.heap.push { cls := .type "list_iterator", data := .fields #[.ref l, .int 0 0] }).push { cls := .type "tuple", data := .seq #[.ref s.heap.objs.size] }).objs.size)))
        { s with heap := ((s.heap.push { cls := .type "list_iterator", data := .fields #[.ref l, .int 0 0] }).push { cls := .type "tuple", data := .seq #[.ref s.heap.objs.size] }).push { cls := .type "map", data := .fields #[.ref (s.heap.push { cls := .type "list_iterator", data := .fields #[.ref l, .int 0 0] }).objs.size, f] } }) :=
  .of_wp fun prog w A R s h => by
    obtain ⟨hp, g, d, tk, os⟩ := s; obtain ⟨hl, h⟩ := h
    have hsub := sub_map
    have hL : Heap.IsList (Shared.heap ⟨hp, g, d, tk, os⟩) l items := ⟨_, hl, rfl, n, rfl⟩
    wp_walk using wpAny_loadPart' hl, wpAny_pyIter_list hL
    exact ⟨_, rfl, h⟩

/-- a map over a list, as it stands -/
structure IsMap (h : Heap) (M T I l : Addr) (f : Value) (i : Nat) (items : Array Value) : Prop where
  m : h.get? M = some { cls := .type "map", data := .fields #[.ref T, f] }
  t : h.get? T = some { cls := .type "tuple", data := .seq #[.ref I] }
  it : h.IsListIter I l i
  l : h.IsList l items

theorem map_next {prog : Program} {w : World} {A : Around} {E : Value → Shared → Prop} {s : Shared} {M T I l : Addr} {f : Value} {i : Nat} {items : Array Value} {u : Value} {R : PySem.Fin → Shared → Prop} (hm : IsMap s.heap M T I l f i items) (hu : items[i]? = some u) (hMI : M ≠ I)
    (h : ∀ h', h'.IsListIter I l (i + 1) → Heap.SameBut I s.heap h' → wpAny (model prog w) A (call f [u]) (fun v s' => R (.done (.ret v)) s') E { s with heap := h' }) :
    wpAny (model prog w) A (Builtin.«map.__next__» ⟨[.ref M], []⟩) R E s := by
  obtain ⟨hp, g, d, tk, os⟩ := s
  show wpAny _ _ (field (.ref M) 0 >>= _) _ _ _
  refine wpAny_bind (wpAny_field hm.m rfl (x := .ref T) rfl ?_)
  refine wpAny_bind (wpAny_seqItems hm.t rfl ?_)
  show wpAny _ _ (forIn #[Value.ref I] (#[] : Array Value) _ >>= _) _ _ _
  rw [← Array.forIn_toList]
  rw [List.forIn_cons]
  refine wpAny_bind (wpAny_bind (wpAny_bind (wpAny_holding (wpAny_nextOf_list_item hm.it hm.l hu fun h' hit hs => wpAny_pure ?_))))
  show wpAny _ _ (forIn ([] : List Value) _ _) _ _ _
  rw [List.forIn_nil]
  refine wpAny_pure ?_
  have hm' : h'.get? M = _ := (hs.2 M hMI).trans hm.m
  refine wpAny_bind (wpAny_field hm' rfl (x := f) rfl ?_)
  refine wpAny_bind (wpAny_holding (wpAny_mono (h h' hit hs) (fun v s' q => ?_) fun _ _ e => e))
  exact wpAny_bind (wpAny_letGo (wpAny_pure q))
theorem map_end {prog : Program} {w : World} {A : Around} {E : Value → Shared → Prop} {s : Shared} {M T I l : Addr} {f : Value} {items : Array Value} {R : PySem.Fin → Shared → Prop} (hh : A.handled = none) (hm : IsMap s.heap M T I l f items.size items)
    (h : ∀ h' e, Heap.ExtBut I s.heap h' → (∃ o, h'.get? e = some o ∧ o.cls = .type "StopIteration") → E (.ref e) { s with heap := h' }) :
    wpAny (model prog w) A (Builtin.«map.__next__» ⟨[.ref M], []⟩) R E s := by
  obtain ⟨hp, g, d, tk, os⟩ := s
  show wpAny _ _ (field (.ref M) 0 >>= _) _ _ _
  refine wpAny_bind (wpAny_field hm.m rfl (x := .ref T) rfl ?_)
  refine wpAny_bind (wpAny_seqItems hm.t rfl ?_)
  show wpAny _ _ (forIn #[Value.ref I] (#[] : Array Value) _ >>= _) _ _ _
  rw [← Array.forIn_toList]
  rw [List.forIn_cons]
  exact wpAny_bind (wpAny_bind (wpAny_bind (wpAny_holding (wpAny_nextOf_list_end hh hm.it hm.l (by simp) h))))

theorem pyNext_map_item {prog : Program} {w : World} {A : Around} {E : Value → Shared → Prop} {s : Shared} {M T I l : Addr} {f : Value} {i : Nat} {items : Array Value} {u : Value} {Q : Option Value → Shared → Prop} (hm : IsMap s.heap M T I l f i items) (hu : items[i]? = some u) (hMI : M ≠ I)
    (h : ∀ h' E', h'.IsListIter I l (i + 1) → Heap.SameBut I s.heap h' → wpAny (model prog w) A.in1 (call f [u]) (fun v s' => Q (some v) s') E' { s with heap := h' }) : wpAny (model prog w) A (pyNext (.ref M)) Q E s := by
  have hT : s.TypeIs (.ref M) "map" := ⟨_, hm.m, rfl⟩
  unfold pyNext
  exact wpAny_bind (wpAny_attempt (wpAny_callSpecial?_slot (name := Str.ofString "__next__") hT slot_map_next
    (wpAny_call_entry slot_map_next hT entry_map_next (map_next hm hu hMI fun h' hit hs => wpAny_mono (h h' _ hit hs) (fun v s' q => ⟨v, rfl, wpAny_pure q⟩) fun _ _ e => e) (args_map_next _))))
theorem pyNext_map_end {prog : Program} {w : World} {A : Around} {E : Value → Shared → Prop} {s : Shared} {M T I l : Addr} {f : Value} {items : Array Value} {Q : Option Value → Shared → Prop} (hh : A.handled = none) (hm : IsMap s.heap M T I l f items.size items)
    (h : ∀ h', Heap.ExtBut I s.heap h' → Q none { s with heap := h' }) : wpAny (model prog w) A (pyNext (.ref M)) Q E s := by
  have hT : s.TypeIs (.ref M) "map" := ⟨_, hm.m, rfl⟩
  unfold pyNext
  refine wpAny_bind (wpAny_attempt (wpAny_callSpecial?_slot (name := Str.ofString "__next__") hT slot_map_next
    (wpAny_call_entry slot_map_next hT entry_map_next (map_end hh hm fun h' e hx he => ?_) (args_map_next _))))
  obtain ⟨o, ho, hc⟩ := he
  refine wpAny_bind (wpAny_isInstance (T := "StopIteration") (b := true) ⟨o, ho, hc⟩ isSubtype_stop ?_)
  exact wpAny_pure (h _ hx)
theorem pyIter_map {prog : Program} {w : World} {A : Around} {E : Value → Shared → Prop} {s : Shared} {M T : Addr} {f : Value} {Q : Value → Shared → Prop} (hm : s.heap.get? M = some { cls := .type "map", data := .fields #[.ref T, f] }) (h : Q (.ref M) s) : wpAny (model prog w) A (pyIter (.ref M)) Q E s := by
  have hT : s.TypeIs (.ref M) "map" := ⟨_, hm, rfl⟩
  refine wpAny_pyIter_slot hT slot_map_iter (wpAny_call_entry slot_map_iter hT entry_map_iter ?_ (args_map_iter _))
  show wpAny _ _ (ret (.ref M)) _ _ s
  exact wpAny_pure ⟨_, rfl, "map", _, hT, slot_map_next.lookup, h⟩

/-- the addresses of a heap's objects -/
def dom (h : Heap) : List Addr := (List.range h.objs.size).filter fun b => (h.get? b).isSome
theorem mem_dom {h : Heap} {b : Addr} : b ∈ dom h ↔ (h.get? b).isSome = true := by
  unfold dom
  rw [List.mem_filter]
  constructor
  · exact fun x => x.2
  · intro x
    refine ⟨List.mem_range.mpr ?_, x⟩
    obtain ⟨o, ho⟩ := Option.isSome_iff_exists.mp x
    exact Heap.lt_size ho

theorem mapWalks {prog : Program} {w : World} {A : Around} (hh : A.handled = none) {h0 : Heap} {M T I l : Addr} {f : Value} {items : Array Value} (P : Nat → Value → Prop) (hMI : M ≠ I) (hTI : T ≠ I) (hlI : l ≠ I) (h0I : h0.get? I = none)
    (hf : ∀ i u (s : Shared) (Q : Value → Shared → Prop) (E : Value → Shared → Prop), items[i]? = some u → Sub h0 s.heap → (∀ v s', P i v → Keeps s s' → Q v s') → wpAny (model prog w) A.in1 (call f [u]) Q E s) :
    Walks prog w A M (M :: T :: I :: l :: dom h0) [I] items.size P (fun i h => IsMap h M T I l f i items ∧ Sub h0 h) where
  sub := fun b hb => by rw [List.mem_singleton.mp hb]; simp
  frame := fun i h h' ⟨m, k⟩ hk => ⟨⟨hk M (by simp) _ m.m, hk T (by simp) _ m.t, m.it.at fun o e => hk I (by simp) o e, m.l.at fun o e => hk l (by simp) o e⟩, fun b o e => hk b (by
    have : b ∈ dom h0 := mem_dom.mpr (by rw [e]; rfl)
    simp [this]) o (k b o e)⟩
  item := fun i s Q E hi ⟨m, k⟩ hQ => by
    have hu : items[i]? = some items[i] := by simp [hi]
    refine pyNext_map_item m hu hMI fun h' E' hit hs => ?_
    have k' : Sub h0 h' := fun b o e => (hs.2 b (fun q => by rw [q, h0I] at e; cases e)).trans (k b o e)
    refine hf i _ _ _ _ hu k' fun v s' hP hk => ?_
    obtain ⟨h2, tk, rfl, kp⟩ := hk
    exact hQ v h2 tk hP ⟨⟨kp _ _ ((hs.2 M hMI).trans m.m), kp _ _ ((hs.2 T hTI).trans m.t), hit.at fun o e => kp _ _ e, (m.l.at fun o e => (hs.2 l hlI).trans e).at fun o e => kp _ _ e⟩, fun b o e => kp b o (k' b o e)⟩ fun b o hb e => kp b o ((hs.2 b (fun q => hb (by simp [q]))).trans e)
  done := fun s Q E ⟨m, k⟩ hQ => pyNext_map_end hh m fun h' hx => hQ h' s.toks fun b o hb e => hx b o (fun q => hb (by simp [q])) e
  self := fun i s Q E ⟨m, k⟩ hQ => pyIter_map m.m hQ
end Mine

namespace Mine
open PySem PySem.W PyProof.Rows PySem.Calls
set_option Elab.async false
set_option maxRecDepth 100000
set_option linter.unusedVariables false

/-- what a map hands out, gathered -/
theorem collect_map {prog : Program} {w : World} {A : Around} {E : Value → Shared → Prop} {s : Shared} {I : Addr} {fp wr : List Addr} {n : Nat} {P : Nat → Value → Prop} {St : Nat → Heap → Prop} {Q : List Value → Shared → Prop} (W : Walks prog w A.in1 I fp wr n P St)
    (hT : ∀ i (s : Shared), St i s.heap → s.TypeIs (.ref I) "map") (hst : St 0 s.heap) (hfp : ∀ b ∈ fp, b < s.heap.objs.size) (hI : I ∈ fp)
    (hQ : ∀ (h' : Heap) (tk : Tok) (acc : Array Value), (∀ b o, b ∉ wr → s.heap.get? b = some o → h'.get? b = some o) → ItemsOf P acc n → Q acc.toList { s with heap := h', toks := tk }) (hn : n ≤ sizeLine) : wpAny (model prog w) A (collect (.ref I)) Q E s := by
  have hSf : s.heap.objs.size ∉ fp := fun hm => Nat.lt_irrefl _ (hfp _ hm)
  have hSI : s.heap.objs.size ≠ I := fun e => hSf (e ▸ hI)
  have h1 : Builtin.List.listSameRef (.ref s.heap.objs.size) (.ref I) = false := by simp [Builtin.List.listSameRef, hSI]
  have h2 : (Value.type "map" == Value.type "list") = false := by decide
  have h3 : (Value.type "map" == Value.type "tuple") = false := by decide
  generalize hD : s.heap.objs.size = D at *
  unfold collect
  refine wpAny_bind (wpAny_runValue (codeAny_builtin F.entry_proto_collect ?_))
  rw [Around.under_plainId F.plain_proto_collect _]
  show wpAny _ A.in1 (newList [] >>= fun l => again (.builtin "list.__iadd__" ⟨[l, .ref I], []⟩)) _ _ s
  refine wpAny_bind (wpAny_newObj_type ?_)
  rw [hD]
  refine wpAny_pure ⟨plainId_quiet F.plain_list_iadd _, codeAny_builtin F.entry_list_iadd ?_⟩
  rw [Around.under_plainId F.plain_list_iadd _]
  have new : (s.heap.push { cls := .type "list", data := .seq ([] : List Value).toArray }).get? D = some { cls := .type "list", data := .seq ([] : List Value).toArray } := hD ▸ Heap.get?_push_size _ rfl
  have old : ∀ b o, s.heap.get? b = some o → (s.heap.push { cls := .type "list", data := .seq ([] : List Value).toArray }).get? b = some o := fun b o e => Heap.get?_push_of_some _ e
  generalize s.heap.push { cls := .type "list", data := .seq ([] : List Value).toArray } = H at new old ⊢
  have st1 := W.frame 0 s.heap H hst fun b _ o e => old b o e
  show wpAny _ A.in1 (Builtin.List.listExtendWith (.ref D) (.ref I) (.ref D)) _ _ _
  unfold Builtin.List.listExtendWith
  refine wpAny_bind (wpAny_typeOf (hT 0 { s with heap := H } st1) ?_)
  simp only [h1, h2, h3, Bool.or_false, Bool.false_eq_true, if_false]
  refine wpAny_bind (W.self 0 { s with heap := H } _ _ st1 ?_)
  refine wpAny_bind (wpAny_holding ?_)
  unfold Builtin.List.listLengthHint
  refine wpAny_bind (wpAny_specialOf (hT 0 { s with heap := H } st1) nolen_map ?_)
  show wpAny _ A.in1 (specialOf (Value.ref I) (Str.ofString "__length_hint__") >>= _) _ _ _
  refine wpAny_bind (wpAny_specialOf (hT 0 { s with heap := H } st1) nohint_map ?_)
  refine wpAny_pure ?_
  show wpAny _ A.in1 (rule "list.extend.makes-room" >>= fun _ => Builtin.List.listTouch (.ref D) >>= fun _ => again (.builtin "list.extend.loop" ⟨[.ref D, .ref I, .ref D], []⟩)) _ _ _
  refine wpAny_bind (wpAny_rule (wpAny_bind ?_))
  show wpAny _ A.in1 (updateSeq D (·.push .none) >>= fun _ => updateSeq D (·.pop)) _ _ _
  refine wpAny_bind (wpAny_updateSeq new rfl ?_)
  have new2 := Heap.get?_update_self (Obj.mapSeq (·.push Value.none)) new rfl
  refine wpAny_updateSeq new2 rfl ?_
  have new3 := Heap.get?_update_self (Obj.mapSeq (·.pop)) new2 rfl
  have oth : ∀ b o, b ≠ D → H.get? b = some o → ((H.update D (Obj.mapSeq (·.push Value.none))).update D (Obj.mapSeq (·.pop))).get? b = some o :=
    fun b o hb e => (Heap.get?_update_other _ _ (Ne.symm hb)).trans ((Heap.get?_update_other _ _ (Ne.symm hb)).trans e)
  refine wpAny_pure ⟨plainId_quiet F.plain_extend_loop _, codeAny_extend_loopS W.toS hn D hSf _ n 0 _ _ _ rfl (Nat.zero_le _) (W.frame 0 H _ st1 fun b hb o e => oth b o (fun q => hSf (q ▸ hb)) e) new3 (ItemsOf.nil P) fun s' acc' c' hm hS' hacc => ?_⟩
  show wpAny _ A (load D >>= _) _ _ s'
  refine wpAny_bind (wpAny_load hS' (wpAny_pure ?_))
  obtain ⟨h', g', d', tk', os'⟩ := s'
  have e1 : g' = s.gens := hm.gens
  have e2 : d' = s.drawn := hm.drawn
  have e3 : os' = s.os := hm.os
  subst e1 e2 e3
  exact hQ h' tk' acc' (fun b o hb e => by
    have hne : b ≠ D := fun q => by have := Heap.lt_size e; rw [q, ← hD] at this; exact Nat.lt_irrefl _ this
    exact hm.heap b o (fun q => (List.mem_cons.mp q).elim hne hb) (oth b o hne (old b o e))) hacc

theorem call_tuple_map {prog : Program} {w : World} {A : Around} {E : Value → Shared → Prop} {s : Shared} {I : Addr} {fp wr : List Addr} {n : Nat} {P : Nat → Value → Prop} {St : Nat → Heap → Prop} {Q : Value → Shared → Prop} (W : Walks prog w A.in1.in1.in1 I fp wr n P St)
    (hT : ∀ i (s : Shared), St i s.heap → s.TypeIs (.ref I) "map") (hst : St 0 s.heap) (hfp : ∀ b ∈ fp, b < s.heap.objs.size) (hI : I ∈ fp)
    (hQ : ∀ (h' : Heap) (tk : Tok) (acc : Array Value), (∀ b o, b ∉ wr → s.heap.get? b = some o → h'.get? b = some o) → ItemsOf P acc n → Q (.ref h'.objs.size) { s with heap := h'.push { cls := .type "tuple", data := .seq acc }, toks := tk }) (hn : n ≤ sizeLine) :
    wpAny (model prog w) A (call (.type "tuple") [.ref I]) Q E s := by
  refine callType_newIn (S := fun A' R s' => A' = A.in1 ∧ s' = s ∧ ∀ (h' : Heap) (tk : Tok) (acc : Array Value), (∀ b o, b ∉ wr → s.heap.get? b = some o → h'.get? b = some o) → ItemsOf P acc n → R (.ok (.ret (.ref h'.objs.size))) { s with heap := h'.push { cls := .type "tuple", data := .seq acc }, toks := tk })
    F.called_tuple (by decide) (F.typeCall_tuple_1 _) (F.newCall_tuple_1 _) (fun obj => F.args_object_init_2 obj _) F.entry_tuple_new (.of_wp fun A' R s' ⟨e1, e2, h⟩ => ?_) ⟨rfl, rfl, fun h' tk acc hk ha => ⟨⟨_, Heap.get?_push_size _ rfl, rfl⟩, hQ h' tk acc hk ha⟩⟩
  subst e1; subst e2
  have hsub := sub_tuple_self
  have hinit := init_tuple_lookup
  have hmh := madeHere_tuple
  have hTs := hT 0 s' hst
  wp_walk using wpAny_typeOf hTs, collect_map (hn := hn) W hT hst hfp hI
  intro h' tk acc hk ha
  show wpAny _ _ (Builtin.Tuple.tupleExact acc.toList.toArray >>= fun v => ret v) _ _ _
  unfold Builtin.Tuple.tupleExact
  refine wpAny_bind (wpAny_newObj_type ?_ (show acc.toList.toArray.size ≤ sizeLine by simp only [Array.toArray_toList]; rw [ha.1]; exact hn))
  refine wpAny_pure ⟨_, rfl, ?_⟩
  have e : acc.toList.toArray = acc := by simp
  rw [e]
  exact h h' tk acc hk ha

theorem call_map_list {prog : Program} {w : World} {A : Around} {E : Value → Shared → Prop} {s : Shared} {f : Value} {l : Addr} {items : Array Value} {Q : Value → Shared → Prop} (hL : s.heap.IsList l items)
    (h : ∀ h' : Heap, (∀ b o, s.heap.get? b = some o → h'.get? b = some o) → IsMap h' (s.heap.objs.size + 2) (s.heap.objs.size + 1) s.heap.objs.size l f 0 items → Q (.ref (s.heap.objs.size + 2)) { s with heap := h' }) :
    wpAny (model prog w) A (call (.type "map") [f, .ref l]) Q E s := by
  obtain ⟨⟨c, dct, dt, sl⟩, hl, hc, n, hd⟩ := id hL
  replace hc : c = .type "list" := hc
  replace hd : dt = .seq items n := hd
  subst hc hd
  refine callType_new called_map (by decide) (typeCall_map _ _) (newCall_map _ _) (fun obj => F.args_object_init_3 obj _ _) entry_map_new (meets_map_new f l items n dct sl) ⟨hl, ?_⟩
  have z1 : (s.heap.push { cls := .type "list_iterator", data := .fields #[.ref l, .int 0 0] }).objs.size = s.heap.objs.size + 1 := Heap.size_push ..
  show _ ∧ _
  rw [z1]
  have g1 := Heap.get?_push_size s.heap (o := { cls := .type "list_iterator", data := .fields #[.ref l, .int 0 0] }) rfl
  have k1 : ∀ b o, s.heap.get? b = some o → (s.heap.push { cls := .type "list_iterator", data := .fields #[.ref l, .int 0 0] }).get? b = some o := fun b o e => Heap.get?_push_of_some _ e
  generalize s.heap.push { cls := .type "list_iterator", data := .fields #[.ref l, .int 0 0] } = H1 at *
  have g2 := Heap.get?_push_size H1 (o := { cls := .type "tuple", data := .seq #[.ref s.heap.objs.size] }) rfl
  have z2 : (H1.push { cls := .type "tuple", data := .seq #[.ref s.heap.objs.size] }).objs.size = s.heap.objs.size + 2 := by rw [Heap.size_push, z1]
  have k2 : ∀ b o, H1.get? b = some o → (H1.push { cls := .type "tuple", data := .seq #[.ref s.heap.objs.size] }).get? b = some o := fun b o e => Heap.get?_push_of_some _ e
  rw [z1] at g2
  generalize H1.push { cls := .type "tuple", data := .seq #[.ref s.heap.objs.size] } = H2 at *
  have g3 := Heap.get?_push_size H2 (o := { cls := .type "map", data := .fields #[.ref (s.heap.objs.size + 1), f] }) rfl
  have k3 : ∀ b o, H2.get? b = some o → (H2.push { cls := .type "map", data := .fields #[.ref (s.heap.objs.size + 1), f] }).get? b = some o := fun b o e => Heap.get?_push_of_some _ e
  rw [z2] at g3 ⊢
  generalize H2.push { cls := .type "map", data := .fields #[.ref (s.heap.objs.size + 1), f] } = H3 at *
  exact ⟨⟨_, g3, rfl⟩, h H3 (fun b o e => k3 b o (k2 b o (k1 b o e))) ⟨g3, k3 _ _ g2, ⟨_, k3 _ _ (k2 _ _ g1), rfl, rfl⟩, let ⟨o, ho, r⟩ := hL; ⟨o, k3 _ _ (k2 _ _ (k1 _ _ ho)), r⟩⟩⟩

/-- data that hold no other object -/
def Flat : Dat → Prop
  | .str _ => True
  | .bytes _ => True
  | _ => False
theorem Rep.flat {g h : Heap} {v : Value} {d : Dat} (hd : Flat d) (r : Rep g v d) : Rep h v d := by
  cases r with
  | str x t => exact .str x t
  | bytes b t => exact .bytes b t
  | _ => exact hd.elim
theorem repAll_of {h : Heap} : ∀ {vs : List Value} {ds : List Dat}, vs.length = ds.length → (∀ (i : Nat) (v : Value), vs[i]? = some v → ∃ d, ds[i]? = some d ∧ Rep h v d) → RepAll h vs ds
  | [], [], _, _ => .nil
  | v :: vs, d :: ds, hl, hi => by
    obtain ⟨d', e, r⟩ := hi 0 v rfl
    have : d = d' := by simpa using e
    subst this
    exact .cons r (repAll_of (by simpa using hl) fun i u hu => hi (i + 1) u (by simpa using hu))

section
variable {X : Cx} {k : Nat} {sc : Scope} {σ : Sto}
/-- tuple(map(f, m)), f a def of the text's, m a list of texts or octets -/
theorem Ev.tupleMap {ft fm ff : Str} {pt pm pf p1 p2 : Pos} {em : Expr} {ds : List Dat} (ht : EvP X (k + 4) sc σ (.Name ft pt) fun _ u => u = .type "tuple") (hmn : EvP X (k + 4) sc σ (.Name fm pm) fun _ u => u = .type "map") (hm : Ev X (k + 4) sc σ em (.list ds))
    (hk : sc.names.lookup ff = some .globalImplicit) (hfl : ∀ d ∈ ds, Flat d) (hne : ds ≠ []) (hf : ∀ d ∈ ds, FnD X k ff [d] d) (hz : ds.length ≤ sizeLine) (hp : plainE em = true := by rfl)
    (hd : (ff == ("__debug__" : Str)) = false := by decide) : Ev X (k + 4) sc σ (.Call (.Name ft pt) [.Call (.Name fm pm) [.Name ff pf, em] [] p1] [] p2) (.tuple ds) := by
  intro A env g s E rm o bs q
  refine wpAny_Call_NameR (wp_ev (ht A env g s E rm o bs q) fun u g1 s1 k1 x1 p1' => ?_)
  subst p1'
  refine callWith_of (P := fun h => True) (by rw [plain_any p2 env (es := [.Call (.Name fm pm) [.Name ff pf, em] [] p1]) (by rfl)]; rfl) (fun h _ => ⟨.machine, .inr (.inl rfl), Looks.of_pure rfl⟩) ?_
  rw [starEach_plain rfl]
  refine evalArgs_plain (spliced_cons (wpAny_Call_NameR (wp_ev (hmn A env g1 s1 E rm o (bs.trans x1.gg) (q.step x1)) fun u g2 s2 k2 x2 p2' => ?_)))
  subst p2'
  have bs2 := (bs.trans x1.gg).trans x2.gg
  have q2 := (q.step x1).step x2
  refine callWith_of (P := fun h => True) (by rw [plain_any p1 env (es := [.Name ff pf, em]) (by rw [List.all_cons, List.all_cons, hp]; rfl)]; rfl) (fun h _ => ⟨.machine, .inr (.inl rfl), Looks.of_pure rfl⟩) ?_
  obtain ⟨d0, hd0⟩ := List.exists_mem_of_ne_nil ds hne
  obtain ⟨fa, ob, fd, h1, h2, h3, _⟩ := hf d0 hd0
  rw [starEach_plain (e := .Name ff pf) rfl]
  refine evalArgs_plain (spliced_cons (wp_ev (EvP.global hk h1 hd A env g2 s2 E rm o bs2 q2) fun u g3 s3 k3 x3 p3' => ?_))
  subst p3'
  rw [starEach_plain hp]
  show wpAny _ _ (spliced ((false, eval em env) :: backTo p1 (starEach [] env))) _ _ _
  refine spliced_cons (wp_ev (hm A env g3 s3 E rm o (bs2.trans x3.gg) (q2.step x3)) fun v g4 s4 k4 x4 p4 => wpAny_items_nil ⟨trivial, ?_⟩)
  have xx := x1.trans (x2.trans (x3.trans x4))
  have kk := kp_trans k1 (kp_trans k2 (kp_trans k3 k4))
  have bs4 : Sub X.h0 g4 := bs.trans xx.gg
  cases p4 with
  | list il r =>
    rename_i l vs
    have il4 := isList_sub x4.gh il
    refine call_map_list (f := .ref fa) il4 fun h' hk' hM => wpAny_items_nil ⟨trivial, ?_⟩
    have lt_of : ∀ {b : Addr} {o' : Obj}, s4.heap.get? b = some o' → b < s4.heap.objs.size := fun e => Heap.lt_size e
    have s4I : s4.heap.get? s4.heap.objs.size = none := fresh_size
    have h0I : X.h0.get? s4.heap.objs.size = none := by
      cases z : X.h0.get? s4.heap.objs.size with
      | none => rfl
      | some o' => exact absurd (lt_of (x4.gh _ _ (bs4 _ _ z))) (Nat.lt_irrefl _)
    have llt : l < s4.heap.objs.size := let ⟨o', ho', _⟩ := il4; lt_of ho'
    have rm3 : Room A.in1.in1.in1 (k + 1) := ((show Room A ((k + 1) + 1 + 1 + 1) from rm).in1).in1.in1
    have hl := r.length
    have W := mapWalks (prog := X.prog) (w := X.w) (A := A.in1.in1.in1) rm3.hh (h0 := X.h0) (M := s4.heap.objs.size + 2) (T := s4.heap.objs.size + 1) (I := s4.heap.objs.size) (l := l) (f := .ref fa) (items := vs.toArray) (fun i v => ∃ d, ds[i]? = some d ∧ Rep X.h0 v d)
      (by intro e; have : s4.heap.objs.size + 2 = s4.heap.objs.size := e; omega) (by intro e; have : s4.heap.objs.size + 1 = s4.heap.objs.size := e; omega) (Nat.ne_of_lt llt) h0I (fun i u s' Q' E' hu hs0 hq => by
        have hu' : vs[i]? = some u := by simpa using hu
        obtain ⟨d, hd1, hr⟩ := r.get' hu'
        have hm' := List.mem_of_getElem? hd1
        obtain ⟨fa', ob', fd', q1, q2', q3, hop⟩ := hf d hm'
        have : fa' = fa := by rw [h1] at q1; cases q1; rfl
        subst this
        exact wpAny_mono (hop X.h0 s' [u] .rfl hs0 (.one (hr.flat (hfl d hm'))) A.in1.in1.in1.in1 E' rm3.in1) (fun v s'' ⟨k5, g5, x5, p5⟩ => hq v s'' ⟨d, hd1, p5.flat (hfl d hm')⟩ k5) fun _ _ y => y)
    have low : ∀ b ∈ (s4.heap.objs.size + 2) :: (s4.heap.objs.size + 1) :: s4.heap.objs.size :: l :: dom X.h0, b < h'.objs.size := by
      intro b hb
      rcases List.mem_cons.mp hb with rfl | hb
      · exact Heap.lt_size hM.m
      rcases List.mem_cons.mp hb with rfl | hb
      · exact Heap.lt_size hM.t
      rcases List.mem_cons.mp hb with rfl | hb
      · obtain ⟨o', ho', _⟩ := hM.it; exact Heap.lt_size ho'
      rcases List.mem_cons.mp hb with rfl | hb
      · obtain ⟨o', ho', _⟩ := hM.l; exact Heap.lt_size ho'
      obtain ⟨o', ho'⟩ := Option.isSome_iff_exists.mp (mem_dom.mp hb)
      exact Heap.lt_size (hk' _ _ (x4.gh _ _ (bs4 _ _ ho')))
    refine call_tuple_map (A := A) (s := { s4 with heap := h' }) W (fun i s' st => ⟨_, st.1.m, rfl⟩) ⟨hM, fun b o' e => hk' _ _ (x4.gh _ _ (bs4 _ _ e))⟩ low (by simp) (fun h2' tk acc hk2 ha => ?_) (by simp [hl]; exact hz)
    have sub : Sub s4.heap h2' := fun b o' e => hk2 b o' (fun q' => by rw [List.mem_singleton.mp q', s4I] at e; cases e) (hk' b o' e)
    have rr : RepAll g4 acc.toList ds := repAll_of (by rw [Array.length_toList, ha.1]; simpa using hl) fun i v hv => by
      obtain ⟨d, e1, e2⟩ := ha.2 i v (by simpa using hv)
      exact ⟨d, e1, e2.flat (hfl d (List.mem_of_getElem? e1))⟩
    have k5 : Keeps s4 { s4 with heap := h2', toks := tk } := kp_mk sub
    have x5 : Step g4 s4.heap g4 h2' := ⟨.rfl, sub, x4.gh.trans sub, fun _ _ e => .inl e⟩
    have := post_newTuple (s := s) (s' := { s4 with heap := h2', toks := tk }) (kp_trans kk k5) (xx.trans x5) rr
    simpa using this
end
end Mine

namespace Mine
open PySem PySem.W PyProof.Rows PySem.Calls
set_option Elab.async false
set_option maxRecDepth 100000
set_option linter.unusedVariables false

section
variable {prog : Program} {w : World} {A : Around} {E : Value → Shared → Prop} {s : Shared}
theorem subN {D C : String} {b : Bool} (hty : typeOf (.type C) = pure (.type "type")) (htD : typeOf (.type D) = pure (.type "type")) (hsub : isSubtype (.type D) (.type C) = pure b) (dep : Int) (tk : Tok) :
    Meets (Builtin.«issubclass.nested» ⟨[.type D, .type C, .int dep tk], []⟩) (fun _ R s => R (.ok (.ret (.bool b))) s) := by
  intro prog w A R s h
  have hm : (Value.type "type" == Value.type "type") = true := by decide
  repeat (any_goals (first | assumption | (rw [hty]) | (rw [if_pos hm]) | (rw [hsub]) | wp_step))
theorem kind_sub_nested : builtinKind "issubclass.nested" = none := by decide +kernel
theorem plain_sub_nested : plainId "issubclass.nested" = true := by decide +kernel
theorem args_sub_nested_3 (a b c : Value) : argsOk "issubclass.nested" ⟨[a, b, c], []⟩ := by unfold argsOk; kernel_rfl
def SubAll (D : String) : List Value → List Bool → Prop
  | [], [] => True
  | c :: cs, v :: vs => (∃ C, c = .type C ∧ typeOf (.type C) = pure (.type "type") ∧ isSubtype (.type D) (.type C) = pure v) ∧ SubAll D cs vs
  | _, _ => False
theorem sub_items {D : String} {dep : Int} (htD : typeOf (.type D) = pure (.type "type")) (cs : List Value) : ∀ (vs : List Bool) (s : Shared) (Q : Option PySem.Fin × Unit → Shared → Prop),
    SubAll D cs vs → Q (if vs.any id then some (.done (.ret (.bool true))) else none, ()) s →
    wpAny (model prog w) A (forIn cs ((none : Option PySem.Fin), ()) fun c _ => do
      if ← truthy (← call (.builtin "issubclass.nested") [.type D, c, rawInt (dep + 1)]) then
        let r ← ret (.bool true)
        pure (ForInStep.done (some r, ()))
      else pure (ForInStep.yield (none, ()))) Q E s := by
  induction cs with
  | nil =>
    intro vs s Q ha h
    cases vs with
    | nil => exact wpAny_pure h
    | cons v vs => exact ha.elim
  | cons c cs ih =>
    intro vs s Q ha h
    cases vs with
    | nil => exact ha.elim
    | cons v vs =>
      rw [List.forIn_cons]
      obtain ⟨hC, hr⟩ := ha
      obtain ⟨C, hc, hty, hsub⟩ := hC
      subst hc
      refine wpAny_bind (wpAny_bind (call_function_meets kind_sub_nested plain_sub_nested F.entry_issubclass_nested (args_sub_nested_3 _ _ _) (subN hty htD hsub _ _) ?_))
      show wpAny _ _ (truthy (.bool v) >>= _) _ _ _
      refine wpAny_bind (m := truthy (.bool v)) (wpAny_pure ?_)
      cases v with
      | true => exact wpAny_bind (wpAny_pure (wpAny_pure (wpAny_pure h)))
      | false => exact wpAny_pure (ih vs _ Q hr h)
theorem sub_tuple {D : String} {tp : Addr} {cs : List Value} {vs : List Bool} {tk : Tok} {s : Shared} {Q : PySem.Fin → Shared → Prop} (htD : typeOf (.type D) = pure (.type "type"))
    (htp : s.heap.get? tp = some { cls := .type "tuple", data := .seq cs.toArray }) (ha : SubAll D cs vs)
    (hq : Q (.done (.ret (.bool (vs.any id)))) s) : wpAny (model prog w) A (Builtin.«issubclass.nested» ⟨[.type D, .ref tp, .int 0 tk], []⟩) Q E s := by
  obtain ⟨h, g, d, t, os⟩ := s
  have hT2 : (⟨h, g, d, t, os⟩ : Shared).TypeIs (.ref tp) "tuple" := ⟨_, htp, rfl⟩
  have f1 := F.isi_sub_tuple
  repeat (any_goals (first | assumption | wp_step))
  refine wpAny_arrayLoop ?_
  simp only [Option.getD_some, List.toList_toArray]
  refine sub_items (dep := 0) htD cs vs _ _ ha ?_
  cases hv : vs.any id with
  | true =>
    simp only [if_true]
    repeat (any_goals (first | assumption | wp_step))
    exact hv ▸ hq
  | false =>
    simp only [Bool.false_eq_true, if_false]
    repeat (any_goals (first | assumption | wp_step))
    exact hv ▸ hq
theorem call_sub_tuple {D : String} {tp : Addr} {cs : List Value} {vs : List Bool} {s : Shared} {Q : Value → Shared → Prop} (htD : typeOf (.type D) = pure (.type "type"))
    (htp : s.heap.get? tp = some { cls := .type "tuple", data := .seq cs.toArray }) (ha : SubAll D cs vs) (hq : Q (.bool (vs.any id)) s) : wpAny (model prog w) A (call (.builtin "issubclass") [.type D, .ref tp]) Q E s := by
  refine call_issubclass (S := fun _ R s' => s'.heap.get? tp = some { cls := .type "tuple", data := .seq cs.toArray } ∧ R (.ok (.ret (.bool (vs.any id)))) s') (fun prog w A R s' hs => issubclass_outer (sub_tuple htD hs.1 ha hs.2)) ⟨htp, hq⟩
end

section
variable {X : Cx} {k : Nat} {sc : Scope} {σ τ : Sto}
/-- issubclass(c, (a, b)), c a class of the language -/
theorem Ev.issub {f a b : Str} {p pa pb pt pos : Pos} {n : Nat} {e : Expr} {D Ta Tb : String} {b1 b2 : Bool} (hf : EvP X k sc σ (.Name f p) fun _ u => u = .builtin "issubclass") (he : EvP X k sc σ e fun _ u => u = .type D)
    (h1 : EvP X k sc σ (.Name a pa) fun _ u => u = .type Ta) (h2 : EvP X k sc σ (.Name b pb) fun _ u => u = .type Tb) (htD : typeOf (.type D) = pure (.type "type")) (ha : SubAll D [.type Ta, .type Tb] [b1, b2]) (hp : plainE e = true := by rfl) :
    Ev X k sc σ (.Call (.Name f p) [e, .Tuple [.Name a pa, .Name b pb] n pt] [] pos) (.bool (b1 || b2)) := by
  intro A env g s E rm o bs q
  refine wpAny_Call_NameR (wp_ev (hf A env g s E rm o bs q) fun u g1 s1 k1 x1 p1 => ?_)
  subst p1
  refine callWith_of (P := fun h => True) (by rw [plain_any pos env (es := [e, .Tuple [.Name a pa, .Name b pb] n pt]) (by rw [List.all_cons, hp]; rfl)]; rfl) (fun h _ => ⟨.machine, .inr (.inl rfl), Looks.of_pure rfl⟩) ?_
  rw [starEach_plain hp]
  refine evalArgs_plain (spliced_cons (wp_ev (he A env g1 s1 E rm o (bs.trans x1.gg) (q.step x1)) fun v g2 s2 k2 x2 p2 => ?_))
  subst p2
  have bs2 := (bs.trans x1.gg).trans x2.gg
  have q2 := (q.step x1).step x2
  rw [starEach_plain (e := .Tuple [.Name a pa, .Name b pb] n pt) rfl]
  show wpAny _ _ (spliced ((false, eval (.Tuple [.Name a pa, .Name b pb] n pt) env) :: backTo pos (starEach [] env))) _ _ _
  refine spliced_cons (Tuple_ ?_)
  rw [starEach_plain (e := .Name a pa) rfl, starEach_plain (e := .Name b pb) rfl]
  show wpAny _ _ (spliced ((false, eval (.Name a pa) env) :: (false, eval (.Name b pb) env) :: backTo pt (starEach [] env))) _ _ _
  refine spliced_cons (wp_ev (h1 A env g2 s2 E rm o bs2 q2) fun v1 g3 s3 k3 x3 p3 => spliced_cons (wp_ev (h2 A env g3 s3 E rm o (bs2.trans x3.gg) (q2.step x3)) fun v2 g4 s4 k4 x4 p4 => wpAny_items_nil ?_))
  subst p3; subst p4
  refine wpAny_newObj_type (wpAny_items_nil ⟨trivial, ?_⟩)
  have x5 := step_push (o := { cls := .type "tuple", data := .seq (List.toArray [Value.type Ta, Value.type Tb]) }) (x1.trans (x2.trans (x3.trans x4)))
  have k5 : Keeps s { s4 with heap := s4.heap.push { cls := .type "tuple", data := .seq (List.toArray [Value.type Ta, Value.type Tb]) } } := kp_trans k1 (kp_trans k2 (kp_trans k3 (kp_trans k4 (kp_mk (Sub.push .rfl _)))))
  refine call_sub_tuple htD (Heap.get?_push_size _ rfl) ha ?_
  have e : [b1, b2].any id = (b1 || b2) := by cases b1 <;> cases b2 <;> rfl
  rw [e]
  exact .trans k5 x5 (Post.here x5.gh (.bool _))

/-- type(e) -/
theorem op_type {d : Dat} {T : String} (hT : ∀ g v s, Rep g v d → Sub g s.heap → Shared.TypeIs s v T) (hn : (Value.type T == Value.type "builtin_function_or_method") = false := by decide) : OpN X k (fun vs => call (.type "type") vs) [d] fun g v => v = .type T := by
  intro g s vs b0 kk r A E rm
  cases r with
  | cons r rn =>
    cases rn
    exact call_type_of (hT _ _ _ r kk) hn (Post.here kk rfl)
end
end Mine

namespace Mine
open PySem PySem.W PyProof.Rows PySem.Calls
set_option Elab.async false
set_option maxRecDepth 100000
set_option linter.unusedVariables false

/-- a text, given by its signs' numbers -/
def strOf (ns : List Int) : Str := ⟨(ns.map Int.toNat).toArray⟩
def dText (ns : List Int) : Dat := .str (strOf ns)
/-- signs' numbers are no less than nought -/
def Pos0 (ns : List Int) : Prop := ∀ n ∈ ns, 0 ≤ n
theorem strOf_length {ns : List Int} : (strOf ns).length = ns.length := by unfold strOf Str.length; simp
theorem strOf_append {a b : List Int} : strOf (a ++ b) = strOf a ++ strOf b := by
  show strOf (a ++ b) = Str.append (strOf a) (strOf b)
  unfold strOf Str.append; simp
theorem lt_map : ∀ {a b : List Int}, Pos0 a → Pos0 b → (a.map Int.toNat < b.map Int.toNat ↔ a < b)
  | [], [], _, _ => by simp
  | [], _ :: _, _, _ => by simp
  | _ :: _, [], _, _ => by simp
  | x :: a, y :: b, h1, h2 => by
    have e1 := h1 x (by simp)
    have e2 := h2 y (by simp)
    have ih := lt_map (a := a) (b := b) (fun n hn => h1 n (List.mem_cons_of_mem _ hn)) (fun n hn => h2 n (List.mem_cons_of_mem _ hn))
    simp only [List.map_cons, List.cons_lt_cons_iff, ih]
    constructor
    · rintro (h | ⟨h, h'⟩)
      · exact .inl (by omega)
      · exact .inr ⟨by omega, h'⟩
    · rintro (h | ⟨h, h'⟩)
      · exact .inl (by omega)
      · exact .inr ⟨by omega, h'⟩

theorem pick_range {α : Type} (xs : List α) : ∀ (m a : Nat), a + m ≤ xs.length → (List.range' a m).filterMap (xs[·]?) = (xs.drop a).take m
  | 0, a, _ => by simp
  | m + 1, a, h => by
    have ha : a < xs.length := by omega
    rw [List.range'_succ, List.filterMap_cons]
    have e : xs[a]? = some xs[a] := by simp [ha]
    simp only [e]
    rw [pick_range xs m (a + 1) (by omega), List.drop_eq_getElem_cons ha, List.take_succ_cons]
theorem indices_eq (lo hi : Option Int) (n : Nat) : Builtin.Str.strSliceIndices lo hi 1 n = List.range' (kms_lo lo n) (kms_hi hi n - kms_lo lo n) := by
  have key : ∀ a b : Nat, sliceRange (a : Int) (b : Int) 1 = List.range' a (b - a) := by
    intro a b
    unfold sliceRange
    have h1 : (1 : Int) > 0 := by decide
    simp only [h1, if_true]
    rw [List.range'_eq_map_range]
    have e : (if (a : Int) < b then ((b : Int) - a + 1 - 1) / 1 else 0).toNat = b - a := by
      split
      · rw [Int.ediv_one]; omega
      · simp; omega
    rw [e]
    apply List.map_congr_left
    intro k _
    omega
  rw [← key]
  unfold Builtin.Str.strSliceIndices
  have h1 : (1 : Int) > 0 := by decide
  simp only [h1, if_true]
  congr 1
  · cases lo with
    | none => rfl
    | some x =>
      unfold kms_lo
      simp only
      split <;> (try split) <;> omega
  · cases hi with
    | none => rfl
    | some x =>
      unfold kms_hi
      simp only
      split <;> (try split) <;> omega
theorem lo_hi_le (lo hi : Option Int) (n : Nat) : kms_lo lo n ≤ n ∧ kms_hi hi n ≤ n := by
  constructor
  · cases lo <;> unfold kms_lo
    · exact Nat.zero_le _
    · simp only; split <;> omega
  · cases hi <;> unfold kms_hi
    · exact Nat.le_refl _
    · simp only; split <;> omega
/-- a cut of a text -/
def cutS (x : Str) (lo hi : Option Int) : Str := ⟨(cut x.cps.toList lo hi).toArray⟩
theorem picked_eq (x : Str) (lo hi : Option Int) : (⟨((Builtin.Str.strSliceIndices lo hi 1 x.length).filterMap (x.cps[·]?)).toArray⟩ : Str) = cutS x lo hi := by
  rw [indices_eq]
  obtain ⟨h1, h2⟩ := lo_hi_le lo hi x.length
  have hl : x.cps.toList.length = x.length := by rw [Array.length_toList]; rfl
  have e : (fun i : Nat => x.cps[i]?) = fun i => x.cps.toList[i]? := by funext i; simp
  unfold cutS cut
  rw [hl, e]
  rcases Nat.le_total (kms_lo lo x.length) (kms_hi hi x.length) with h | h
  · rw [pick_range x.cps.toList _ _ (by rw [hl]; omega)]
  · have : kms_hi hi x.length - kms_lo lo x.length = 0 := by omega
    rw [this]; simp
theorem cutS_whole {x : Str} {lo hi : Option Int} (h : (Builtin.Str.strSliceIndices lo hi 1 x.length).length = x.length) : cutS x lo hi = x := by
  rw [indices_eq, List.length_range'] at h
  obtain ⟨h1, h2⟩ := lo_hi_le lo hi x.length
  have hl : x.cps.toList.length = x.length := by rw [Array.length_toList]; rfl
  unfold cutS cut
  rw [hl]
  rcases Nat.eq_zero_or_pos x.length with h0 | h0
  · have : x.cps.toList = [] := List.length_eq_zero_iff.mp (hl.trans h0)
    rw [this]
    have e2 : x.cps = #[] := by simpa using this
    cases x
    simp at e2
    subst e2
    rw [List.drop_nil, List.take_nil]
  · have e1 : kms_lo lo x.length = 0 := by omega
    have e2 : kms_hi hi x.length = x.length := by omega
    rw [e1, e2, List.drop_zero, Nat.sub_zero, List.take_of_length_le (by rw [hl]; exact Nat.le_refl _)]
theorem cut_map {α β : Type} (f : α → β) (l : List α) (lo hi : Option Int) : cut (l.map f) lo hi = (cut l lo hi).map f := by
  unfold cut; rw [List.length_map, List.map_take, List.map_drop]
theorem cutS_strOf {ns : List Int} {lo hi : Option Int} : cutS (strOf ns) lo hi = strOf (cut ns lo hi) := by
  unfold cutS strOf
  rw [List.toList_toArray, cut_map]
theorem cutS_length_le {x : Str} {lo hi : Option Int} : (cutS x lo hi).length ≤ x.length := by
  have := cut_length_le x.cps.toList lo hi
  rw [Array.length_toList] at this
  show (cut x.cps.toList lo hi).toArray.size ≤ x.cps.size
  simpa using this

section
variable {X : Cx} {k : Nat} {sc : Scope} {σ τ : Sto}
theorem op_addS {x y : Str} (hz : x.length + y.length ≤ sizeLine) : Op2 X k (binaryOp .Add) (.str x) (.str y) (.str (x ++ y)) := by
  intro g s u v b0 kk hu hv; cases hu; cases hv
  exact Does.tok kk fun A E Q r h => PyProof.Rows.add_str (fun t' tk => h _ _ (.str _ _)) hz
theorem op_eqS {x y : Str} : Op2 X k (compareOp .Eq) (.str x) (.str y) (.bool (x == y)) := by
  intro g s u v b0 kk hu hv; cases hu; cases hv
  exact Does.tok kk fun A E Q r h => PyProof.Rows.eq_str (h _ _ (.bool _))
theorem op_neS {x y : Str} : Op2 X k (compareOp .NotEq) (.str x) (.str y) (.bool (x != y)) := by
  intro g s u v b0 kk hu hv; cases hu; cases hv
  exact Does.tok kk fun A E Q r h => PyProof.Rows.ne_str (h _ _ (.bool _))

theorem made_slice {x : Str} {t : Tok} {l u : Option (Int × Tok)} {g : Heap} {s : Shared} {Q : Value → Shared → Prop} (kk : Sub g s.heap) (hz : x.length ≤ sizeLine)
    (hq : ∀ v s', Post g s (fun g v => Rep g v (.str (cutS x (l.map (·.1)) (u.map (·.1))))) v s' → Q v s') : (sliceMade x t l u none).post Q s := by
  unfold sliceMade
  have ep : slicePicked x l u none = Builtin.Str.strSliceIndices (l.map (·.1)) (u.map (·.1)) 1 x.length := rfl
  rw [ep]
  split
  · rename_i h
    have h' : (Builtin.Str.strSliceIndices (l.map (·.1)) (u.map (·.1)) 1 x.length).length = x.length := by
      simp only [Bool.and_eq_true, beq_iff_eq] at h; exact h.2
    rw [cutS_whole h'] at hq
    exact hq _ _ (Post.here kk (.str _ _))
  · rw [picked_eq]
    exact ⟨Nat.le_trans cutS_length_le hz, hq _ _ (Post.tok kk (.str _ _))⟩
theorem partValue_of {v : Value} {i : Option Int} (h : IsPart v i) : ∃ l : Option (Int × Tok), v = partValue l ∧ l.map (·.1) = i := by
  cases h with
  | none => exact ⟨none, rfl, rfl⟩
  | int i t => exact ⟨some (i, t), rfl, rfl⟩
theorem Ev.sliceS {value : Expr} {lower upper : Option Expr} {p pos : Pos} {x : Str} {lo hi : Option Int} (hv : Ev X k sc σ value (.str x)) (hl : EvO X k sc σ lower lo) (hu : EvO X k sc σ upper hi) (hz : x.length ≤ sizeLine)
    (ht : ∀ o r, letTemporaryGo value o r = pure () := by intro _ _; rfl) : Ev X k sc σ (.Subscript value (.Slice lower upper Option.none p) pos) (.str (cutS x lo hi)) := by
  intro A env g s E rm o bs q
  refine wpAny_Subscript_str_slice (wp_ev (hv A env g s E rm o bs q) fun u g1 s1 k1 x1 p1 => wp_ev (hl A env g1 s1 E rm o (bs.trans x1.gg) (q.step x1)) fun vl g2 s2 k2 x2 p2 =>
    wp_ev (hu A env g2 s2 E rm o ((bs.trans x1.gg).trans x2.gg) ((q.step x1).step x2)) fun vu g3 s3 k3 x3 p3 => ?_) ht
  cases p1
  rename_i tk
  obtain ⟨l, rfl, rfl⟩ := partValue_of p2
  obtain ⟨u, rfl, rfl⟩ := partValue_of p3
  refine ⟨x, tk, l, u, rfl, rfl, rfl, ?_⟩
  have x4 := step_push (o := { cls := .type "slice", data := .fields #[partValue l, partValue u, .none] }) (x1.trans (x2.trans x3))
  have k4 : Keeps s { s3 with heap := s3.heap.push { cls := .type "slice", data := .fields #[partValue l, partValue u, .none] } } := kp_trans k1 (kp_trans k2 (kp_trans k3 (kp_mk (Sub.push .rfl _))))
  exact made_slice (x := x) (t := tk) (l := l) (u := u) (s := { s3 with heap := s3.heap.push { cls := .type "slice", data := .fields #[partValue l, partValue u, .none] } }) x4.gh hz fun v s' y => .trans k4 x4 y
theorem Ev.itemS {value slice : Expr} {pos : Pos} {x : Str} {i : Int} {c : Nat} (hv : Ev X k sc σ value (.str x)) (hi : Ev X k sc σ slice (.int i)) (h0 : 0 ≤ i) (h1 : i < 2 ^ 63) (hc : x.cps[i.toNat]? = some c)
    (hs : ∀ x t i u, subscripted slice false (.str x t) (.int i u) = operate [.str x t, .int i u] (getItem (.str x t) (.int i u)) := by intro _ _ _ _; with_unfolding_all rfl)
    (ht : ∀ x t r, letTemporaryGo value (.str x t) r = pure () := by intro _ _ _; with_unfolding_all rfl) : Ev X k sc σ (.Subscript value slice pos) (.str ⟨#[c]⟩) := by
  intro A env g s E rm o bs q
  refine Subscript_ (wp_ev (hv A env g s E rm o bs q) fun u g1 s1 k1 x1 p1 => wp_ev (hi A env g1 s1 E rm o (bs.trans x1.gg) (q.step x1)) fun v g2 s2 k2 x2 p2 => ?_)
  cases p1; cases p2
  have hlt : i.toNat < x.cps.size := (Array.getElem?_eq_some_iff.mp hc).1
  have hlt' : i < (x.length : Int) := by show i < (x.cps.size : Int); omega
  refine item_str (by unfold fitsSsize; simp; omega) (by omega) hlt' (fun _ => ?_) (hs _ _ _ _) (ht _ _)
  have e : Txt.item x i = ⟨#[c]⟩ := by
    unfold Txt.item Txt.charAt seqIndex?
    have hn : ¬ i < 0 := by omega
    have hb : (decide (0 ≤ i) && decide (i < (x.length : Int))) = true := by simp; omega
    simp only [if_neg hn, hb, if_true, Option.bind_some, hc, Option.getD_some]
  rw [e]
  exact .trans (kp_trans k1 k2) (x1.trans x2) (Post.tok x2.gh (.str _ _))
end
end Mine

namespace Mine
open PySem PySem.W PyProof.Rows PySem.Calls
set_option Elab.async false
set_option maxRecDepth 100000
set_option linter.unusedVariables false

/-- names that the text leaves to the language -/
structure Free (X : Cx) : Prop where
  len : X.mg "len" = none
  min : X.mg "min" = none
  max : X.mg "max" = none
  isinstance : X.mg "isinstance" = none
  list : X.mg "list" = none
  tuple : X.mg "tuple" = none
  enumerate : X.mg "enumerate" = none
  range : X.mg "range" = none
  map : X.mg "map" = none
  type : X.mg "type" = none
  issubclass : X.mg "issubclass" = none
  str : X.mg "str" = none
  bytes : X.mg "bytes" = none
  abs : X.mg "abs" = none
  divmod : X.mg "divmod" = none
  sorted : X.mg "sorted" = none
  sum : X.mg "sum" = none
  set : X.mg "set" = none
  ord : X.mg "ord" = none

def okT (ns : List Int) : Prop := Pos0 ns ∧ ns.length ≤ sizeLine
theorem rc_lt_str {X : Cx} {A : Around} {E : Value → Shared → Prop} {s : Shared} {Q : Value → Shared → Prop} {x y : Str} {t u : Tok} (h : Q (.bool (decide (x.cps.toList < y.cps.toList))) s) : wpAny X.M A (richCompare .Lt (.str x t) (.str y u)) Q E s := by
  show wpAny X.M A (compareOp .Lt (.str x t) (.str y u)) Q E s
  exact PyProof.Rows.lt_str h
theorem rc_gt_str {X : Cx} {A : Around} {E : Value → Shared → Prop} {s : Shared} {Q : Value → Shared → Prop} {x y : Str} {t u : Tok} (h : Q (.bool (decide (y.cps.toList < x.cps.toList))) s) : wpAny X.M A (richCompare .Gt (.str x t) (.str y u)) Q E s := by
  show wpAny X.M A (compareOp .Gt (.str x t) (.str y u)) Q E s
  exact PySem.P.gt_str h
theorem lt_strOf {a b : List Int} (h1 : Pos0 a) (h2 : Pos0 b) : decide ((strOf a).cps.toList < (strOf b).cps.toList) = decide (a < b) := by
  refine decide_eq_decide.mpr ?_
  show (a.map Int.toNat).toArray.toList < (b.map Int.toNat).toArray.toList ↔ a < b
  rw [List.toList_toArray, List.toList_toArray]
  exact lt_map h1 h2
theorem strOf_get {a : List Int} {i : Nat} {c : Int} (h : a[i]? = some c) : (strOf a).cps[i]? = some c.toNat := by
  show (a.map Int.toNat).toArray[i]? = some c.toNat
  rw [List.getElem?_toArray, List.getElem?_map, h]; rfl
theorem seqK_text (X : Cx) : SeqK X dText (fun c => .str ⟨#[c.toNat]⟩) okT where
  lt := by
    intro A E Q s g u v a b h1 h2 hu kk r1 r2 h
    cases r1; cases r2
    refine rc_lt_str ?_
    rw [lt_strOf h1.1 h2.1]; exact h
  gt := by
    intro A E Q s g u v a b h1 h2 hu kk r1 r2 h
    cases r1; cases r2
    refine rc_gt_str ?_
    rw [lt_strOf h2.1 h1.1]; exact h
  enum := by
    intro k g s v a _ kk r
    cases r
    have e : chars (strOf a) = a.map fun c => Dat.str ⟨#[c.toNat]⟩ := by
      unfold chars strOf
      rw [List.toList_toArray, List.map_map]; rfl
    rw [← e]
    exact enumOf_str kk
  item := by
    intro k sc σ z pz y p pos a i c _ hv hi hc hb
    exact Ev.itemS hv hi (by omega) (by omega) (by simpa using strOf_get hc)
  ne := by
    intro k a b i j ha hb hi hj
    have h1 := ha.1 i hi
    have h2 := hb.1 j hj
    have e : ((⟨#[i.toNat]⟩ : Str) != ⟨#[j.toNat]⟩) = (i != j) := by
      by_cases q : i = j
      · subst q; simp
      · have q1 : (i != j) = true := by simpa using q
        have q2 : (⟨#[i.toNat]⟩ : Str) ≠ ⟨#[j.toNat]⟩ := fun x => by
          simp at x; omega
        rw [q1]; simpa using q2
    rw [← e]
    exact op_neS
  slice := by
    intro k sc σ z pz y p ps pos a i ho hv hi
    refine (Ev.sliceS hv .none (.some hi) (by rw [strOf_length]; exact ho.2)).to ?_
    rw [cutS_strOf, cut_upto]; rfl
end Mine

namespace Mine
open PySem PySem.W PyProof.Rows PySem.Calls
set_option Elab.async false
set_option maxRecDepth 100000
set_option linter.unusedVariables false

section
variable {X : Cx} {k : Nat}
theorem op_divmod {a b : Int} (hb : b ≠ 0) (hs : b.natAbs < 1073741824) : OpN X k (fun vs => call (.builtin "divmod") vs) [.int a, .int b] fun g v => Rep g v (.tuple [.int (a.fdiv b), .int (a.fmod b)]) := by
  intro g s vs b0 kk r A E rm
  cases r with
  | cons r1 r =>
    cases r with
    | cons r2 r =>
      cases r; cases r1; cases r2
      refine divmod_int hb ?_ (.inl (PyProof.noPylong_small hs))
      have := post_newTuple (g := g) (g' := g) (s := s) (s' := { s with toks := s.toks + 1 + 1 }) kp_tok (.rfl kk) (vs := [.int (a.fdiv b) s.toks, .int (a.fmod b) (s.toks + 1)]) (.cons (.int _ _) (.cons (.int _ _) .nil))
      exact this
theorem op_abs {a : Int} : OpN X k (fun vs => call (.builtin "abs") vs) [.int a] fun g v => Rep g v (.int (a.natAbs : Nat)) := by
  intro g s vs b0 kk r A E rm
  cases r with
  | cons r1 r =>
    cases r; cases r1
    refine call_abs_int fun u tk => ?_
    have e : (if a < 0 then -a else a) = ((a.natAbs : Nat) : Int) := by split <;> omega
    rw [e]
    exact Post.tok kk (.int _ _)
end

theorem rep2 {h : Heap} {vs : List Value} {d0 d1 : Dat} : RepAll h vs [d0, d1] → ∃ v0 v1 : Value, vs = [v0, v1] ∧ Rep h v0 d0 ∧ Rep h v1 d1
  | .cons (v := v0) r0 (.cons (v := v1) r1 (.nil)) => ⟨v0, v1, rfl, r0, r1⟩
section
variable {X : Cx} {k : Nat} {sc : Scope} {τ : Sto} {s₀ s : Shared} {g₀ g : Heap} {env : Env} {H : List (Addr × Obj)} {m cm : Str → Option Value}
/-- a, b = e -/
theorem Ex.assignT2 {a b : Str} {pa pb pt pos : Pos} {n : Nat} {e : Expr} {d0 d1 : Dat} {R : Out → Prop} (h : Ev X k sc τ e (.tuple [d0, d1])) (hr : R (.next (upd b (.dat d1) (upd a (.dat d0) τ)))) (ha : canStore sc a = true := by rfl) (hb : canStore sc b = true := by rfl)
    (hs : ∀ env, swapsWithSole [.Tuple [.Name a pa, .Name b pb] n pt] e pos.line env = pure false := by intro _; rfl) (hw : ∀ env, EnvOk env sc → swappedStores [.Tuple [.Name a pa, .Name b pb] n pt] e env = pure Option.none := by intro _ _; rfl) :
    Ex X k sc τ (exec (.Assign [.Tuple [.Name a pa, .Name b pb] n pt] e pos)) R := by
  intro A env s₀ g₀ H g m cm s E r o b F
  refine Assign_Tuple (wp_ev (h A env g s E r o (b.trans F.st.gg) F.sto) fun v g' s' k1 x1 p1 => ?_) (hs env) (hw env o)
  have F1 := F.ev k1 x1
  cases p1 with
  | tuple it rr =>
    obtain ⟨v0, v1, he, r0, r1⟩ := rep2 rr
    subst he
    exact wp_assign2 F1 o r (isTup_sub x1.gh it) r0 r1 ha hb fun m' cm' s'' F' => ⟨_, g', m', cm', hr, F'⟩

end

/-- a, b = (u, v), stored by turns -/
theorem swaps2 {env : Env} {sc : Scope} {a b : Str} {pa pb pt tp : Pos} {n k : Nat} {u v : Expr} (o : EnvOk env sc) (ha : sc.names.lookup a = some .local) (hb : sc.names.lookup b = some .local)
    (hu : ([u, v].any fun | .Starred .. => true | _ => false) = false) (hl : (pa.line == pa.line && pb.line == pa.line) = true) (hab : ([a, b].eraseDups.length == 2) = true) (hf : ([u, v].all (foldedForSure 8)) = false) (hc : ([u, v].all (constantsAlone 8)) = false) :
    swappedStores [.Tuple [.Name a pa, .Name b pb] n pt] (.Tuple [u, v] k tp) env = pure (some [a, b]) := by
  have e1 : env.blockKind = .function := by unfold Env.blockKind; rw [o.ek]; rfl
  have ea : env.kindOf a = some .local := o.kindOf ha
  have eb : env.kindOf b = some .local := o.kindOf hb
  have hl2 : (pb.line == pa.line) = true := by rw [Bool.and_eq_true] at hl; exact hl.2
  unfold swappedStores
  simp only [pure_bind, List.length_cons, List.length_nil, Nat.zero_add, e1, hu, List.head?_cons, Option.map_some, Option.getD_some, List.filterMap_cons, List.filterMap_nil, ea, eb, Expr.pos, beq_self_eq_true, hl2, Bool.and_self, if_true]
  have hab' : ([a, b].eraseDups.length != 1 + 1) = false := by rw [beq_iff_eq] at hab; rw [hab]; rfl
  rw [if_neg (by decide)]
  refine (if_neg (Bool.eq_false_iff.mp hu)).trans ?_
  rw [hab', if_neg (by decide), hf, if_neg (by decide), hc, if_neg (by decide)]

section
variable {X : Cx} {k : Nat} {sc : Scope} {τ : Sto} {s₀ s : Shared} {g₀ g : Heap} {env : Env} {H : List (Addr × Obj)} {m cm : Str → Option Value}
/-- a, b = u, v with the second stored first -/
theorem Ex.assignS2 {a b : Str} {pa pb pt tp pos : Pos} {n kk : Nat} {u v : Expr} {d e : Dat} {R : Out → Prop} (h : Ev X k sc τ (.Tuple [u, v] kk tp) (.tuple [d, e])) (hr : R (.next (upd a (.dat d) (upd b (.dat e) τ))))
    (ha : sc.names.lookup a = some .local := by rfl) (hb : sc.names.lookup b = some .local := by rfl) (hu : ([u, v].any fun | .Starred .. => true | _ => false) = false := by rfl) (hl : (pa.line == pa.line && pb.line == pa.line) = true := by rfl)
    (hab : ([a, b].eraseDups.length == 2) = true := by decide) (hf : ([u, v].all (foldedForSure 8)) = false := by rfl) (hc : ([u, v].all (constantsAlone 8)) = false := by rfl) (hs : ∀ env, swapsWithSole [.Tuple [.Name a pa, .Name b pb] n pt] (.Tuple [u, v] kk tp) pos.line env = pure false := by intro _; rfl) :
    Ex X k sc τ (exec (.Assign [.Tuple [.Name a pa, .Name b pb] n pt] (.Tuple [u, v] kk tp) pos)) R := by
  intro A env s₀ g₀ H g m cm s E r o b' F
  refine Assign_Tuple_swapped (names := [a, b]) (wp_ev (h A env g s E r o (b'.trans F.st.gg) F.sto) fun w g' s' k1 x1 p1 => ?_) (hs env) (swaps2 o ha hb hu hl hab hf hc)
  have F1 := F.ev k1 x1
  cases p1 with
  | tuple it rr =>
    obtain ⟨v0, v1, he, r0, r1⟩ := rep2 rr
    subst he
    have it' : IsTup s'.heap _ #[v0, v1] := isTup_sub x1.gh it
    have en : ([a, b] : List Str).length = (#[v0, v1] : Array Value).size := rfl
    rw [en]
    refine unpackItems_tuple r.hh it' fun h' hx => ?_
    have k2 : Keeps s' { s' with heap := h' } := ⟨h', s'.toks, rfl, fun b ob e => hx b ob (Nat.ne_of_lt (Heap.lt_size e)) e⟩
    have F2 := F1.ev k2 ⟨.rfl, kp_sub k2, F1.st.gh.trans (kp_sub k2), fun _ _ e => .inl e⟩
    show wpAny X.M A (assignInOrder [bindName env b, bindName env a] [v1, v0]) _ E _
    have sa : canStore sc a = true := by unfold canStore; rw [ha]; rfl
    have sb : canStore sc b = true := by unfold canStore; rw [hb]; rfl
    refine wpAny_assignInOrder_more (wpAny_bindName (wp_store (lv := .dat e) F2 o sb (o.cells b) r1 trivial fun m3 cm3 s3 F3 => ?_))
    refine wpAny_assignInOrder_more (wpAny_bindName (wp_store (lv := .dat d) F3 o sa (o.cells a) r0 trivial fun m4 cm4 s4 F4 => ?_))
    exact wpAny_assignInOrder_none ⟨_, g', m4, cm4, hr, F4⟩
end
end Mine

namespace Mine
open PySem PySem.W PyProof.Rows PySem.Calls
set_option Elab.async false
set_option maxRecDepth 100000
set_option linter.unusedVariables false

section
variable {X : Cx} {k : Nat} {sc : Scope} {σ τ : Sto} {s₀ s : Shared} {g₀ g : Heap} {env : Env} {H : List (Addr × Obj)} {m cm : Str → Option Value}

theorem iterOf_strK {x : Str} {t : Tok} {n : String} (kk : Sub g s.heap) (hn : ownedNames.contains n = false)
    (hit : ∀ (A : Around) (E : Value → Shared → Prop) (Q : Value → Shared → Prop), Q (.ref s.heap.objs.size) { s with heap := s.heap.push { cls := .type n, data := .fields #[.str x t, .int 0 0] } } → wpAny X.M A (pyIter (.str x t)) Q E s)
    (hw : ∀ A', A'.handled = none → Walks X.prog X.w A' s.heap.objs.size [s.heap.objs.size] [s.heap.objs.size] x.cps.size (SignAt x) (fun i h => h.IsStrIter s.heap.objs.size n x t i)) : IterOf X k g s (.str x t) (chars x) := by
  intro A E rm
  have hl : (chars x).length = x.cps.size := by simp [chars]
  refine hit A E _ ⟨kp_mk (Sub.push .rfl _), s.heap.objs.size, [s.heap.objs.size], [s.heap.objs.size], SignAt x, (fun i h => h.IsStrIter s.heap.objs.size n x t i), rfl, ?_⟩
  exact {
    walks := fun A' hA => hl ▸ hw A' hA
    start := ⟨_, Heap.get?_push_size _ rfl, rfl, rfl⟩
    low := fun b hb => by
      show b < (s.heap.push _).objs.size
      rw [Heap.size_push, List.mem_singleton.mp hb]
      exact Nat.lt_succ_self _
    fresh := fun b hb => by rw [List.mem_singleton.mp hb]; exact fresh_size
    live := fun i h st b hb => by
      obtain ⟨o, ho, _⟩ := st
      rw [List.mem_singleton.mp hb, ho]; rfl
    foot := fun b hb => .inl hb
    item := fun i v hv => by
      obtain ⟨c, u, hc, rfl⟩ := hv
      exact ⟨.str ⟨#[c]⟩, by simp [chars, hc], .str _ _⟩
    own := fun i A' E' target v s' Q st q => by
      obtain ⟨o, ho, hc, _⟩ := st
      exact letOwned_ok ho hc hn q }
theorem iterOf_str {x : Str} {t : Tok} (kk : Sub g s.heap) : IterOf X k g s (.str x t) (chars x) := by
  cases ha : x.cps.all (· < 128)
  · exact iterOf_strK (n := "str_iterator") kk (by decide) (fun A E Q h => wpAny_pyIter_wide ha h) fun A' hA => Walks.strWide hA _ x t
  · exact iterOf_strK (n := "str_ascii_iterator") kk (by decide) (fun A E Q h => wpAny_pyIter_ascii ha h) fun A' hA => Walks.strAscii hA _ x t
theorem Its.str {e : Expr} {x : Str} (h : Ev X k sc σ e (.str x)) (hs : ∀ env x, foldedSetIterable e env x = pure x := by intro _ _; rfl) : Its X k sc σ e (chars x) :=
  ⟨h.mono fun g v r s kk => by cases r; exact iterOf_str kk, hs⟩
theorem chars_strOf {a : List Int} : chars (strOf a) = a.map fun c => Dat.str ⟨#[c.toNat]⟩ := by
  unfold chars strOf
  rw [List.toList_toArray, List.map_map]; rfl
/-- a datum of the state may be read -/
theorem dInts_length {ns : List Int} : (dInts ns).length = ns.length := by simp [dInts]
theorem len_ints {X : Cx} {k : Nat} {ns : List Int} (h : ns.length < 2 ^ 62) : OpN X k (fun vs => call (.builtin "len") vs) [dList ns] fun g v => Rep g v (.int (ns.length : Nat)) :=
  op_len (by show (dInts ns).length = _; simp [dInts]) (by omega)
theorem small : ∀ n : Nat, n ≤ 4096 → n ≤ sizeLine := fun n h => Nat.le_trans h (by decide)
theorem len_text {X : Cx} {k : Nat} {w : List Int} (h : w.length < 2 ^ 62) : OpN X k (fun vs => call (.builtin "len") vs) [dText w] fun g v => Rep g v (.int (w.length : Nat)) :=
  op_len (by show (strOf w).length = _; exact strOf_length) (by omega)
end
end Mine

namespace Mine
open PySem PySem.W PyProof.Rows PySem.Calls
set_option Elab.async false
set_option maxRecDepth 100000
set_option linter.unusedVariables false

end Mine

namespace Mine
open PySem PySem.W PyProof.Rows PySem.Calls
set_option Elab.async false
set_option maxRecDepth 100000
set_option linter.unusedVariables false

end Mine

namespace Mine
open PySem PySem.W PyProof.Rows PySem.Calls
set_option Elab.async false
set_option maxRecDepth 100000
set_option linter.unusedVariables false

end Mine

namespace Mine
open PySem PySem.W PyProof.Rows PySem.Calls
set_option Elab.async false
set_option maxRecDepth 100000
set_option linter.unusedVariables false

end Mine

namespace Mine
open PySem PySem.W PyProof.Rows PySem.Calls
set_option Elab.async false
set_option maxRecDepth 100000
set_option linter.unusedVariables false

end Mine

namespace Mine
open PySem PySem.W PyProof.Rows PySem.Calls
set_option Elab.async false
set_option maxRecDepth 100000
set_option linter.unusedVariables false

end Mine

namespace Mine
open PySem PySem.W PyProof.Rows PySem.Calls
set_option Elab.async false
set_option maxRecDepth 100000
set_option linter.unusedVariables false
end Mine

namespace Mine
open PySem PySem.W PyProof.Rows PySem.Calls
set_option Elab.async false
set_option maxRecDepth 100000
set_option linter.unusedVariables false


end Mine

namespace Mine
open PySem PySem.W PyProof.Rows PySem.Calls
set_option Elab.async false
set_option maxRecDepth 100000
set_option linter.unusedVariables false


end Mine

namespace Mine
open PySem PySem.W PyProof.Rows PySem.Calls
set_option Elab.async false
set_option maxRecDepth 100000
set_option linter.unusedVariables false

end Mine

namespace Mine
open PySem PySem.W PyProof.Rows PySem.Calls
set_option Elab.async false
set_option maxRecDepth 100000
set_option linter.unusedVariables false

end Mine

namespace Mine
open PySem PySem.W PyProof.Rows PySem.Calls
set_option Elab.async false
set_option maxRecDepth 100000
set_option linter.unusedVariables false
end Mine

namespace Mine
open PySem PySem.W PyProof.Rows PySem.Calls
set_option Elab.async false
set_option maxRecDepth 100000
set_option linter.unusedVariables false

end Mine

namespace Mine
open PySem PySem.W PyProof.Rows PySem.Calls
set_option Elab.async false
set_option maxRecDepth 100000
set_option linter.unusedVariables false

end Mine

namespace Mine
open PySem PySem.W PyProof.Rows PySem.Calls
set_option Elab.async false
set_option maxRecDepth 100000
set_option linter.unusedVariables false

end Mine

namespace Mine
open PySem PySem.W PyProof.Rows PySem.Calls
set_option Elab.async false
set_option maxRecDepth 100000
set_option linter.unusedVariables false
end Mine

namespace Mine
open PySem PySem.W PyProof.Rows PySem.Calls
set_option Elab.async false
set_option maxRecDepth 100000
set_option linter.unusedVariables false
end Mine

namespace Mine
open PySem PySem.W PyProof.Rows PySem.Calls PySem.Builtin
set_option Elab.async false
set_option maxRecDepth 100000
set_option linter.unusedVariables false

/-- rows of octets -/
def dBytes (ns : List Int) : Dat := .bytes (byteArr ns)
def okB (ns : List Int) : Prop := (∀ n ∈ ns, 0 ≤ n ∧ n < 256) ∧ ns.length ≤ sizeLine

theorem slot_bytes_lt : Slot "bytes" (cmpInfo .Lt).2.1 "bytes.__lt__" :=
  .of (owner := "bytes") (n := "__lt__") (by rw [typeLookup_type, builtinLookup_eq_fast]; kernel_rfl) (by decide +kernel) (by decide +kernel) (by decide +kernel)
    (by first | exact .inl (by decide +kernel) | exact .inr (by decide +kernel)) (by rw [isSubtype_type]; kernel_rfl)
theorem entry_bytes_lt : entryFor table "bytes.__lt__" = some Builtin.«bytes.__lt__» := entryFor_of_tree (by kernel_rfl)
theorem args_bytes_lt_2 (a b : Value) : argsOk "bytes.__lt__" ⟨[a, b], []⟩ := by
  unfold argsOk; rw [signature?_of (id := "bytes.__lt__") (n := ['_', '_', 't', 'l', '_', '_']) (o := ['s', 'e', 't', 'y', 'b']) (by kernel_rfl) FB.owner_bytes]; kernel_rfl
theorem slot_bytes_gt : Slot "bytes" (cmpInfo .Gt).2.1 "bytes.__gt__" :=
  .of (owner := "bytes") (n := "__gt__") (by rw [typeLookup_type, builtinLookup_eq_fast]; kernel_rfl) (by decide +kernel) (by decide +kernel) (by decide +kernel)
    (by first | exact .inl (by decide +kernel) | exact .inr (by decide +kernel)) (by rw [isSubtype_type]; kernel_rfl)
theorem entry_bytes_gt : entryFor table "bytes.__gt__" = some Builtin.«bytes.__gt__» := entryFor_of_tree (by kernel_rfl)
theorem args_bytes_gt_2 (a b : Value) : argsOk "bytes.__gt__" ⟨[a, b], []⟩ := by
  unfold argsOk; rw [signature?_of (id := "bytes.__gt__") (n := ['_', '_', 't', 'g', '_', '_']) (o := ['s', 'e', 't', 'y', 'b']) (by kernel_rfl) FB.owner_bytes]; kernel_rfl
theorem gives_bytes_lt (b c : Array UInt8) (t u : Tok) : Gives («bytes.__lt__» ⟨[.bytes b t, .bytes c u], []⟩) (.val (.bool (Bytes.order b.toList c.toList == .lt))) := by
  refine .of_wp fun M A E s Q hq => ?_
  show wpAny M A (isInstance (.bytes c u) (.type "bytes") >>= fun r => _) _ E s
  refine wpAny_bind (wpAny_isInstance (typeIs_bytes s c u) F.sub_bytes_bytes ?_)
  exact wpAny_pure ⟨_, rfl, hq⟩
theorem gives_bytes_gt (b c : Array UInt8) (t u : Tok) : Gives («bytes.__gt__» ⟨[.bytes b t, .bytes c u], []⟩) (.val (.bool (Bytes.order b.toList c.toList == .gt))) := by
  refine .of_wp fun M A E s Q hq => ?_
  show wpAny M A (isInstance (.bytes c u) (.type "bytes") >>= fun r => _) _ E s
  refine wpAny_bind (wpAny_isInstance (typeIs_bytes s c u) F.sub_bytes_bytes ?_)
  exact wpAny_pure ⟨_, rfl, hq⟩

theorem u8_lt {x y : Int} (hx : 0 ≤ x ∧ x < 256) (hy : 0 ≤ y ∧ y < 256) : (x.toNat.toUInt8 < y.toNat.toUInt8) ↔ x < y := by
  have h1 := byte_back hx.1 hx.2
  have h2 := byte_back hy.1 hy.2
  rw [UInt8.lt_iff_toNat_lt]; omega
theorem order_bytes : ∀ {a b : List Int}, (∀ n ∈ a, 0 ≤ n ∧ n < 256) → (∀ n ∈ b, 0 ≤ n ∧ n < 256) →
    (Bytes.order (a.map fun n => n.toNat.toUInt8) (b.map fun n => n.toNat.toUInt8) == .lt) = decide (a < b) ∧ (Bytes.order (a.map fun n => n.toNat.toUInt8) (b.map fun n => n.toNat.toUInt8) == .gt) = decide (b < a)
  | [], [], _, _ => by simp [Bytes.order]
  | [], y :: b, _, _ => by simp [Bytes.order]
  | x :: a, [], _, _ => by simp [Bytes.order]
  | x :: a, y :: b, ha, hb => by
    have hx := ha x (.head _)
    have hy := hb y (.head _)
    obtain ⟨i1, i2⟩ := order_bytes (a := a) (b := b) (fun n h => ha n (.tail _ h)) (fun n h => hb n (.tail _ h))
    simp only [List.map_cons, Bytes.order, gt_iff_lt, u8_lt hx hy, u8_lt hy hx, List.cons_lt_cons_iff]
    rcases Int.lt_trichotomy x y with h | h | h
    · have h1 : ¬ y < x := by omega
      have h2 : ¬ x = y := by omega
      have h3 : ¬ y = x := by omega
      simp [h, h1, h2, h3]
    · subst h
      have h1 : ¬ x < x := by omega
      simp only [h1, if_false, true_and, false_or]
      exact ⟨i1, i2⟩
    · have h1 : ¬ x < y := by omega
      have h2 : ¬ x = y := by omega
      have h3 : ¬ y = x := by omega
      simp [h, h1, h2, h3]

section
variable {X : Cx} {k : Nat} {sc : Scope} {σ : Sto} {s : Shared} {g : Heap}
theorem dBytes_inv {g : Heap} {v : Value} {ns : List Int} (r : Rep g v (dBytes ns)) : ∃ t, v = .bytes (byteArr ns) t := by
  unfold dBytes at r
  cases r with
  | bytes b t => exact ⟨t, rfl⟩

/-- the iterator of a row of octets, asked by enumerate -/
theorem nextOf_bytes_item {A : Around} {E : Value → Shared → Prop} {it : Addr} {b : Array UInt8} {t : Tok} {i : Nat} {c : UInt8} {Q : Value → Shared → Prop} (hit : KBw.IsBytesIter s.heap it b t i) (hx : b[i]? = some c)
    (hQ : ∀ h', KBw.IsBytesIter h' it b t (i + 1) → Heap.SameBut it s.heap h' → Q (.int (c.toNat : Int) s.toks) { s with heap := h', toks := s.toks + 1 }) : wpAny X.M A (Builtin.SmallTypes.nextOf (.ref it)) Q E s := by
  obtain ⟨o, ho, hc, hd⟩ := id hit
  unfold Builtin.SmallTypes.nextOf
  refine wpAny_bind (wpAny_callSpecial?_slot (name := PySem.Str.ofString "__next__") (KBw.iter_typeIs hit) KBw.slot_next
    (wpAny_call_entry KBw.slot_next (KBw.iter_typeIs hit) KBw.entry_next ?_ (KBw.args_next _)))
  show wpAny _ _ (field (.ref it) 0 >>= _) _ _ s
  refine wpAny_bind (wpAny_field ho hd (x := .bytes b t) rfl ?_)
  show wpAny _ _ (if (Value.bytes b t == Value.none) = true then _ else _) _ _ s
  rw [if_neg (show ¬ ((Value.bytes b t == Value.none) = true) from Bool.false_ne_true)]
  show wpAny _ _ (field (.ref it) 1 >>= _) _ _ s
  refine wpAny_bind (wpAny_field ho hd (x := .int i 0) rfl ?_)
  refine wpAny_bind (wpAny_of_eq (a := b) rfl ?_)
  simp only [Int.toNat_natCast, hx]
  refine wpAny_bind (wpAny_setField ho hd (by simp) (wpAny_bind (wpAny_mkInt (wpAny_pure ⟨_, rfl, wpAny_pure (hQ _ ?_ (Heap.SameBut.update ..))⟩))))
  exact ⟨_, Heap.get?_update_self _ ho (Obj.isFreed_of_fields (Obj.data_mapFields hd _)), (Obj.cls_mapFields ..).trans hc, by
    rw [Obj.data_mapFields hd]; simp [rawInt]⟩
theorem nextOf_bytes_end {A : Around} {E : Value → Shared → Prop} {it : Addr} {b : Array UInt8} {t : Tok} {i : Nat} {Q : Value → Shared → Prop} (hh : A.handled = none) (hit : KBw.IsBytesIter s.heap it b t i) (hx : b[i]? = none)
    (hE : ∀ h' e, Heap.ExtBut it s.heap h' → (∃ o, h'.get? e = some o ∧ o.cls = .type "StopIteration") → E (.ref e) { s with heap := h' }) : wpAny X.M A (Builtin.SmallTypes.nextOf (.ref it)) Q E s := by
  obtain ⟨o, ho, hc, hd⟩ := id hit
  unfold Builtin.SmallTypes.nextOf
  refine wpAny_bind (wpAny_callSpecial?_slot (name := PySem.Str.ofString "__next__") (KBw.iter_typeIs hit) KBw.slot_next
    (wpAny_call_entry KBw.slot_next (KBw.iter_typeIs hit) KBw.entry_next ?_ (KBw.args_next _)))
  show wpAny _ _ (field (.ref it) 0 >>= _) _ _ s
  refine wpAny_bind (wpAny_field ho hd (x := .bytes b t) rfl ?_)
  show wpAny _ _ (if (Value.bytes b t == Value.none) = true then _ else _) _ _ s
  rw [if_neg (show ¬ ((Value.bytes b t == Value.none) = true) from Bool.false_ne_true)]
  show wpAny _ _ (field (.ref it) 1 >>= _) _ _ s
  refine wpAny_bind (wpAny_field ho hd (x := .int i 0) rfl ?_)
  refine wpAny_bind (wpAny_of_eq (a := b) rfl ?_)
  simp only [Int.toNat_natCast, hx]
  refine wpAny_bind (wpAny_rule (wpAny_bind (wpAny_setField ho hd (by simp) ?_)))
  show wpAny _ _ (newExc (.type "StopIteration") [] >>= _) _ _ _
  refine wpAny_bind ?_
  simp only [newExc, newTuple]
  refine wpAny_bind (wpAny_newObj_type ?_ (by size_fits))
  refine wpAny_bind (m := firstArgMember _ _) (wpAny_of_eq (a := Value.none) (by first | rfl | (simp only [firstArgMember]; rfl)) ?_)
  refine wpAny_newObj_type ?_ (by size_fits)
  simp only [raiseNew]
  refine wpAny_bind (wpAny_handled ?_)
  first | rw [show A.in1.handled = none from hh] | rw [hh]
  refine wpAny_bind (wpAny_pure (wpAny_throw ?_))
  exact hE _ _ (((Heap.SameBut.update ..).extBut.push _).push _) ⟨_, Heap.get?_push_size _ rfl, rfl⟩
theorem drawsBytes {A : Around} (hh : A.handled = none) (it : Addr) (b : Array UInt8) (t : Tok) :
    Draws X.prog X.w A it [it] b.size (fun i v => ∃ c u, b[i]? = some c ∧ v = .int (c.toNat : Int) u) (fun i h => KBw.IsBytesIter h it b t i) where
  live := fun _ _ st => let ⟨o, ho, _⟩ := st; ⟨o, ho⟩
  frame := fun _ _ _ st hk => let ⟨o, ho, r⟩ := st; ⟨o, hk it (by simp) o ho, r⟩
  item := fun i s Q E hi st hQ => by
    refine nextOf_bytes_item (X := X) st (c := b[i]) (by simp [hi]) fun h' hit' hs' => ?_
    exact hQ _ h' (s.toks + 1) ⟨_, _, by simp [hi], rfl⟩ hit' hs'
  done := fun s Q E st hE => nextOf_bytes_end (X := X) hh st (by simp) hE

set_option maxHeartbeats 1000000 in
theorem meets_enumerate_newB (x : Array UInt8) (t : Tok) :
    Meets (Builtin.«enumerate.__new__» ⟨[.type "enumerate", .bytes x t], []⟩) (fun _ R s =>
      R (.ok (.ret (.ref (s.heap.push { cls := .type "bytes_iterator", data := .fields #[.bytes x t, .int 0 0] }).objs.size)))
        { s with heap := (s.heap.push { cls := .type "bytes_iterator", data := .fields #[.bytes x t, .int 0 0] }).push { cls := .type "enumerate", data := .fields #[.none, .bool false, .ref s.heap.objs.size, rawInt 0, .none, .none] } }) :=
  .of_wp fun prog w A R s h => by
    obtain ⟨hp, g, d, tk, os⟩ := s
    have hsub := sub_enumerate
    wp_walk
    refine wpAny_stack_any fun st => wpAny_pure ?_
    split
    · rename_i c _ _ _ _ _
      cases (c == Value.type "enumerate")
      · wp_walk using KBw.pyIter_bytes
        exact ⟨_, rfl, h⟩
      · wp_walk using KBw.pyIter_bytes
        exact ⟨_, rfl, h⟩
    · wp_walk using KBw.pyIter_bytes
      exact ⟨_, rfl, h⟩
theorem call_enumerate_bytes {A : Around} {E : Value → Shared → Prop} {x : Array UInt8} {t : Tok} {Q : Value → Shared → Prop}
    (h : ∀ h', IsEnum h' (s.heap.objs.size + 1) s.heap.objs.size 0 .none → KBw.IsBytesIter h' s.heap.objs.size x t 0 → h'.objs.size = s.heap.objs.size + 2 →
      (∀ b o, s.heap.get? b = some o → h'.get? b = some o) → Q (.ref (s.heap.objs.size + 1)) { s with heap := h' }) :
    wpAny X.M A (call (.type "enumerate") [.bytes x t]) Q E s := by
  refine callType_new F.called_enumerate (by decide) (F.typeCall_enumerate_1 _) (F.newCall_enumerate_1 _) (fun obj => F.args_object_init_2 obj _) F.entry_enumerate_new
    (meets_enumerate_newB x t) ?_
  have hz : (s.heap.push { cls := .type "bytes_iterator", data := .fields #[.bytes x t, .int 0 0] }).objs.size = s.heap.objs.size + 1 := Heap.size_push ..
  show _ ∧ _
  rw [hz]
  have he : IsEnum ((s.heap.push { cls := .type "bytes_iterator", data := .fields #[.bytes x t, .int 0 0] }).push
      { cls := .type "enumerate", data := .fields #[.none, .bool false, .ref s.heap.objs.size, rawInt 0, .none, .none] }) (s.heap.objs.size + 1) s.heap.objs.size 0 .none := by
    have := Heap.get?_push_size (s.heap.push { cls := .type "bytes_iterator", data := .fields #[.bytes x t, .int 0 0] })
      (o := { cls := .type "enumerate", data := .fields #[.none, .bool false, .ref s.heap.objs.size, rawInt 0, .none, .none] }) rfl
    rw [hz] at this; exact this
  refine ⟨⟨_, he, rfl⟩, h _ he ⟨_, Heap.get?_push_of_some _ (Heap.get?_push_size _ rfl), rfl, rfl⟩ (by rw [Heap.size_push, hz]) fun b o y => Heap.get?_push_of_some _ (Heap.get?_push_of_some _ y)⟩

theorem enumOf_bytes {b : Array UInt8} {t : Tok} (kk : Sub g s.heap) : EnumOf X k g s (.bytes b t) ((KBw.bInts b).map .int) := by
  intro A E rm
  have hn : ((KBw.bInts b).map Dat.int).length = b.size := by rw [List.length_map, KBw.ints_length]
  refine call_enumerate_bytes fun h' he hit hsz hk => ⟨⟨h', s.toks, rfl, hk⟩, s.heap.objs.size + 1, s.heap.objs.size, [s.heap.objs.size], (fun i v => ∃ c u, b[i]? = some c ∧ v = .int (c.toNat : Int) u), (fun i h => KBw.IsBytesIter h s.heap.objs.size b t i), rfl, ?_⟩
  have big : s.heap.get? (s.heap.objs.size + 1) = none := by
    cases z : s.heap.get? (s.heap.objs.size + 1) with
    | none => rfl
    | some o' => exact absurd (Heap.lt_size z) (Nat.not_lt.mpr (Nat.le_succ _))
  exact {
    draws := fun A' hA => by rw [hn]; exact drawsBytes hA _ b t
    start := hit
    enum := he
    hei := by intro q; exact absurd q (Nat.succ_ne_self _)
    hef := fun q => absurd (List.mem_singleton.mp q) (Nat.succ_ne_self _)
    hif := by simp
    fe := big
    fi := fresh_size
    foot := fun b hb => .inl (List.mem_singleton.mp hb)
    item := fun i v hv => by
      obtain ⟨c, u, hc, rfl⟩ := hv
      exact ⟨.int (c.toNat : Int), by rw [List.getElem?_map, KBw.ints_get hc]; rfl, .int _ _⟩ }

theorem bInts_make {ns : List Int} (h : ∀ n ∈ ns, 0 ≤ n ∧ n < 256) : KBw.bInts (byteArr ns) = ns := by
  unfold KBw.bInts byteArr
  rw [List.toList_toArray, List.map_map]
  conv => rhs; rw [← List.map_id ns]
  exact List.map_congr_left fun n hn => byte_back (h n hn).1 (h n hn).2

theorem picked_bytes {ns : List Int} {lo hi : Option Int} : KBy.picked (byteArr ns) lo hi = byteArr ((ns.drop (lo.elim 0 (clipAt ns.length))).take (hi.elim ns.length (clipAt ns.length) - lo.elim 0 (clipAt ns.length))) := by
  rw [KBc.picked_eq, byteArr_size]
  unfold byteArr
  rw [List.toList_toArray, List.map_take, List.map_drop]

/-- b[lo:hi] -/
theorem Ev.sliceB {value : Expr} {lower upper : Option Expr} {p pos : Pos} {ns : List Int} {lo hi : Option Int} (hv : Ev X k sc σ value (dBytes ns)) (hl : EvO X k sc σ lower lo) (hu : EvO X k sc σ upper hi) (hz : ns.length ≤ sizeLine)
    (ht : ∀ x t r, letTemporaryGo value (.bytes x t) r = pure () := by intro _ _ _; with_unfolding_all rfl) :
    Ev X k sc σ (.Subscript value (.Slice lower upper Option.none p) pos) (dBytes ((ns.drop (lo.elim 0 (clipAt ns.length))).take (hi.elim ns.length (clipAt ns.length) - lo.elim 0 (clipAt ns.length)))) := by
  intro A env g s E rm o bs q
  refine Subscript_ (wp_ev (hv A env g s E rm o bs q) fun u g1 s1 k1 x1 p1 => wpAny_Slice (wp_ev (hl A env g1 s1 E rm o (bs.trans x1.gg) (q.step x1)) fun vl g2 s2 k2 x2 p2 =>
    wp_ev (hu A env g2 s2 E rm o ((bs.trans x1.gg).trans x2.gg) ((q.step x1).step x2)) fun vu g3 s3 k3 x3 p3 => ?_))
  rw [evalPart_none]
  refine wpAny_pure ?_
  obtain ⟨t, rfl⟩ := dBytes_inv p1
  have x4 := step_push (o := { cls := .type "slice", data := .fields #[vl, vu, .none] }) (x1.trans (x2.trans x3))
  refine tail_of_ItemOn ⟨"bytes", _, FB.slot_bytes_getitem.lookup, typeIs_bytes _ _ _, getItem_meets (typeIs_bytes _ _ _) (by decide) FB.slot_bytes_getitem FB.entry_bytes_getitem (FB.args_bytes_getitem_2 _ _) (KBc.meets_slice2 _ t _ p2 p3)
    ⟨Heap.IsSliceOf.new _ _ _ _, Nat.le_trans (KBc.size_picked_le _ lo hi) (by rw [byteArr_size]; exact hz), fun t' tk => ?_⟩⟩ (by with_unfolding_all rfl) (ht _ _)
  rw [picked_bytes]
  exact .trans (kp_trans k1 (kp_trans k2 (kp_trans k3 (kp_mk (Sub.push .rfl _))))) x4 (Post.tok x4.gh (.bytes _ _))

theorem Ev.itemB {value slice : Expr} {pos : Pos} {ns : List Int} {i : Int} {c : Int} (hv : Ev X k sc σ value (dBytes ns)) (hi : Ev X k sc σ slice (.int i)) (h0 : 0 ≤ i) (hc : ns[i.toNat]? = some c) (hok : okB ns)
    (hs : ∀ x t i u, subscripted slice false (.bytes x t) (.int i u) = operate [.bytes x t, .int i u] (getItem (.bytes x t) (.int i u)) := by intro _ _ _ _; with_unfolding_all rfl)
    (ht : ∀ x t r, letTemporaryGo value (.bytes x t) r = pure () := by intro _ _ _; with_unfolding_all rfl) : Ev X k sc σ (.Subscript value slice pos) (.int c) := by
  intro A env g s E rm o bs q
  refine Subscript_ (wp_ev (hv A env g s E rm o bs q) fun u g1 s1 k1 x1 p1 => wp_ev (hi A env g1 s1 E rm o (bs.trans x1.gg) (q.step x1)) fun v g2 s2 k2 x2 p2 => ?_)
  obtain ⟨t, rfl⟩ := dBytes_inv p1
  cases p2
  rename_i ui
  have hlt : i.toNat < ns.length := (List.getElem?_eq_some_iff.mp hc).1
  have hsz : ns.length ≤ 16777216 := hok.2
  have e : (((ns.map fun (n : Int) => n.toNat.toUInt8).getD i.toNat 0).toNat : Int) = c := by
    rw [List.getD_eq_getElem?_getD, List.getElem?_map, hc]
    exact byte_back (hok.1 c (List.mem_of_getElem? hc)).1 (hok.1 c (List.mem_of_getElem? hc)).2
  have hl1 : (ns.map fun (n : Int) => n.toNat.toUInt8).length = ns.length := List.length_map _
  have hb : byteArr ns = (ns.map fun (n : Int) => n.toNat.toUInt8).toArray := rfl
  rw [hb]
  generalize (ns.map fun (n : Int) => n.toNat.toUInt8) = l at e hl1 ⊢
  have fin : Post g s (fun g v => Rep g v (.int c)) (.int (l.getD i.toNat 0).toNat s2.toks) { s2 with toks := s2.toks + 1 } := by
    rw [e]
    exact .trans (kp_trans k1 k2) (x1.trans x2) (Post.tok x2.gh (.int _ _))
  have go := getItem_bytes (prog := X.prog) (w := X.w) (A := A) (E := E) (s := s2) (l := l) (t := t) (i := i) (u := ui) (by rw [hl1]; omega) h0 (by rw [hl1]; omega) fin
  exact subscriptTail_ops (typeIs_bytes _ _ _) FB.slot_bytes_getitem.lookup go (hs _ _ _ _) (ht _ _)

theorem seqK_bytes (X : Cx) : SeqK X dBytes .int okB where
  lt := by
    intro A E Q s g u v a b h1 h2 hu kk r1 r2 h
    obtain ⟨t, rfl⟩ := dBytes_inv r1
    obtain ⟨t2, rfl⟩ := dBytes_inv r2
    refine richCompare_gives (op := .Lt) (typeIs_bytes s _ t) (typeIs_bytes s _ t2) slot_bytes_lt entry_bytes_lt (args_bytes_lt_2 _ _) (gives_bytes_lt _ _ _ _) (fun e => nomatch e) ?_
    have e := (order_bytes h1.1 h2.1).1
    show Q (.bool (Bytes.order (byteArr a).toList (byteArr b).toList == .lt)) s
    unfold byteArr
    rw [List.toList_toArray, List.toList_toArray, e]; exact h
  gt := by
    intro A E Q s g u v a b h1 h2 hu kk r1 r2 h
    obtain ⟨t, rfl⟩ := dBytes_inv r1
    obtain ⟨t2, rfl⟩ := dBytes_inv r2
    refine richCompare_gives (op := .Gt) (typeIs_bytes s _ t) (typeIs_bytes s _ t2) slot_bytes_gt entry_bytes_gt (args_bytes_gt_2 _ _) (gives_bytes_gt _ _ _ _) (fun e => nomatch e) ?_
    have e := (order_bytes h1.1 h2.1).2
    show Q (.bool (Bytes.order (byteArr a).toList (byteArr b).toList == .gt)) s
    unfold byteArr
    rw [List.toList_toArray, List.toList_toArray, e]; exact h
  enum := by
    intro k g s v a ho kk r
    obtain ⟨t, rfl⟩ := dBytes_inv r
    have e := enumOf_bytes (X := X) (k := k) (b := byteArr a) (t := t) kk
    rw [bInts_make ho.1] at e
    exact e
  item := by
    intro k sc σ z pz y p pos a i c ho hv hi hc hb
    exact Ev.itemB hv hi (by omega) (by simpa using hc) ho
  ne := fun k a b i j _ _ _ _ => op_ne
  slice := by
    intro k sc σ z pz y p ps pos a i ho hv hi
    refine (Ev.sliceB hv .none (.some hi) ho.2).to ?_
    show dBytes ((a.drop 0).take (clipAt a.length (i : Int) - 0)) = _
    rw [clipAt_nat, List.drop_zero, Nat.sub_zero]
    congr 1
    rcases Nat.le_total i a.length with h | h
    · rw [Nat.min_eq_left h]
    · rw [Nat.min_eq_right h, List.take_of_length_le (Nat.le_refl _), List.take_of_length_le h]
end
end Mine

namespace Mine
open PySem PySem.W PyProof.Rows PySem.Calls
set_option Elab.async false
set_option maxRecDepth 100000
set_option linter.unusedVariables false
open PySem.SeqAt PySem.MeetsSeq PySem.MeetsSeq2 PySem.MeetsSeq3 PySem.SeqRoads2
open PySem.AutoSeq1 (wpAny_loadPart')

/-- rows of whole numbers, as tuples -/
def dTup (ns : List Int) : Dat := .tuple (dInts ns)

set_option maxHeartbeats 2000000 in
theorem tuple_lt_meets (l b : Addr) (vs us : List Value) (ns ms : List Int) (hv : IntsAre vs ns) (hu : IntsAre us ms) (n n2 : Nat) (dd dd2 : Option Addr) (sl sl2 : Array (Option Value)) :
    Meets (Builtin.«tuple.__lt__» ⟨[.ref l, .ref b], []⟩)
      (fun A R s => s.heap.get? l = some { cls := .type "tuple", dict := dd, data := .seq vs.toArray n, slots := sl } ∧ s.heap.get? b = some { cls := .type "tuple", dict := dd2, data := .seq us.toArray n2, slots := sl2 } ∧
        R (.ok (.ret (.bool (decide (ns < ms))))) s) :=
  .of_wp fun prog w A R s h => by
    have l1 := hv.length
    have l2 := hu.length
    obtain ⟨hp, g, d, tk, os⟩ := s; obtain ⟨hl, hb, h⟩ := h
    have f2 := AutoSeq1.sub_tuple_tuple
    have hZ : (vs.zip us).length = min ns.length ms.length := by rw [List.length_zip, l1, l2]
    wp_walk using wpAny_loadPart' hl, wpAny_loadPart' hb, wpAny_forIn_list _ (fun rest b s' => b.1 = none ∧ s' = ⟨hp, g, d, tk, os⟩ ∧ ∃ i, i ≤ ns.length ∧ i ≤ ms.length ∧ rest = (vs.zip us).drop i ∧
      R (.ok (.ret (.bool (decide (ns.drop i < ms.drop i))))) ⟨hp, g, d, tk, os⟩) _
    case turn =>
      rintro ⟨y, x⟩ rest b s' ⟨hb', rfl, i, hi1, hi2, hz, hR⟩
      have hlt : i < (vs.zip us).length := by
        rcases Nat.lt_or_ge i (vs.zip us).length with h' | h'
        · exact h'
        · rw [List.drop_of_length_le h'] at hz; cases hz
      have hm : i < min ns.length ms.length := hZ ▸ hlt
      have h1 : i < ns.length := Nat.lt_of_lt_of_le hm (Nat.min_le_left _ _)
      have h2 : i < ms.length := Nat.lt_of_lt_of_le hm (Nat.min_le_right _ _)
      rw [List.drop_eq_getElem_cons hlt] at hz
      injection hz with hyx hrest
      obtain ⟨t, ht⟩ := ints_at hv h1
      obtain ⟨u, hu'⟩ := ints_at hu h2
      have e0 : (vs.zip us)[i]? = some (.int ns[i] t, .int ms[i] u) := by rw [List.getElem?_zip_eq_some]; exact ⟨ht, hu'⟩
      have e1 : (vs.zip us)[i] = (.int ns[i] t, .int ms[i] u) := by
        have := List.getElem?_eq_getElem hlt
        rw [this] at e0; exact Option.some.inj e0
      rw [e1] at hyx
      cases hyx
      refine wpAny_bind ((EqAt.int_int ns[i] t ms[i] u) prog w _ _ ?_)
      by_cases hq : ns[i] = ms[i]
      · have hq' : (ns[i] == ms[i]) = true := by simpa using hq
        rw [hq']
        have e : decide (ns.drop i < ms.drop i) = decide (ns.drop (i + 1) < ms.drop (i + 1)) := decide_eq_decide.mpr (by rw [lex_drop h1 h2, if_pos hq])
        rw [e] at hR
        wp_walk
        exact ⟨rfl, rfl, i + 1, h1, h2, hrest, hR⟩
      · have hq' : (ns[i] == ms[i]) = false := by simpa using hq
        rw [hq']
        have e : decide (ns.drop i < ms.drop i) = decide (ns[i] < ms[i]) := decide_eq_decide.mpr (by rw [lex_drop h1 h2, if_neg hq])
        rw [e] at hR
        refine wpAny_ite_split (fun _ => ?_) fun q => absurd rfl q
        refine wpAny_bind (wpAny_rule (wpAny_bind (P.lt_int ?_)))
        wp_walk
        exact ⟨_, rfl, hR⟩
    case fin =>
      rintro ⟨b1, b2⟩ s' ⟨hb', rfl, i, hi1, hi2, hz, hR⟩
      simp only at hb'
      subst hb'
      have hge : min ns.length ms.length ≤ i := by
        rcases Nat.lt_or_ge i (vs.zip us).length with h' | h'
        · rw [List.drop_eq_getElem_cons h'] at hz; cases hz
        · exact hZ ▸ h'
      have e : decide (ns.drop i < ms.drop i) = decide (ns.length < ms.length) := decide_eq_decide.mpr (by
        rcases Nat.le_total ns.length ms.length with h' | h'
        · rw [Nat.min_eq_left h'] at hge
          rw [lex_end1 hge hi2 hi1]
        · rw [Nat.min_eq_right h'] at hge
          exact ⟨fun q => absurd q (lex_end2 hge hi1), fun q => by omega⟩)
      rw [e] at hR
      wp_walk
      exact ⟨_, rfl, by simpa [Builtin.Tuple.tupleCompareSizes, l1, l2] using hR⟩
    case h =>
      exact ⟨rfl, rfl, 0, Nat.zero_le _, Nat.zero_le _, rfl, by simpa using h⟩

theorem rc_tuple_lt {prog : Program} {w : World} {A : Around} {E : Value → Shared → Prop} {s : Shared} {Q : Value → Shared → Prop} {l b : Addr} {vs us : List Value} {ns ms : List Int} (hl : IsTup s.heap l vs.toArray) (hb : IsTup s.heap b us.toArray) (hv : IntsAre vs ns) (hw : IntsAre us ms)
    (hu : A.units < cLine) (h : Q (.bool (decide (ns < ms))) s) : wpAny (model prog w) A (richCompare .Lt (.ref l) (.ref b)) Q E s := by
  obtain ⟨⟨cls, dd, data, sl⟩, ho, hc, n, hd⟩ := id hl
  obtain ⟨⟨cls2, dd2, data2, sl2⟩, ho2, hc2, n2, hd2⟩ := id hb
  simp only at hc hd hc2 hd2
  subst hc hd hc2 hd2
  exact richCompare_meets_room (op := .Lt) ⟨_, ho, rfl⟩ ⟨_, ho2, rfl⟩ F.slot_tuple_lt F.entry_tuple_lt (F.args_tuple_lt_2 _ _) (tuple_lt_meets l b vs us ns ms hv hw n n2 dd dd2 sl sl2)
    ⟨ho, ho2, show Value.bool (decide (ns < ms)) ≠ Value.notImplemented ∧ Q (.bool (decide (ns < ms))) s from ⟨(fun x => nomatch x), h⟩⟩ hu

set_option maxHeartbeats 2000000 in
theorem tuple_gt_meets (l b : Addr) (vs us : List Value) (ns ms : List Int) (hv : IntsAre vs ns) (hu : IntsAre us ms) (n n2 : Nat) (dd dd2 : Option Addr) (sl sl2 : Array (Option Value)) :
    Meets (Builtin.«tuple.__gt__» ⟨[.ref l, .ref b], []⟩)
      (fun A R s => s.heap.get? l = some { cls := .type "tuple", dict := dd, data := .seq vs.toArray n, slots := sl } ∧ s.heap.get? b = some { cls := .type "tuple", dict := dd2, data := .seq us.toArray n2, slots := sl2 } ∧
        R (.ok (.ret (.bool (decide (ms < ns))))) s) :=
  .of_wp fun prog w A R s h => by
    have l1 := hv.length
    have l2 := hu.length
    obtain ⟨hp, g, d, tk, os⟩ := s; obtain ⟨hl, hb, h⟩ := h
    have f2 := AutoSeq1.sub_tuple_tuple
    have hZ : (vs.zip us).length = min ns.length ms.length := by rw [List.length_zip, l1, l2]
    wp_walk using wpAny_loadPart' hl, wpAny_loadPart' hb, wpAny_forIn_list _ (fun rest b s' => b.1 = none ∧ s' = ⟨hp, g, d, tk, os⟩ ∧ ∃ i, i ≤ ns.length ∧ i ≤ ms.length ∧ rest = (vs.zip us).drop i ∧
      R (.ok (.ret (.bool (decide (ms.drop i < ns.drop i))))) ⟨hp, g, d, tk, os⟩) _
    case turn =>
      rintro ⟨y, x⟩ rest b s' ⟨hb', rfl, i, hi1, hi2, hz, hR⟩
      have hlt : i < (vs.zip us).length := by
        rcases Nat.lt_or_ge i (vs.zip us).length with h' | h'
        · exact h'
        · rw [List.drop_of_length_le h'] at hz; cases hz
      have hm : i < min ns.length ms.length := hZ ▸ hlt
      have h1 : i < ns.length := Nat.lt_of_lt_of_le hm (Nat.min_le_left _ _)
      have h2 : i < ms.length := Nat.lt_of_lt_of_le hm (Nat.min_le_right _ _)
      rw [List.drop_eq_getElem_cons hlt] at hz
      injection hz with hyx hrest
      obtain ⟨t, ht⟩ := ints_at hv h1
      obtain ⟨u, hu'⟩ := ints_at hu h2
      have e0 : (vs.zip us)[i]? = some (.int ns[i] t, .int ms[i] u) := by rw [List.getElem?_zip_eq_some]; exact ⟨ht, hu'⟩
      have e1 : (vs.zip us)[i] = (.int ns[i] t, .int ms[i] u) := by
        have := List.getElem?_eq_getElem hlt
        rw [this] at e0; exact Option.some.inj e0
      rw [e1] at hyx
      cases hyx
      refine wpAny_bind ((EqAt.int_int ns[i] t ms[i] u) prog w _ _ ?_)
      by_cases hq : ns[i] = ms[i]
      · have hq' : (ns[i] == ms[i]) = true := by simpa using hq
        rw [hq']
        have e : decide (ms.drop i < ns.drop i) = decide (ms.drop (i + 1) < ns.drop (i + 1)) := decide_eq_decide.mpr (by rw [lex_drop h2 h1, if_pos hq.symm])
        rw [e] at hR
        wp_walk
        exact ⟨rfl, rfl, i + 1, h1, h2, hrest, hR⟩
      · have hq' : (ns[i] == ms[i]) = false := by simpa using hq
        rw [hq']
        have e : decide (ms.drop i < ns.drop i) = decide (ns[i] > ms[i]) := decide_eq_decide.mpr (by rw [lex_drop h2 h1, if_neg (fun z => hq z.symm)])
        rw [e] at hR
        refine wpAny_ite_split (fun _ => ?_) fun q => absurd rfl q
        refine wpAny_bind (wpAny_rule (wpAny_bind (P.gt_int ?_)))
        wp_walk
        exact ⟨_, rfl, hR⟩
    case fin =>
      rintro ⟨b1, b2⟩ s' ⟨hb', rfl, i, hi1, hi2, hz, hR⟩
      simp only at hb'
      subst hb'
      have hge : min ns.length ms.length ≤ i := by
        rcases Nat.lt_or_ge i (vs.zip us).length with h' | h'
        · rw [List.drop_eq_getElem_cons h'] at hz; cases hz
        · exact hZ ▸ h'
      have e : decide (ms.drop i < ns.drop i) = decide (ns.length > ms.length) := decide_eq_decide.mpr (by
        rcases Nat.le_total ns.length ms.length with h' | h'
        · rw [Nat.min_eq_left h'] at hge
          exact ⟨fun q => absurd q (lex_end2 hge hi2), fun q => by omega⟩
        · rw [Nat.min_eq_right h'] at hge
          rw [lex_end1 hge hi1 hi2])
      rw [e] at hR
      wp_walk
      exact ⟨_, rfl, by simpa [Builtin.Tuple.tupleCompareSizes, l1, l2] using hR⟩
    case h =>
      exact ⟨rfl, rfl, 0, Nat.zero_le _, Nat.zero_le _, rfl, by simpa using h⟩

theorem rc_tuple_gt {prog : Program} {w : World} {A : Around} {E : Value → Shared → Prop} {s : Shared} {Q : Value → Shared → Prop} {l b : Addr} {vs us : List Value} {ns ms : List Int} (hl : IsTup s.heap l vs.toArray) (hb : IsTup s.heap b us.toArray) (hv : IntsAre vs ns) (hw : IntsAre us ms)
    (hu : A.units < cLine) (h : Q (.bool (decide (ms < ns))) s) : wpAny (model prog w) A (richCompare .Gt (.ref l) (.ref b)) Q E s := by
  obtain ⟨⟨cls, dd, data, sl⟩, ho, hc, n, hd⟩ := id hl
  obtain ⟨⟨cls2, dd2, data2, sl2⟩, ho2, hc2, n2, hd2⟩ := id hb
  simp only at hc hd hc2 hd2
  subst hc hd hc2 hd2
  exact richCompare_meets_room (op := .Gt) ⟨_, ho, rfl⟩ ⟨_, ho2, rfl⟩ F.slot_tuple_gt F.entry_tuple_gt (F.args_tuple_gt_2 _ _) (tuple_gt_meets l b vs us ns ms hv hw n n2 dd dd2 sl sl2)
    ⟨ho, ho2, show Value.bool (decide (ms < ns)) ≠ Value.notImplemented ∧ Q (.bool (decide (ms < ns))) s from ⟨(fun x => nomatch x), h⟩⟩ hu

section
variable {X : Cx} {k : Nat} {sc : Scope} {σ : Sto} {s : Shared} {g : Heap}
theorem nextOf_tuple_item {A : Around} {E : Value → Shared → Prop} {it t : Addr} {i : Nat} {items : Array Value} {x : Value} {Q : Value → Shared → Prop} (hit : s.heap.IsTupleIter it t i) (ht : IsTup s.heap t items) (hx : items[i]? = some x)
    (hQ : ∀ h', h'.IsTupleIter it t (i + 1) → Heap.SameBut it s.heap h' → Q x { s with heap := h' }) : wpAny X.M A (Builtin.SmallTypes.nextOf (.ref it)) Q E s := by
  obtain ⟨o, ho, hc, hd⟩ := id hit
  obtain ⟨ol, hol, _, nl, hdl⟩ := ht
  unfold Builtin.SmallTypes.nextOf
  refine wpAny_bind (wpAny_callSpecial?_slot (name := Str.ofString "__next__") hit.typeIs F.slot_tuple_iterator_next
    (wpAny_call_entry F.slot_tuple_iterator_next hit.typeIs F.entry_tuple_iterator_next ?_ (F.args_tuple_iterator_next_1 _)))
  show wpAny _ _ (field (.ref it) 0 >>= _) _ _ s
  refine wpAny_bind (wpAny_field ho hd (x := .ref t) rfl ?_)
  show wpAny _ _ (if (Value.ref t == Value.none) = true then _ else _) _ _ s
  rw [if_neg (show ¬ ((Value.ref t == Value.none) = true) from Bool.false_ne_true)]
  show wpAny _ _ (field (.ref it) 1 >>= _) _ _ s
  refine wpAny_bind (wpAny_field ho hd (x := .int i 0) rfl ?_)
  show wpAny _ _ (seqItems? (.ref t) >>= _) _ _ s
  refine wpAny_bind (wpAny_seqItems hol hdl ?_)
  simp only [Int.toNat_natCast, hx]
  refine wpAny_bind (wpAny_setField ho hd (by simp) (wpAny_pure ⟨x, rfl, wpAny_pure (hQ _ ?_ (Heap.SameBut.update ..))⟩))
  exact ⟨_, Heap.get?_update_self _ ho (Obj.isFreed_of_fields (Obj.data_mapFields hd _)), (Obj.cls_mapFields ..).trans hc, by
    rw [Obj.data_mapFields hd]; simp [rawInt]⟩
theorem nextOf_tuple_end {A : Around} {E : Value → Shared → Prop} {it t : Addr} {i : Nat} {items : Array Value} {Q : Value → Shared → Prop} (hh : A.handled = none) (hit : s.heap.IsTupleIter it t i) (ht : IsTup s.heap t items) (hx : items[i]? = none)
    (hE : ∀ h' e, Heap.ExtBut it s.heap h' → (∃ o, h'.get? e = some o ∧ o.cls = .type "StopIteration") → E (.ref e) { s with heap := h' }) : wpAny X.M A (Builtin.SmallTypes.nextOf (.ref it)) Q E s := by
  obtain ⟨o, ho, hc, hd⟩ := id hit
  obtain ⟨ol, hol, _, nl, hdl⟩ := ht
  unfold Builtin.SmallTypes.nextOf
  refine wpAny_bind (wpAny_callSpecial?_slot (name := Str.ofString "__next__") hit.typeIs F.slot_tuple_iterator_next
    (wpAny_call_entry F.slot_tuple_iterator_next hit.typeIs F.entry_tuple_iterator_next ?_ (F.args_tuple_iterator_next_1 _)))
  show wpAny _ _ (field (.ref it) 0 >>= _) _ _ s
  refine wpAny_bind (wpAny_field ho hd (x := .ref t) rfl ?_)
  show wpAny _ _ (if (Value.ref t == Value.none) = true then _ else _) _ _ s
  rw [if_neg (show ¬ ((Value.ref t == Value.none) = true) from Bool.false_ne_true)]
  show wpAny _ _ (field (.ref it) 1 >>= _) _ _ s
  refine wpAny_bind (wpAny_field ho hd (x := .int i 0) rfl ?_)
  show wpAny _ _ (seqItems? (.ref t) >>= _) _ _ s
  refine wpAny_bind (wpAny_seqItems hol hdl ?_)
  simp only [Int.toNat_natCast, hx]
  refine wpAny_bind (wpAny_rule (wpAny_bind (wpAny_setField ho hd (by simp) ?_)))
  show wpAny _ _ (newExc (.type "StopIteration") [] >>= _) _ _ _
  refine wpAny_bind ?_
  simp only [newExc, newTuple]
  refine wpAny_bind (wpAny_newObj_type ?_ (by size_fits))
  refine wpAny_bind (m := firstArgMember _ _) (wpAny_of_eq (a := Value.none) (by first | rfl | (simp only [firstArgMember]; rfl)) ?_)
  refine wpAny_newObj_type ?_ (by size_fits)
  simp only [raiseNew]
  refine wpAny_bind (wpAny_handled ?_)
  first | rw [show A.in1.handled = none from hh] | rw [hh]
  refine wpAny_bind (wpAny_pure (wpAny_throw ?_))
  exact hE _ _ (((Heap.SameBut.update ..).extBut.push _).push _) ⟨_, Heap.get?_push_size _ rfl, rfl⟩
theorem drawsTuple {A : Around} (hh : A.handled = none) (it l : Addr) (hne : l ≠ it) (items : Array Value) :
    Draws X.prog X.w A it [it, l] items.size (fun i v => items[i]? = some v) (fun i h => h.IsTupleIter it l i ∧ IsTup h l items) where
  live := fun _ _ st => let ⟨o, ho, _⟩ := st.1; ⟨o, ho⟩
  frame := fun _ _ _ st hk => ⟨let ⟨o, ho, r⟩ := st.1; ⟨o, hk it (by simp) o ho, r⟩, let ⟨o, ho, r⟩ := st.2; ⟨o, hk l (by simp) o ho, r⟩⟩
  item := fun i s Q E hi st hQ => by
    refine nextOf_tuple_item (X := X) st.1 st.2 (x := items[i]) (by simp [hi]) fun h' hit' hs' => ?_
    exact hQ _ h' s.toks (by simp [hi]) ⟨hit', let ⟨o, ho, r⟩ := st.2; ⟨o, (hs'.2 l hne).trans ho, r⟩⟩ hs'
  done := fun s Q E st hE => nextOf_tuple_end (X := X) hh st.1 st.2 (by simp) hE

theorem meets_enumerate_newT (l : Addr) (items : Array Value) (n : Nat) (dct : Option Addr) (sl : Array (Option Value)) :
    Meets (Builtin.«enumerate.__new__» ⟨[.type "enumerate", .ref l], []⟩) (fun _ R s => s.heap.get? l = some { cls := .type "tuple", dict := dct, data := .seq items n, slots := sl } ∧
      R (.ok (.ret (.ref (s.heap.push { cls := .type "tuple_iterator", data := .fields #[.ref l, .int 0 0] }).objs.size)))
        { s with heap := (s.heap.push { cls := .type "tuple_iterator", data := .fields #[.ref l, .int 0 0] }).push { cls := .type "enumerate", data := .fields #[.none, .bool false, .ref s.heap.objs.size, rawInt 0, .none, .none] } }) :=
  .of_wp fun prog w A R s h => by
    obtain ⟨hp, g, d, tk, os⟩ := s; obtain ⟨hl, h⟩ := h
    have hsub := sub_enumerate
    have hL : Heap.IsTuple (Shared.heap ⟨hp, g, d, tk, os⟩) l items := ⟨_, hl, rfl, n, rfl⟩
    wp_walk using wpAny_loadPart' hl
    refine wpAny_stack_any fun st => wpAny_pure ?_
    split
    · rename_i c _ _ _ _ _
      cases (c == Value.type "enumerate")
      · wp_walk using wpAny_loadPart' hl, wpAny_pyIter_tuple hL
        exact ⟨_, rfl, h⟩
      · wp_walk using wpAny_loadPart' hl, wpAny_pyIter_tuple hL
        exact ⟨_, rfl, h⟩
    · wp_walk using wpAny_loadPart' hl, wpAny_pyIter_tuple hL
      exact ⟨_, rfl, h⟩
theorem call_enumerate_tuple {A : Around} {E : Value → Shared → Prop} {l : Addr} {items : Array Value} {Q : Value → Shared → Prop} (hL : IsTup s.heap l items)
    (h : ∀ h', IsEnum h' (s.heap.objs.size + 1) s.heap.objs.size 0 .none → h'.IsTupleIter s.heap.objs.size l 0 → h'.objs.size = s.heap.objs.size + 2 →
      (∀ b o, s.heap.get? b = some o → h'.get? b = some o) → Q (.ref (s.heap.objs.size + 1)) { s with heap := h' }) :
    wpAny X.M A (call (.type "enumerate") [.ref l]) Q E s := by
  obtain ⟨⟨c, dct, dt, sl⟩, hl, hc, n, hd⟩ := hL
  replace hc : c = .type "tuple" := hc
  replace hd : dt = .seq items n := hd
  subst hc hd
  refine callType_new F.called_enumerate (by decide) (F.typeCall_enumerate_1 _) (F.newCall_enumerate_1 _) (fun obj => F.args_object_init_2 obj _) F.entry_enumerate_new
    (meets_enumerate_newT l items n dct sl) ⟨hl, ?_⟩
  have hz : (s.heap.push { cls := .type "tuple_iterator", data := .fields #[.ref l, .int 0 0] }).objs.size = s.heap.objs.size + 1 := Heap.size_push ..
  show _ ∧ _
  rw [hz]
  have he : IsEnum ((s.heap.push { cls := .type "tuple_iterator", data := .fields #[.ref l, .int 0 0] }).push
      { cls := .type "enumerate", data := .fields #[.none, .bool false, .ref s.heap.objs.size, rawInt 0, .none, .none] }) (s.heap.objs.size + 1) s.heap.objs.size 0 .none := by
    have := Heap.get?_push_size (s.heap.push { cls := .type "tuple_iterator", data := .fields #[.ref l, .int 0 0] })
      (o := { cls := .type "enumerate", data := .fields #[.none, .bool false, .ref s.heap.objs.size, rawInt 0, .none, .none] }) rfl
    rw [hz] at this; exact this
  refine ⟨⟨_, he, rfl⟩, h _ he ⟨_, Heap.get?_push_of_some _ (Heap.get?_push_size _ rfl), rfl, rfl⟩ (by rw [Heap.size_push, hz]) fun b o x => Heap.get?_push_of_some _ (Heap.get?_push_of_some _ x)⟩
theorem enumOf_tuple {a : Addr} {vs : List Value} {ds : List Dat} (kk : Sub g s.heap) (il : PlainTup g a vs.toArray) (r : RepAll g vs ds) : EnumOf X k g s (.ref a) ds := by
  intro A E rm
  have il' := isTup_sub kk il
  have hlt : a < s.heap.objs.size := let ⟨_, e, _⟩ := il'; Heap.lt_size e
  have hn : vs.toArray.size = ds.length := by rw [List.size_toArray, r.length]
  refine call_enumerate_tuple il' fun h' he hit hsz hk => ⟨⟨h', s.toks, rfl, hk⟩, s.heap.objs.size + 1, s.heap.objs.size, [s.heap.objs.size, a], (fun i v => vs.toArray[i]? = some v), (fun i h => h.IsTupleIter s.heap.objs.size a i ∧ IsTup h a vs.toArray), rfl, ?_⟩
  have big : s.heap.get? (s.heap.objs.size + 1) = none := by
    cases z : s.heap.get? (s.heap.objs.size + 1) with
    | none => rfl
    | some o' => exact absurd (Heap.lt_size z) (Nat.not_lt.mpr (Nat.le_succ _))
  exact {
    draws := fun A' hA => hn ▸ drawsTuple hA s.heap.objs.size a (Nat.ne_of_lt hlt) vs.toArray
    start := ⟨hit, let ⟨o, ho, rr⟩ := il'; ⟨o, hk _ _ ho, rr⟩⟩
    enum := he
    hei := by intro q; exact absurd q (Nat.succ_ne_self _)
    hef := fun q => by
      rcases List.mem_cons.mp q with q | q
      · exact absurd q (Nat.succ_ne_self _)
      · have := List.mem_singleton.mp q; rw [← this] at hlt; exact absurd hlt (Nat.not_lt.mpr (Nat.le_succ _))
    hif := by simp
    fe := big
    fi := fresh_size
    foot := fun b hb => by
      rcases List.mem_cons.mp hb with q | q
      · exact .inl q
      · rw [List.mem_singleton.mp q]
        obtain ⟨n, ho⟩ := il
        exact .inr (by rw [ho]; rfl)
    item := fun i v hv => r.get' (by simpa using hv) }

theorem part_int {A : Around} {E : Value → Shared → Prop} {v : Value} {i : Option Int} {Q : Option Int → Shared → Prop} (p : IsPart v i) (h : Q i s) : wpAny X.M A (Builtin.Slice.slicePartIndex v) Q E s := by
  cases p with
  | none => exact slicePart_none h
  | int i t => exact slicePart_int h
/-- t[:j] -/
theorem upTo_applied {A : Around} {E : Value → Shared → Prop} {sl : Addr} {vl vu : Value} {j n : Nat} {Q : Int × Int × Nat → Shared → Prop} (hs : s.heap.IsSliceOf sl vl vu .none) (pl : IsPart vl none) (pu : IsPart vu (some (j : Int))) (h : Q ((0 : Int), 1, min j n) s) :
    wpAny X.M A (Builtin.Slice.sliceApplied (.ref sl) (pure (n : Int))) Q E s := by
  obtain ⟨os, hos, hcs, hds⟩ := id hs
  unfold Builtin.Slice.sliceApplied Builtin.Slice.sliceFields
  refine wpAny_bind (wpAny_bind (wpAny_field hos hds (x := vl) rfl (wpAny_bind (wpAny_field hos hds (x := vu) rfl (wpAny_bind (wpAny_field hos hds (x := .none) rfl (wpAny_pure ?_)))))))
  refine wpAny_bind (slicePart_none ?_)
  show wpAny _ _ (if ((1 : Int) == 0) = true then _ else _) _ _ s
  rw [if_neg (by decide)]
  refine wpAny_bind (part_int pl (wpAny_bind (part_int pu (wpAny_bind (wpAny_pure ?_)))))
  show wpAny _ _ (match Builtin.Slice.sliceAdjust none (some (j : Int)) 1 (n : Int) with | (lo, hi) => pure (lo, (1 : Int), Builtin.Slice.slicePlaces lo hi 1)) _ _ s
  have e : Builtin.Slice.sliceAdjust none (some (j : Int)) 1 (n : Int) = ((0 : Int), ((min j n : Nat) : Int)) := by
    unfold Builtin.Slice.sliceAdjust
    have h1 : ¬ ((1 : Int) < 0) := by omega
    have h2 : ¬ ((j : Int) < 0) := by omega
    simp only [if_neg h1, if_neg h2]
    congr 1
    omega
  rw [e]
  have e2 : Builtin.Slice.slicePlaces (0 : Int) ((min j n : Nat) : Int) 1 = min j n := by
    unfold Builtin.Slice.slicePlaces
    simp only [gt_iff_lt, Int.zero_lt_one, if_true]
    split <;> omega
  show wpAny _ _ (pure ((0 : Int), (1 : Int), Builtin.Slice.slicePlaces (0 : Int) ((min j n : Nat) : Int) 1)) _ _ s
  rw [e2]
  exact wpAny_pure h
theorem upTo_pick (xs : Array Value) (m : Nat) : ((List.range m).filterMap fun (k : Nat) => xs[((0 : Int) + (k : Int) * 1).toNat]?) = xs.toList.take m := by
  have e : (fun (k : Nat) => xs[((0 : Int) + (k : Int) * 1).toNat]?) = fun k => xs[0 + k]? := by
    funext k
    have : ((0 : Int) + (k : Int) * 1).toNat = 0 + k := by omega
    rw [this]
  rw [e]
  have := pick_run xs 0 m
  rw [List.filterMap_map] at this
  have e2 : ((fun x => xs[x]?) ∘ fun x => 0 + x) = fun k => xs[0 + k]? := rfl
  rw [e2] at this
  rw [this, List.drop_zero]
theorem getItem_tuple_upTo {A : Around} {E : Value → Shared → Prop} {t sl : Addr} {items : Array Value} {vl vu : Value} {j : Nat} {Q : Value → Shared → Prop} (ht : IsTup s.heap t items) (hs : s.heap.IsSliceOf sl vl vu .none) (pl : IsPart vl none) (pu : IsPart vu (some (j : Int)))
    (hw : items.size ≤ j → Q (.ref t) s) (h : j < items.size → Q (.ref s.heap.objs.size) { s with heap := s.heap.push { cls := .type "tuple", data := .seq (items.toList.take j).toArray } })
    (hsz : items.size ≤ sizeLine) : wpAny X.M A (getItem (.ref t) (.ref sl)) Q E s := by
  have htake : sizeOk (.seq (items.toList.take j).toArray) := by
    show (items.toList.take j).toArray.size ≤ sizeLine
    rw [List.size_toArray, List.length_take, Array.length_toList]
    omega
  obtain ⟨os, hos, hcs, hds⟩ := id hs
  have hTs : s.TypeIs (.ref sl) "slice" := ⟨os, hos, hcs⟩
  unfold getItem
  try with_reducible refine wpAny_holding ?_
  first | refine wpAny_bind (wpAny_pure ?_) | skip
  refine wpAny_bind (wpAny_sequenceKey ht.typeIs (by decide) ?_)
  refine wpAny_bind (wpAny_callSpecial?_slot (name := Str.ofString "__getitem__") ht.typeIs slot_tuple_getitem
    (wpAny_call_entry slot_tuple_getitem ht.typeIs entry_tuple_getitem ?_ (args_tuple_getitem _ _)))
  show wpAny _ _ (Builtin.Tuple.tupleItemsOf (.ref t) >>= _) _ _ s
  refine wpAny_bind (tupleItemsOf_ ht ?_)
  refine wpAny_bind (wpAny_typeOf hTs ?_)
  rw [if_pos (by decide)]
  refine wpAny_bind (upTo_applied (X := X) (n := items.size) hs pl pu ?_)
  rcases Nat.lt_or_ge j items.size with hj | hj
  · have hmin : min j items.size = j := Nat.min_eq_left (Nat.le_of_lt hj)
    rw [hmin]
    have hno : ¬ (((0 : Int) == 0 && (1 : Int) == 1 && j == items.size) = true) := by
      have : (j == items.size) = false := by rw [beq_eq_false_iff_ne]; omega
      rw [this]; simp
    show wpAny _ _ (if ((0 : Int) == 0 && (1 : Int) == 1 && j == items.size) = true then _ else _) _ _ s
    rw [if_neg hno, upTo_pick items j]
    first
      | exact wpAny_bind (m := Builtin.Tuple.tupleExact _) (wpAny_newObj_type (wpAny_pure ⟨_, rfl, wpAny_pure (h hj)⟩) htake)
      | exact wpAny_bind (m := Builtin.Tuple.tupleExact _) (wpAny_newObj_type (wpAny_bind (wpAny_pure (wpAny_pure ⟨_, rfl, wpAny_pure (h hj)⟩))) htake)
      | exact wpAny_bind (wpAny_bind (m := Builtin.Tuple.tupleExact _) (wpAny_newObj_type (wpAny_pure (wpAny_pure ⟨_, rfl, wpAny_pure (h hj)⟩)) htake))
      | exact wpAny_bind (wpAny_bind (m := Builtin.Tuple.tupleExact _) (wpAny_newObj_type (wpAny_pure ⟨_, rfl, wpAny_pure (h hj)⟩) htake))
  · have hmin : min j items.size = items.size := Nat.min_eq_right hj
    rw [hmin]
    show wpAny _ _ (if ((0 : Int) == 0 && (1 : Int) == 1 && items.size == items.size) = true then _ else _) _ _ s
    rw [if_pos (by simp)]
    refine wpAny_bind ?_
    unfold Builtin.Tuple.tupleIsExact
    refine wpAny_bind (wpAny_typeOf ht.typeIs (wpAny_pure ?_))
    rw [if_pos (by simp)]
    first
      | exact wpAny_bind (wpAny_rule (wpAny_pure ⟨_, rfl, wpAny_pure (hw hj)⟩))
      | exact wpAny_bind (wpAny_rule (wpAny_bind (wpAny_pure (wpAny_pure ⟨_, rfl, wpAny_pure (hw hj)⟩))))

/-- t[:j] -/
theorem Ev.sliceT {value : Expr} {lower upper : Option Expr} {p pos : Pos} {ds : List Dat} {j : Nat} (hv : Ev X k sc σ value (.tuple ds)) (hl : EvO X k sc σ lower none) (hu : EvO X k sc σ upper (some (j : Int))) (hz : ds.length ≤ sizeLine) :
    Ev X k sc σ (.Subscript value (.Slice lower upper Option.none p) pos) (.tuple (ds.take j)) := by
  intro A env g s E rm o bs q
  refine Subscript_ (wp_ev (hv A env g s E rm o bs q) fun u g1 s1 k1 x1 p1 => wpAny_Slice (wp_ev (hl A env g1 s1 E rm o (bs.trans x1.gg) (q.step x1)) fun vl g2 s2 k2 x2 p2 =>
    wp_ev (hu A env g2 s2 E rm o ((bs.trans x1.gg).trans x2.gg) ((q.step x1).step x2)) fun vu g3 s3 k3 x3 p3 => ?_))
  rw [evalPart_none]
  refine wpAny_pure ?_
  cases p1 with
  | tuple il r =>
    rename_i a vs
    have il3 : IsTup s3.heap a vs.toArray := isTup_sub (x1.gh.trans (x2.hh.trans x3.hh)) il
    have il4 : IsTup (s3.heap.push { cls := .type "slice", data := .fields #[vl, vu, .none] }) a vs.toArray := il3.keeps fun _ _ e => Heap.get?_push_of_some _ e
    have x4 := step_push (o := { cls := .type "slice", data := .fields #[vl, vu, .none] }) (x1.trans (x2.trans x3))
    have sub4 := (x2.gg.trans x3.gg).trans (freeze_old x3.gh (Sub.push .rfl { cls := .type "slice", data := .fields #[vl, vu, .none] }))
    have k4 : Keeps s { s3 with heap := s3.heap.push { cls := .type "slice", data := .fields #[vl, vu, .none] } } := kp_trans k1 (kp_trans k2 (kp_trans k3 (kp_mk (Sub.push .rfl _))))
    refine tail_any (s := { s3 with heap := s3.heap.push { cls := .type "slice", data := .fields #[vl, vu, .none] } }) il4.typeIs slot_tuple_getitem.lookup (getItem_tuple_upTo (X := X) il4 (Heap.IsSliceOf.new ..) p2 p3 (fun hj => ?_) (fun hj => ?_) (by rw [List.size_toArray, r.length]; exact hz)) (by with_unfolding_all rfl)
    · have e : ds.take j = ds := List.take_of_length_le (by rw [List.size_toArray, r.length] at hj; exact hj)
      rw [e]
      exact .trans k4 x4 (Post.here x4.gh (.tuple (plainT_sub sub4 il) (r.sub sub4)))
    · exact post_newTuple (s' := { s3 with heap := s3.heap.push { cls := .type "slice", data := .fields #[vl, vu, .none] } }) k4 x4 ((r.take j).sub sub4)

theorem seqK_tuple (X : Cx) : SeqK X dTup .int okL where
  lt := by
    intro A E Q s g u v a b _ _ hu kk r1 r2 h
    cases r1 with
    | tuple i1 r1 =>
      cases r2 with
      | tuple i2 r2 => exact rc_tuple_lt (isTup_sub kk i1) (isTup_sub kk i2) (intsAre_of r1) (intsAre_of r2) hu h
  gt := by
    intro A E Q s g u v a b _ _ hu kk r1 r2 h
    cases r1 with
    | tuple i1 r1 =>
      cases r2 with
      | tuple i2 r2 => exact rc_tuple_gt (isTup_sub kk i1) (isTup_sub kk i2) (intsAre_of r1) (intsAre_of r2) hu h
  enum := by
    intro k g s v a _ kk r
    cases r with
    | tuple i r => exact enumOf_tuple kk i r
  item := by
    intro k sc σ z pz y p pos a i c _ hv hi hc hb
    have hlt : i < a.length := (List.getElem?_eq_some_iff.mp hc).1
    refine Ev.itemT (j := i) hv hi (by omega) (by omega) ?_ (by simp [dInts, hc])
    unfold seqIndex? dInts
    rw [List.length_map]
    have h1 : ¬ ((i : Int) < 0) := by omega
    simp only [if_neg h1]
    have h2 : (decide (0 ≤ (i : Int)) && decide ((i : Int) < (a.length : Int))) = true := by simp; omega
    rw [h2]; simp
  ne := fun k a b i j _ _ _ _ => op_ne
  slice := by
    intro k sc σ z pz y p ps pos a i ho hv hi
    refine (Ev.sliceT hv .none (.some hi) (by simpa [dInts] using (show a.length ≤ sizeLine from ho))).to ?_
    simp [dTup, dInts]
end
end Mine

namespace Mine
open PySem PySem.W PyProof.Rows PySem.Calls
set_option Elab.async false
set_option maxRecDepth 100000
set_option linter.unusedVariables false

/-- a new TypeError that has left no frame yet; what stood in K stands -/
def Boom (K : Heap) (s : Shared) (x : Value) (s' : Shared) : Prop :=
  ∃ e, x = .ref e ∧ K.get? e = none ∧ Sub K s'.heap ∧ (∃ oe vs a0, s'.heap.get? e = some oe ∧ oe.cls = .type "TypeError" ∧ oe.data = .fields vs ∧ vs[0]? = some a0 ∧ vs[1]? = some .none) ∧ ∃ h t, s' = { s with heap := h, toks := t }
theorem Boom.of_new {K h' : Heap} {s : Shared} {tk : Tok} {e : Addr} (k : Sub K s.heap) (n : Heap.NewExc s.heap h' e "TypeError") : Boom K s (.ref e) { s with heap := h', toks := tk } := by
  obtain ⟨ob, t, h1, h2, h3⟩ := n.there
  refine ⟨e, rfl, ?_, fun b o q => n.keeps b o (k b o q), ⟨ob, _, t, h1, h2, h3, rfl, rfl⟩, h', tk, rfl⟩
  cases z : K.get? e with
  | none => rfl
  | some o => have := k _ _ z; rw [n.new] at this; cases this
section
variable {X : Cx} {A : Around} {s : Shared}
def Declines (X : Cx) (A : Around) (s : Shared) (id : String) (a b : Value) : Prop :=
  ∀ (Q : Value → Shared → Prop) (E : Value → Shared → Prop), Q .notImplemented s → wpAny X.M A (call (.builtin id) [a, b]) Q E s

theorem decl_list_lt {a b : Value} {U : String} (ha : s.TypeIs a "list") (hb : s.TypeIs b U) (hs : isSubtype (.type U) (.type "list") = pure false) : Declines X A s "list.__lt__" a b := fun Q E h =>
  wpAny_call_entry F.slot_list_lt ha F.entry_list_lt (show wpAny _ _ (isInstance b (.type "list") >>= fun r => _) _ _ s from wpAny_bind (wpAny_isInstance hb hs (wpAny_pure ⟨_, rfl, h⟩))) (F.args_list_lt_2 _ _)
theorem decl_list_gt {a b : Value} {U : String} (ha : s.TypeIs a "list") (hb : s.TypeIs b U) (hs : isSubtype (.type U) (.type "list") = pure false) : Declines X A s "list.__gt__" a b := fun Q E h =>
  wpAny_call_entry F.slot_list_gt ha F.entry_list_gt (show wpAny _ _ (isInstance b (.type "list") >>= fun r => _) _ _ s from wpAny_bind (wpAny_isInstance hb hs (wpAny_pure ⟨_, rfl, h⟩))) (F.args_list_gt_2 _ _)
theorem decl_tuple_lt {a b : Value} {U : String} (ha : s.TypeIs a "tuple") (hb : s.TypeIs b U) (hs : isSubtype (.type U) (.type "tuple") = pure false) : Declines X A s "tuple.__lt__" a b := fun Q E h =>
  wpAny_call_entry F.slot_tuple_lt ha F.entry_tuple_lt (show wpAny _ _ (isInstance b (.type "tuple") >>= fun r => _) _ _ s from wpAny_bind (wpAny_isInstance hb hs (wpAny_pure ⟨_, rfl, h⟩))) (F.args_tuple_lt_2 _ _)
theorem decl_tuple_gt {a b : Value} {U : String} (ha : s.TypeIs a "tuple") (hb : s.TypeIs b U) (hs : isSubtype (.type U) (.type "tuple") = pure false) : Declines X A s "tuple.__gt__" a b := fun Q E h =>
  wpAny_call_entry F.slot_tuple_gt ha F.entry_tuple_gt (show wpAny _ _ (isInstance b (.type "tuple") >>= fun r => _) _ _ s from wpAny_bind (wpAny_isInstance hb hs (wpAny_pure ⟨_, rfl, h⟩))) (F.args_tuple_gt_2 _ _)
theorem decl_bytes_lt {x : Array UInt8} {t : Tok} {b : Value} {U : String} (hb : s.TypeIs b U) (hs : isSubtype (.type U) (.type "bytes") = pure false) : Declines X A s "bytes.__lt__" (.bytes x t) b := fun Q E h =>
  wpAny_call_entry slot_bytes_lt (typeIs_bytes _ _ _) entry_bytes_lt (show wpAny _ _ (isInstance b (.type "bytes") >>= fun r => _) _ _ s from wpAny_bind (wpAny_isInstance hb hs (wpAny_bind (wpAny_rule (wpAny_pure ⟨_, rfl, h⟩))))) (args_bytes_lt_2 _ _)
theorem decl_bytes_gt {x : Array UInt8} {t : Tok} {b : Value} {U : String} (hb : s.TypeIs b U) (hs : isSubtype (.type U) (.type "bytes") = pure false) : Declines X A s "bytes.__gt__" (.bytes x t) b := fun Q E h =>
  wpAny_call_entry slot_bytes_gt (typeIs_bytes _ _ _) entry_bytes_gt (show wpAny _ _ (isInstance b (.type "bytes") >>= fun r => _) _ _ s from wpAny_bind (wpAny_isInstance hb hs (wpAny_bind (wpAny_rule (wpAny_pure ⟨_, rfl, h⟩))))) (args_bytes_gt_2 _ _)
theorem decl_str_lt_bytes {x : Str} {t : Tok} {y : Array UInt8} {u : Tok} : Declines X A s "str.__lt__" (.str x t) (.bytes y u) := fun Q E h =>
  wpAny_call_entry F.slot_str_lt (typeIs_str _ _ _) F.entry_str_lt (show wpAny _ _ (do rule "str.__lt__.not-a-str"; ret .notImplemented) _ _ s from wpAny_bind (wpAny_rule (wpAny_pure ⟨_, rfl, h⟩))) (F.args_str_lt_2 _ _)
theorem decl_str_lt_ref {x : Str} {t : Tok} {a : Addr} {o : Obj} {vs : Array Value} {n : Nat} (ho : s.heap.get? a = some o) (hd : o.data = .seq vs n) : Declines X A s "str.__lt__" (.str x t) (.ref a) := fun Q E h => by
  refine wpAny_call_entry F.slot_str_lt (typeIs_str _ _ _) F.entry_str_lt ?_ (F.args_str_lt_2 _ _)
  show wpAny _ _ ((load a >>= fun r => match r.data with | .prim (.str s _) => pure (some s) | _ => pure none) >>= fun r => _) _ _ s
  refine wpAny_bind (wpAny_bind (wpAny_load ho ?_))
  rw [hd]
  exact wpAny_pure (wpAny_bind (wpAny_rule (wpAny_pure ⟨_, rfl, h⟩)))
theorem decl_int_lt_ref {x : Int} {t : Tok} {a : Addr} {o : Obj} {vs : Array Value} {n : Nat} (ho : s.heap.get? a = some o) (hd : o.data = .seq vs n) : Declines X A s "int.__lt__" (.int x t) (.ref a) := fun Q E h => by
  refine wpAny_call_entry PySem.F.slot_int_lt (typeIs_int _ _ _) PySem.F.entry_int_lt ?_ (PySem.F.args_int_lt_2 _ _)
  show wpAny _ _ ((load a >>= fun r => _) >>= fun r => _) _ _ s
  refine wpAny_bind (wpAny_bind (wpAny_load ho ?_))
  rw [hd]
  exact wpAny_pure (wpAny_bind (wpAny_rule (wpAny_pure ⟨_, rfl, h⟩)))

/-- a < b where both decline -/
theorem lt_raises {a b : Value} {Ta Tb ida idb : String} {Q : Value → Shared → Prop} (hh : A.handled = none) (ha : s.TypeIs a Ta) (hb : s.TypeIs b Tb)
    (hne : (Value.type Ta != Value.type Tb) = true) (hsub : isSubtype (.type Tb) (.type Ta) = pure false) (h1 : Slot Ta (cmpInfo .Lt).2.1 ida) (h2 : Slot Tb (cmpInfo .Lt).2.2 idb)
    (hna : (Value.type Ta == Value.type "builtin_function_or_method") = false) (hnb : (Value.type Tb == Value.type "builtin_function_or_method") = false)
    (d1 : Declines X A s ida a b) (d2 : Declines X A s idb b a) (hr : A.units < cLine) (hTa : (shownName Ta).length ≤ 1000) (hTb : (shownName Tb).length ≤ 1000) :
    wpAny X.M A (richCompare .Lt a b) Q (Boom s.heap s) s := by
  simp only [richCompare, cmpInfo, ha.oneThing_none] at h1 h2 ⊢
  refine wpAny_holding ?_
  refine wpAny_bind (wpAny_cRoomFor_or (.inr hr) ?_)
  refine wpAny_bind (wpAny_typeOf ha (wpAny_bind (wpAny_typeOf hb ?_)))
  simp only [hne, if_true]
  refine wpAny_bind (wpAny_of_eq hsub ?_)
  simp only [Bool.false_eq_true, if_false, Bool.not_false, if_true]
  refine wpAny_bind (m := tryCompare a _ b) (wpAny_tryCompare_declines ha h1 (d1 _ _ ⟨rfl, ?_⟩))
  refine wpAny_bind (m := tryCompare b _ a) (wpAny_tryCompare_declines hb h2 (d2 _ _ ⟨rfl, ?_⟩))
  refine wpAny_bind (wpAny_rule (wpAny_bind (wpAny_typeNameOf' ha hna (wpAny_bind (wpAny_typeNameOf' hb hnb (wpAny_raiseTypeError hh (fun h' tk e n => Boom.of_new .rfl n) ?_))))))
  show (Str.ofString _).length ≤ sizeLine
  rw [PySem.ofString_length, sizeLine_eq]
  simp only [String.length_append, toString]
  have e1 : "'".length ≤ 100 := by decide
  have e2 : "<".length ≤ 100 := by decide
  have e3 : "' not supported between instances of '".length ≤ 100 := by decide
  have e4 : "' and '".length ≤ 100 := by decide
  omega

/-- the language's type of a datum -/
def tyOf : Dat → String
  | .none => "NoneType"
  | .bool _ => "bool"
  | .int _ => "int"
  | .str _ => "str"
  | .bytes _ => "bytes"
  | .tuple _ => "tuple"
  | .list _ => "list"
theorem Rep.tyIs {g : Heap} {v : Value} {d : Dat} (r : Rep g v d) (k : Sub g s.heap) : s.TypeIs v (tyOf d) := by
  cases r with
  | none => rfl
  | bool b => rfl
  | int i t => rfl
  | str x t => rfl
  | bytes b t => rfl
  | tuple i _ => exact (isTup_sub k i).typeIs
  | list i _ => exact (isList_sub k i).typeIs

theorem sub_no {U T : String} (h : isSubtype (.type U) (.type T) = pure false := by rw [isSubtype_type]; kernel_rfl) : isSubtype (.type U) (.type T) = pure false := h

/-- rows of two kinds have no order -/
theorem lt_mixed {g : Heap} {u v : Value} {d e : Dat} {Q : Value → Shared → Prop} (hh : A.handled = none) (hu : A.units < cLine) (k : Sub g s.heap) (ru : Rep g u d) (rv : Rep g v e)
    (hp : (tyOf e = "list" ∧ (tyOf d = "bytes" ∨ tyOf d = "tuple" ∨ tyOf d = "str" ∨ tyOf d = "int")) ∨ (tyOf e = "tuple" ∧ (tyOf d = "bytes" ∨ tyOf d = "list" ∨ tyOf d = "str" ∨ tyOf d = "int")) ∨ (tyOf e = "bytes" ∧ tyOf d = "str")) :
    wpAny X.M A (richCompare .Lt u v) Q (Boom s.heap s) s := by
  have tu := ru.tyIs k
  have tv := rv.tyIs k
  have fin : ∀ {Ta Tb ida idb : String}, s.TypeIs u Ta → s.TypeIs v Tb → (Value.type Ta != Value.type Tb) = true → isSubtype (.type Tb) (.type Ta) = pure false → Slot Ta (cmpInfo .Lt).2.1 ida → Slot Tb (cmpInfo .Lt).2.2 idb →
    (Value.type Ta == Value.type "builtin_function_or_method") = false → (Value.type Tb == Value.type "builtin_function_or_method") = false → Declines X A s ida u v → Declines X A s idb v u → (shownName Ta).length ≤ 1000 → (shownName Tb).length ≤ 1000 →
    wpAny X.M A (richCompare .Lt u v) Q (Boom s.heap s) s := fun a b c d e f g1 h i j k1 l => lt_raises hh a b c d e f g1 h i j hu k1 l
  rcases hp with ⟨he, hd⟩ | ⟨he, hd⟩ | ⟨he, hd⟩
  · rw [he] at tv
    cases rv <;> simp [tyOf] at he
    rename_i a vs ds i r
    obtain ⟨o, ho, hc, n, hdt⟩ := isList_sub k i
    rcases hd with hd | hd | hd | hd <;> rw [hd] at tu <;> cases ru <;> simp [tyOf] at hd
    · exact fin tu tv (by decide) sub_no slot_bytes_lt F.slot_list_gt (by decide) (by decide) (decl_bytes_lt tv sub_no) (decl_list_gt tv tu sub_no) (by decide) (by decide)
    · exact fin tu tv (by decide) sub_no F.slot_tuple_lt F.slot_list_gt (by decide) (by decide) (decl_tuple_lt tu tv sub_no) (decl_list_gt tv tu sub_no) (by decide) (by decide)
    · exact fin tu tv (by decide) sub_no F.slot_str_lt F.slot_list_gt (by decide) (by decide) (decl_str_lt_ref ho hdt) (decl_list_gt tv tu sub_no) (by decide) (by decide)
    · exact fin tu tv (by decide) sub_no PySem.F.slot_int_lt F.slot_list_gt (by decide) (by decide) (decl_int_lt_ref ho hdt) (decl_list_gt tv tu sub_no) (by decide) (by decide)
  · rw [he] at tv
    cases rv <;> simp [tyOf] at he
    rename_i a vs ds i r
    obtain ⟨o, ho, hc, n, hdt⟩ := isTup_sub k i
    rcases hd with hd | hd | hd | hd <;> rw [hd] at tu <;> cases ru <;> simp [tyOf] at hd
    · exact fin tu tv (by decide) sub_no slot_bytes_lt F.slot_tuple_gt (by decide) (by decide) (decl_bytes_lt tv sub_no) (decl_tuple_gt tv tu sub_no) (by decide) (by decide)
    · exact fin tu tv (by decide) sub_no F.slot_list_lt F.slot_tuple_gt (by decide) (by decide) (decl_list_lt tu tv sub_no) (decl_tuple_gt tv tu sub_no) (by decide) (by decide)
    · exact fin tu tv (by decide) sub_no F.slot_str_lt F.slot_tuple_gt (by decide) (by decide) (decl_str_lt_ref ho hdt) (decl_tuple_gt tv tu sub_no) (by decide) (by decide)
    · exact fin tu tv (by decide) sub_no PySem.F.slot_int_lt F.slot_tuple_gt (by decide) (by decide) (decl_int_lt_ref ho hdt) (decl_tuple_gt tv tu sub_no) (by decide) (by decide)
  · rw [he] at tv
    rw [hd] at tu
    cases rv <;> simp [tyOf] at he
    cases ru <;> simp [tyOf] at hd
    exact fin tu tv (by decide) sub_no F.slot_str_lt slot_bytes_gt (by decide) (by decide) decl_str_lt_bytes (decl_bytes_gt tu sub_no) (by decide) (by decide)
end
end Mine

namespace Mine
open PySem PySem.W PyProof.Rows PySem.Calls
set_option Elab.async false
set_option maxRecDepth 100000
set_option linter.unusedVariables false

section
variable {X : Cx} {k : Nat} {A : Around} {g : Heap} {I S : Addr} {fp wr : List Addr} {n q : Nat} {P : Nat → Value → Prop} {St : Nat → Heap → Prop}

/-- what ends a run of least values at the place q -/
def Mixes (X : Cx) (k : Nat) (K : Heap) (P : Nat → Value → Prop) (q : Nat) : Prop :=
  ∀ (A : Around) (j : Nat) (v b : Value) (s : Shared) (Q : Value → Shared → Prop), Room A k → Sub K s.heap → j < q → P q v → P j b → wpAny X.M A (richCompare .Lt v b) Q (Boom s.heap s) s

theorem min_booms (rm : Room A (k + 1)) (W : Walks X.prog X.w A.in1 I fp wr n P St) (bt : Nat → Nat → Bool) (hqn : q < n) (hc : CmpG X k .Lt g (fun i v => i < q ∧ P i v) bt) (hz : Mixes X k g P q) (hS : S ∉ fp) (gS : g.get? S = none) (gw : ∀ b ∈ wr, g.get? b = none) :
    ∀ (todo j : Nat) (s : Shared) (best : Value) (ep : Nat), todo = q - (j + 1) → j < q → Sub g s.heap → St (j + 1) s.heap → P (argBest bt j) best →
    s.heap.get? S = some { cls := .type "list", dict := none, data := .seq #[best, best] ep, slots := #[] } →
    codeAny X.M A (.builtin "min.loop" ⟨[.ref I, .none, .ref S], []⟩) (fun r s' => ∃ x, r = .error x ∧ Boom g s x s') s := by
  have nm : (toString "min" ++ toString ".loop" : String) = "min.loop" := by decide
  have Sw : S ∉ wr := fun q => hS (W.sub _ q)
  have back : ∀ {s s1 : Shared} {r : Result} {s' : Shared}, (∃ h t, s1 = { s with heap := h, toks := t }) → (∃ x, r = .error x ∧ Boom g s1 x s') → ∃ x, r = .error x ∧ Boom g s x s' := by
    rintro s s1 r s' ⟨h, t, rfl⟩ ⟨x, e, ee, b1, b2, b3, b4, h', t', rfl⟩
    exact ⟨x, e, ee, b1, b2, b3, b4, h', t', rfl⟩
  intro todo
  induction todo with
  | zero =>
    intro j s best ep ht hj kk hst hP hs
    have hq : j + 1 = q := by omega
    refine codeAny_builtin F.entry_min_loop ?_
    rw [Around.under_plainId F.plain_min_loop _]
    show wpAny _ A.in1 (seqItems? (.ref S) >>= _) _ _ s
    refine wpAny_bind (wpAny_seqItems hs rfl ?_)
    show wpAny _ A.in1 (tryCatch (pyNext (.ref I)) _ >>= _) _ _ s
    refine wpAny_bind (wpAny_tryCatch (W.item (j + 1) s _ _ (by omega) hst fun v h' tk hPv hst' hk => ?_))
    have kk' : Sub g h' := fun b o e => hk b o (fun q => by rw [gw b q] at e; cases e) (kk b o e)
    have hs' := hk S _ Sw hs
    show wpAny _ A.in1 (tryCatch (holding [v, v] (richCompare .Lt v best >>= _)) _ >>= _) _ _ _
    rw [hq] at hPv
    refine wpAny_bind (wpAny_tryCatch (wpAny_holding (wpAny_bind (wpAny_mono (hz A.in1 (argBest bt j) v best _ (fun _ _ => False) rm.in1 kk' (Nat.lt_of_le_of_lt (argBest_le bt j) hj) hPv hP) (fun _ _ x => x.elim) fun x s2 hb => ?_))))
    obtain ⟨e, rfl, b1, b2, ⟨oe, vs, a0, b3, b4⟩, h2, t2, rfl⟩ := hb
    have hs2 := b2 _ _ hs'
    have heS : e ≠ S := fun q => by rw [q] at b1; rw [hs'] at b1; cases b1
    show wpAny _ A.in1 (updateSeq S (fun _ => #[]) >>= _) _ _ _
    refine wpAny_bind (wpAny_updateSeq hs2 rfl (wpAny_bind (wpAny_letGo (wpAny_throw ?_))))
    refine ⟨_, rfl, e, rfl, ?_, fun b o z => ?_, ⟨oe, vs, a0, (Heap.get?_update_other _ _ (Ne.symm heS)).trans b3, b4⟩, _, _, rfl⟩
    · cases z : g.get? e with
      | none => rfl
      | some o => have := kk' _ _ z; rw [b1] at this; cases this
    · exact (Heap.get?_update_other _ _ (fun q => by rw [← q, gS] at z; cases z)).trans (b2 _ _ (kk' b o z))
  | succ todo ih =>
    intro j s best ep ht hj kk hst hP hs
    have hj1 : j + 1 < q := by omega
    refine codeAny_builtin F.entry_min_loop ?_
    rw [Around.under_plainId F.plain_min_loop _]
    show wpAny _ A.in1 (seqItems? (.ref S) >>= _) _ _ s
    refine wpAny_bind (wpAny_seqItems hs rfl ?_)
    show wpAny _ A.in1 (tryCatch (pyNext (.ref I)) _ >>= _) _ _ s
    refine wpAny_bind (wpAny_tryCatch (W.item (j + 1) s _ _ (by omega) hst fun v h' tk hPv hst' hk => ?_))
    have kk' : Sub g h' := fun b o e => hk b o (fun q => by rw [gw b q] at e; cases e) (kk b o e)
    have hs' := hk S _ Sw hs
    show wpAny _ A.in1 (tryCatch (holding [v, v] (richCompare .Lt v best >>= _)) _ >>= _) _ _ _
    refine wpAny_bind (wpAny_tryCatch (wpAny_holding (wpAny_bind (hc A.in1 (j + 1) (argBest bt j) v best _ _ _ rm.in1 kk' ⟨hj1, hPv⟩ ⟨Nat.lt_of_le_of_lt (argBest_le bt j) hj, hP⟩ ?_))))
    refine wpAny_bind (wpAny_holding (wpAny_truthy_bool ?_))
    refine wpAny_bind (wpAny_letGo (wpAny_pure ?_))
    cases hb : bt (j + 1) (argBest bt j) with
    | true =>
      simp only [if_true]
      refine wpAny_bind (wpAny_updateSeq hs' rfl (wpAny_bind (wpAny_letGo ?_)))
      rw [nm]
      refine wpAny_pure ⟨plainId_quiet F.plain_min_loop _, codeAny_mono (ih (j + 1) _ v _ (by omega) hj1 (fun b o e => ?_) (W.frame _ _ _ hst' fun b hbf o e => ?_) (by simp only [argBest, hb, if_true]; exact hPv) (Heap.get?_update_self _ hs' rfl)) fun r s' x => back ⟨_, _, rfl⟩ x⟩
      · exact (Heap.get?_update_other _ _ (fun q => by rw [← q, gS] at e; cases e)).trans (kk' b o e)
      · exact (Heap.get?_update_other _ _ (fun q : S = b => hS (q ▸ hbf))).trans e
    | false =>
      simp only [Bool.false_eq_true, if_false]
      refine wpAny_bind (wpAny_letGo ?_)
      rw [nm]
      exact wpAny_pure ⟨plainId_quiet F.plain_min_loop _, codeAny_mono (ih (j + 1) _ best ep (by omega) hj1 kk' hst' (by simp only [argBest, hb, Bool.false_eq_true, if_false]; exact hP) hs') fun r s' x => back ⟨_, _, rfl⟩ x⟩

theorem min_booms0 (rm : Room A (k + 1)) (W : Walks X.prog X.w A.in1 I fp wr n P St) (bt : Nat → Nat → Bool) (hqn : q < n) (hq0 : 0 < q) (hc : CmpG X k .Lt g (fun i v => i < q ∧ P i v) bt) (hz : Mixes X k g P q) (hS : S ∉ fp) (gS : g.get? S = none) (gw : ∀ b ∈ wr, g.get? b = none)
    {s : Shared} {ep : Nat} (kk : Sub g s.heap) (hst : St 0 s.heap) (hs : s.heap.get? S = some { cls := .type "list", dict := none, data := .seq #[] ep, slots := #[] }) :
    codeAny X.M A (.builtin "min.loop" ⟨[.ref I, .none, .ref S], []⟩) (fun r s' => ∃ x, r = .error x ∧ Boom g s x s') s := by
  have nm : (toString "min" ++ toString ".loop" : String) = "min.loop" := by decide
  have Sw : S ∉ wr := fun q => hS (W.sub _ q)
  refine codeAny_builtin F.entry_min_loop ?_
  rw [Around.under_plainId F.plain_min_loop _]
  show wpAny _ A.in1 (seqItems? (.ref S) >>= _) _ _ s
  refine wpAny_bind (wpAny_seqItems hs rfl ?_)
  show wpAny _ A.in1 (tryCatch (pyNext (.ref I)) _ >>= _) _ _ s
  refine wpAny_bind (wpAny_tryCatch (W.item 0 s _ _ (by omega) hst fun v h' tk hPv hst' hk => ?_))
  have kk' : Sub g h' := fun b o e => hk b o (fun q => by rw [gw b q] at e; cases e) (kk b o e)
  have hs' := hk S _ Sw hs
  show wpAny _ A.in1 (updateSeq S (fun _ => #[v, v]) >>= _) _ _ _
  refine wpAny_bind (wpAny_updateSeq hs' rfl ?_)
  rw [nm]
  refine wpAny_pure ⟨plainId_quiet F.plain_min_loop _, codeAny_mono (min_booms rm W bt hqn hc hz hS gS gw _ 0 _ v _ rfl hq0 (fun b o e => ?_) (W.frame _ _ _ hst' fun b hbf o e => ?_) hPv (Heap.get?_update_self _ hs' rfl)) fun r s' x => ?_⟩
  · exact (Heap.get?_update_other _ _ (fun q => by rw [← q, gS] at e; cases e)).trans (kk' b o e)
  · exact (Heap.get?_update_other _ _ (fun q : S = b => hS (q ▸ hbf))).trans e
  · obtain ⟨x, e, ee, b1, b2, b3, b4, h2, t2, rfl⟩ := x
    exact ⟨x, e, ee, b1, b2, b3, b4, h2, t2, rfl⟩
end

/-- min of a row in which the place q is of another kind than those before -/
theorem min_raises {X : Cx} {k : Nat} {A : Around} {g : Heap} {s : Shared} {xv : Value} {ds : List Dat} {q : Nat} {bt : Nat → Nat → Bool} {Q : Value → Shared → Prop} (rm : Room A (k + 2)) (kk : Sub g s.heap) (hit : IterOf X k g s xv ds) (hq : q < ds.length) (hq0 : 0 < q)
    (hc : CmpG X k .Lt g (fun i v => i < q ∧ ∃ d, ds[i]? = some d ∧ Rep g v d) bt) (hz : Mixes X k g (fun i v => ∃ d, ds[i]? = some d ∧ Rep g v d) q) :
    wpAny X.M A (call (.builtin "min") [xv]) Q (Boom s.heap s) s := by
  have nm : (toString "min" ++ toString ".loop" : String) = "min.loop" := by decide
  refine call_function_tree F.kind_min F.plain_min F.entry_min (F.args_min1 _) ?_
  show wpAny _ A.in1 (Builtin.Builtins.bindParams "min" ["key", "default"] 0 ⟨[], []⟩ >>= _) _ _ s
  refine wpAny_bind (wpAny_of_eq (show Builtin.Builtins.bindParams "min" ["key", "default"] 0 ⟨[], []⟩ = pure [none, none] from rfl) ?_)
  refine wpAny_bind (wpAny_pure ?_)
  refine wpAny_bind (wpAny_mono (hit A.in1 _ (rm.in1.le (Nat.le_succ _))) (fun it s2 ⟨k2, I, fp, wr, P, St, e, W⟩ => ?_) fun _ _ y => y)
  subst e
  refine wpAny_bind (wpAny_newObj_type ?_)
  have hSf : s2.heap.objs.size ∉ fp := fun hm => Nat.lt_irrefl _ (W.low _ hm)
  have kk2 : Sub s.heap s2.heap := kp_sub k2
  rw [nm]
  have Sn : s.heap.get? s2.heap.objs.size = none := by
    cases z : s.heap.get? s2.heap.objs.size with
    | none => rfl
    | some o => have := kk2 _ _ z; rw [fresh_size] at this; cases this
  refine wpAny_pure ⟨plainId_quiet F.plain_min_loop _, codeAny_mono (min_booms0 (k := k + 1) (g := s.heap) (q := q) rm (W.walks A.in1 rm.hh) bt hq hq0
    (fun A' i j vi vj s' Q E' r' kk' hi hj h => hc A' i j vi vj s' Q E' (r'.le (Nat.le_succ _)) (kk.trans kk') ⟨hi.1, W.item i vi hi.2⟩ ⟨hj.1, W.item j vj hj.2⟩ h)
    (fun A' j v b s' Q' r' kk' hj hv hb => hz A' j v b s' Q' (r'.le (Nat.le_succ _)) (kk.trans kk') hj (W.item q v hv) (W.item j b hb)) hSf Sn W.fresh (kk2.trans (Sub.push .rfl _))
    ((W.walks A.in1 rm.hh).frame _ _ _ W.start fun b _ o e => Heap.get?_push_of_some _ e) (Heap.get?_push_size _ rfl)) fun r s' x => ?_⟩
  obtain ⟨x, rfl, ee, b1, b2, b3, b4, h2, t2, rfl⟩ := x
  obtain ⟨h1, t1, rfl, _⟩ := k2
  exact ⟨ee, b1, b2, b3, b4, h2, t2, rfl⟩
end Mine

namespace Mine
open PySem PySem.W PyProof.Rows PySem.Calls
set_option Elab.async false
set_option maxRecDepth 100000
set_option linter.unusedVariables false

/-- a TypeError on its way through the frames l; what stood in K stands, but for slots -/
def Thrown (base : Heap) (l : List Env) (K : Heap) (s : Shared) (x : Value) (s' : Shared) : Prop :=
  ∃ e, x = .ref e ∧ base.StaysIn s'.heap ∧ base.get? e = none ∧ s'.heap.FunFrames base l ∧ K.UpToSlots s'.heap ∧
    ((∃ oe vs a0, s'.heap.get? e = some oe ∧ oe.cls = .type "TypeError" ∧ oe.data = .fields vs ∧ vs[0]? = some a0 ∧ vs[1]? = some .none) ∨ ∃ a0, s'.heap.TracedW base e (.type "TypeError") a0) ∧
    ∃ h t, s' = { s with heap := h, toks := t }
/-- the same, out of a frame -/
def ThrownT (base : Heap) (l : List Env) (K : Heap) (s : Shared) (x : Value) (s' : Shared) : Prop :=
  ∃ e a0, x = .ref e ∧ Heap.FlyingW base l e (.type "TypeError") a0 s'.heap ∧ K.UpToSlots s'.heap ∧ ∃ h t, s' = { s with heap := h, toks := t }

section
variable {base K : Heap} {l outer : List Env} {env : Env} {s s' s1 : Shared} {x : Value}
theorem ThrownT.thrown (h : ThrownT base l K s x s') : Thrown base l K s x s' := by
  obtain ⟨e, a0, hx, ⟨f1, f2, f3, f4⟩, u, r⟩ := h
  exact ⟨e, hx, f1, f2, f3, u, .inr ⟨a0, f4⟩, r⟩
theorem Boom.thrown (b : Boom K s x s') (st : base.StaysIn K) (ff : K.FunFrames base l) : Thrown base l K s x s' := by
  obtain ⟨e, rfl, h1, h2, h3, r⟩ := b
  refine ⟨e, rfl, fun b o q => h2 b o (st b o q), ?_, ff.of_keeps fun b o q _ => ⟨o, h2 b o q, rfl⟩, .of_keeps h2, .inl h3, r⟩
  cases z : base.get? e with
  | none => rfl
  | some o => have := st _ _ z; rw [h1] at this; cases this
theorem state_back (h : ∃ h t, s1 = { s with heap := h, toks := t }) (h' : ∃ h t, s' = { s1 with heap := h, toks := t }) : ∃ h t, s' = { s with heap := h, toks := t } := by
  obtain ⟨h, t, rfl⟩ := h
  obtain ⟨h2, t2, rfl⟩ := h'
  exact ⟨h2, t2, rfl⟩
theorem kp_state (k : Keeps s s') : ∃ h t, s' = { s with heap := h, toks := t } := let ⟨h, t, e, _⟩ := k; ⟨h, t, e⟩
theorem Thrown.back {K' : Heap} (k : ∃ h t, s1 = { s with heap := h, toks := t }) (sub : Sub K' K) (h : Thrown base l K s1 x s') : Thrown base l K' s x s' := by
  obtain ⟨e, hx, h1, h2, h3, u, r, q⟩ := h
  exact ⟨e, hx, h1, h2, h3, (Heap.UpToSlots.of_keeps sub).trans u, r, state_back k q⟩
theorem ThrownT.back {K' : Heap} (k : ∃ h t, s1 = { s with heap := h, toks := t }) (sub : Sub K' K) (h : ThrownT base l K s1 x s') : ThrownT base l K' s x s' := by
  obtain ⟨e, a0, hx, f, u, q⟩ := h
  exact ⟨e, a0, hx, f, (Heap.UpToSlots.of_keeps sub).trans u, state_back k q⟩
theorem wp_leave {M : Model} {A : Around} {L : Addr} {Q : Unit → Shared → Prop} {E : Value → Shared → Prop} (hfr : A.frames = some (env :: outer)) (hf : env.frame = some L) (h : Thrown base (env :: outer) K s x s')
    (hQ : ∀ s'', ThrownT base outer K s x s'' → Q () s'') : wpAny M A (leaving env x) Q E s' := by
  obtain ⟨e, rfl, h1, h2, h3, u, r, q⟩ := h
  rcases r with ⟨oe, vs, a0, g1, g2, g3, g4, g5⟩ | ⟨a0, ht⟩
  · refine wpAny_leaving_firstW hfr h3 hf g1 h1 h2 g3 g5 g4 fun h' hL => hQ _ ?_
    obtain ⟨k1, ⟨_, _, k2⟩, k3, k4⟩ := hL
    rw [g2] at k3
    exact ⟨e, a0, rfl, ⟨k1, h2, k2, k3⟩, u.trans k4, state_back q ⟨h', s'.toks, rfl⟩⟩
  · exact wpAny_leaves_onW hfr hf ⟨h1, h2, h3, ht⟩ fun h' hF hu => hQ _ ⟨e, a0, rfl, hF, u.trans hu, state_back q ⟨h', s'.toks, rfl⟩⟩
end

section
variable {X : Cx} {k : Nat} {sc : Scope} {σ τ : Sto}

/-- an expression that raises -/
def EvR (X : Cx) (k : Nat) (sc : Scope) (σ : Sto) (e : Expr) : Prop :=
  ∀ (A : Around) (env : Env) (g : Heap) (s : Shared) (base : Heap) (outer : List Env), Room A k → EnvOk env sc → Sub X.h0 g → StoIn σ env g s → A.frames = some (env :: outer) → base.StaysIn s.heap → s.heap.FunFrames base (env :: outer) →
    wpAny X.M A (eval e env) (fun _ _ => False) (Thrown base (env :: outer) s.heap s) s
def EvRT (X : Cx) (k : Nat) (sc : Scope) (σ : Sto) (e : Expr) : Prop :=
  ∀ (A : Around) (env : Env) (g : Heap) (s : Shared) (base : Heap) (outer : List Env), Room A k → EnvOk env sc → Sub X.h0 g → StoIn σ env g s → A.frames = some (env :: outer) → base.StaysIn s.heap → s.heap.FunFrames base (env :: outer) →
    wpAny X.M A (eval e env) (fun _ _ => False) (ThrownT base (env :: outer) s.heap s) s
/-- a tree over values that raises -/
def OpR (X : Cx) (k : Nat) (t : List Value → Sem Value) (ds : List Dat) : Prop :=
  ∀ (g : Heap) (s : Shared) (vs : List Value), Sub X.h0 g → Sub g s.heap → RepAll g vs ds → ∀ (A : Around) (base : Heap) (l : List Env), Room A k → A.frames = some l → base.StaysIn s.heap → s.heap.FunFrames base l →
    wpAny X.M A (t vs) (fun _ _ => False) (Thrown base l s.heap s) s
def OpRT (X : Cx) (k : Nat) (t : List Value → Sem Value) (ds : List Dat) : Prop :=
  ∀ (g : Heap) (s : Shared) (vs : List Value), Sub X.h0 g → Sub g s.heap → RepAll g vs ds → ∀ (A : Around) (base : Heap) (l : List Env), Room A k → A.frames = some l → base.StaysIn s.heap → s.heap.FunFrames base l →
    wpAny X.M A (t vs) (fun _ _ => False) (ThrownT base l s.heap s) s
theorem ff_keeps {base : Heap} {l : List Env} {h h' : Heap} (k : Sub h h') (ff : h.FunFrames base l) : h'.FunFrames base l := ff.of_keeps fun b o q _ => ⟨o, k b o q, rfl⟩

theorem EvR.callB {f : Str} {p pos : Pos} {id : String} {e : Expr} {es : List Expr} {ds : List Dat} (hf : EvP X k sc σ (.Name f p) fun _ u => u = .builtin id) (hes : EvL X k sc σ (e :: es) ds)
    (hop : OpR X k (fun vs => call (.builtin id) vs) ds) : EvR X k sc σ (.Call (.Name f p) (e :: es) [] pos) := by
  intro A env g s base outer rm o bs q hfr hst hff
  refine wpAny_Call_NameR (wp_ev (hf A env g s _ rm o bs q) fun u g1 s1 k1 x1 p1 => ?_)
  subst p1
  refine callWith_of (P := fun h => True) (by rw [plain_any pos env hes.1]; rfl) (fun h _ => ⟨.machine, .inr (.inl rfl), Looks.of_pure rfl⟩) (evalArgs_evs hes rm o (bs.trans x1.gg) (q.step x1) fun vs g2 s2 k2 x2 p2 => ⟨trivial, ?_⟩)
  have sub : Sub s.heap s2.heap := x1.hh.trans x2.hh
  exact wpAny_mono (hop g2 s2 vs ((bs.trans x1.gg).trans x2.gg) x2.gh p2 A base _ rm hfr (fun b o z => sub b o (hst b o z)) (ff_keeps sub hff)) (fun _ _ y => y.elim) fun _ _ y => y.back (kp_state (kp_trans k1 k2)) sub

/-- a def of the text's that raises -/
def FnR (X : Cx) (k : Nat) (f : Str) (ds : List Dat) : Prop :=
  ∃ a o fd, X.mg f = some (.ref a) ∧ X.h0.get? a = some o ∧ o.data = .func fd ∧ OpRT X k (fun vs => call (.ref a) vs) ds
theorem EvRT.callF {f : Str} {p pos : Pos} {e : Expr} {es : List Expr} {ds : List Dat} (hk : sc.names.lookup f = some .globalImplicit) (hes : EvL X k sc σ (e :: es) ds) (hf : FnR X k f ds)
    (hd : (f == ("__debug__" : Str)) = false := by decide) : EvRT X k sc σ (.Call (.Name f p) (e :: es) [] pos) := by
  obtain ⟨a, ob, fd, h1, h2, h3, hop⟩ := hf
  intro A env g s base outer rm o bs q hfr hst hff
  refine wpAny_Call_NameR (wp_ev (EvP.global hk h1 hd A env g s _ rm o bs q) fun u g1 s1 k1 x1 p1 => ?_)
  subst p1
  refine callWith_of (P := fun h => Sub X.h0 h) (by rw [plain_any pos env hes.1]; rfl) (fun h hs => ⟨.frame, .inl rfl, ?_⟩) (evalArgs_evs hes rm o (bs.trans x1.gg) (q.step x1) fun vs g2 s2 k2 x2 p2 => ⟨((bs.trans x1.gg).trans x2.gg).trans x2.gh, ?_⟩)
  · exact (Looks.ld (part := none) (hs a ob h2)).andThen (by rw [h3]; exact Looks.of_pure rfl)
  · have sub : Sub s.heap s2.heap := x1.hh.trans x2.hh
    exact wpAny_mono (hop g2 s2 vs ((bs.trans x1.gg).trans x2.gg) x2.gh p2 A base _ rm hfr (fun b o z => sub b o (hst b o z)) (ff_keeps sub hff)) (fun _ _ y => y.elim) fun _ _ y => y.back (kp_state (kp_trans k1 k2)) sub

/-- a piece of a def's body that raises -/
def ExR (X : Cx) (k : Nat) (sc : Scope) (τ : Sto) (t : Env → Sem Flow) : Prop :=
  ∀ (A : Around) (env : Env) (s₀ : Shared) (g₀ : Heap) (H : List (Addr × Obj)) (g : Heap) (m cm : Str → Option Value) (s : Shared) (base : Heap) (outer : List Env),
    Room A k → DefEnv env sc → Sub X.h0 g₀ → FS s₀ g₀ env H τ g m cm s → A.frames = some (env :: outer) → env.frame = some env.locals → base.StaysIn s₀.heap → s₀.heap.FunFrames base outer →
    wpAny X.M A (t env) (fun _ _ => False) (Thrown base (env :: outer) s₀.heap s₀) s

/-- the frames' own objects, in the midst of a def -/
theorem FS.frames {s₀ s : Shared} {g₀ g : Heap} {env : Env} {H : List (Addr × Obj)} {m cm : Str → Option Value} {base : Heap} {outer : List Env} (F : FS s₀ g₀ env H τ g m cm s) (o : EnvOk env sc) (hf : env.frame = some env.locals) (hst : base.StaysIn s₀.heap) (hff : s₀.heap.FunFrames base outer) :
    base.StaysIn s.heap ∧ s.heap.FunFrames base (env :: outer) := by
  have sub := kp_sub F.done
  refine ⟨fun b ob z => sub b ob (hst b ob z), Heap.FunFrames.cons (by rw [o.ek]; decide) hf F.call.toInCall.ns ?_ (ff_keeps sub hff)⟩
  cases z : base.get? env.locals with
  | none => rfl
  | some ob => exact absurd (Heap.lt_size (hst _ _ z)) (Nat.not_lt.mpr F.call.toInCall.fresh)

theorem ExR.first {st : Stmt} {rest : List Stmt} (h : ExR X k sc τ (exec st)) : ExR X k sc τ (execs (st :: rest)) := by
  intro A env s₀ g₀ H g m cm s base outer r o b F h1 h2 h3 h4
  exact wpAny_execs_cons (wpAny_mono (h A env s₀ g₀ H g m cm s base outer r o b F h1 h2 h3 h4) (fun _ _ x => x.elim) fun _ _ y => y)
def ThenR (X : Cx) (k : Nat) (sc : Scope) (rest : List Stmt) : Out → Prop
  | .next τ => ExR X k sc τ (execs rest)
  | _ => False
theorem ExR.cons {st : Stmt} {rest : List Stmt} (h : Ex X k sc τ (exec st) (ThenR X k sc rest)) : ExR X k sc τ (execs (st :: rest)) := by
  intro A env s₀ g₀ H g m cm s base outer r o b F h1 h2 h3 h4
  refine wpAny_execs_cons (wpAny_mono (h A env s₀ g₀ H g m cm s _ r o b F) (fun f s' x => ?_) fun _ _ y => y)
  cases f with
  | next => obtain ⟨τ', g', m', cm', rr, F'⟩ := x; exact rr A env s₀ g₀ H g' m' cm' s' base outer r o b F' h1 h2 h3 h4
  | brk => obtain ⟨τ', g', m', cm', rr, F'⟩ := x; exact rr.elim
  | cont => obtain ⟨τ', g', m', cm', rr, F'⟩ := x; exact rr.elim
  | ret v => obtain ⟨d, g', rr, _⟩ := x; exact rr.elim
theorem ExR.if {test : Expr} {body orelse : List Stmt} {pos : Pos} {c : Bool} (h : EvT X k sc τ test c) (h1 : c = true → ExR X k sc τ (execs body)) (h2 : c = false → ExR X k sc τ (execs orelse)) : ExR X k sc τ (exec (.If test body orelse pos)) := by
  intro A env s₀ g₀ H g m cm s base outer r o b F a1 a2 a3 a4
  refine wpAny_If (wp_seq (h A env g s _ r o.toEnvOk (b.trans F.st.gg) F.sto) fun c' s' ⟨e, k1, g', x1⟩ => ?_)
  subst e
  cases c' with
  | true => simp only [if_true]; exact h1 rfl A env s₀ g₀ H g' m cm s' base outer r o b (F.ev k1 x1) a1 a2 a3 a4
  | false => simp only [Bool.false_eq_true, if_false]; exact h2 rfl A env s₀ g₀ H g' m cm s' base outer r o b (F.ev k1 x1) a1 a2 a3 a4
theorem ExR.assign {x : Str} {px pos : Pos} {e : Expr} (h : EvR X k sc τ e) (hs : ∀ env, swapsWith e (some (.Name x px)) pos.line env = pure false := by intro _; rfl) : ExR X k sc τ (exec (.Assign [.Name x px] e pos)) := by
  intro A env s₀ g₀ H g m cm s base outer r o b F a1 a2 a3 a4
  obtain ⟨f1, f2⟩ := F.frames o a2 a3 a4
  refine wpAny_Assign_Name (wpAny_mono (h A env g s base outer r o (b.trans F.st.gg) F.sto a1 f1 f2) (fun _ _ x => x.elim) fun _ _ y => y.back (kp_state F.done) (kp_sub F.done)) (hs env)

/-- a def's call raises when its body does -/
theorem FnR.intro {f : Str} {params : Arguments} {body : List Stmt} {scope : Scope} {ds : List Dat} (D : IsDef X f params body scope) (ps : List Str) (hlen : ps.length = ds.length)
    (hbind : ∀ pm code doc (vs : List Value), vs.length = ds.length → bindArgs (docDef f params body scope pm code doc) ⟨vs, []⟩ = pure (ps.zip vs))
    (hnd : ps.Nodup) (hkinds : (ps.all fun y => scope.names.lookup y == some .local || scope.names.lookup y == some .cell) = true)
    (h : ExR X k scope (sto0 ps ds) (execs body)) (hk : scope.kind = .function := by rfl) (hco : scope.isCoroutine = false := by rfl) (hgen : scope.isGenerator = false := by rfl) : FnR X (k + 1) f ds := by
  obtain ⟨a, o, pm, code, doc, h1, h2, h3, h4⟩ := D
  refine ⟨a, o, _, h1, h2, h3, ?_⟩
  intro g s vs b0 kk r A base l rm hfr hst hff
  have hl : vs.length = ds.length := r.length
  have hz : (ps.zip vs).map (·.1) = ps := by
    rw [List.map_fst_zip]; omega
  have hkk : ∀ n, ∀ x ∈ ps.zip vs, scope.names.lookup x.1 = some .local ∨ (scope.names.lookup x.1 = some .cell ∧ ((cellsFrom n scope.names []).lookup x.1).isSome = true) := by
    refine kindsX ?_
    rw [List.all_eq_true]
    intro y hy
    exact List.all_eq_true.mp hkinds y.1 (List.of_mem_zip hy).1
  refine wpAny_call (codeAny_call_cells (a := a) rm.room (kk _ _ (b0 _ _ h2)) h3 (X.hl.keeps (b0.trans kk)) (h4.keeps (b0.trans kk)) rfl (hbind pm code doc vs hl) rfl (hkk _) (fun s₁ C => ?_) hco hgen hk)
  have oe : DefEnv (callEnvC (docDef f params body scope pm code doc) s.heap.objs.size a) scope := ⟨rfl, hk, rfl, rfl, fun x hx => cellsFrom_some _ _ _ (.inl hx)⟩
  have none_of : ∀ {b}, s.heap.objs.size ≤ b → g.get? b = none := by
    intro b hb
    cases z : g.get? b with
    | none => rfl
    | some o => exact absurd (Heap.lt_size (kk _ _ z)) (Nat.not_lt.mpr hb)
  have F : FS s g (callEnvC (docDef f params body scope pm code doc) s.heap.objs.size a) [] (sto0 ps ds) g (bindL (callEnvC (docDef f params body scope pm code doc) s.heap.objs.size a).kindOf (ps.zip vs) fun _ => none) (bindC (callEnvC (docDef f params body scope pm code doc) s.heap.objs.size a).kindOf (ps.zip vs) fun _ => none) s₁ := by
    refine ⟨C, ⟨.rfl, C.toInCall.keep, kk.trans C.toInCall.keep, fun _ _ e => .inl e⟩, none_of C.toInCall.fresh, fun n c hc => none_of (Nat.le_of_lt (Nat.lt_of_le_of_lt C.toInCall.fresh (C.above n c (mem_of_lookup hc)))), fun p hp => (nomatch hp), fun x lv e => ?_, fun x y a P mp Q mq _ e1 _ _ => ?_⟩
    · obtain ⟨v, d, hm, rfl, hr⟩ := sto0_at r e
      refine ⟨v, ?_, hr⟩
      rcases hkk (s.heap.objs.size + 1) _ hm with hq | ⟨hq, hq2⟩
      · exact .inl ⟨hq, bindL_at hq _ _ (hz.symm ▸ hnd) hm⟩
      · exact .inr ⟨hq, hq2, bindC_at hq _ _ (hz.symm ▸ hnd) hm⟩
    · obtain ⟨v, d, hm, e', hr⟩ := sto0_at r e1
      cases e'
  have hfr' : (A.deeper (callEnvC (docDef f params body scope pm code doc) s.heap.objs.size a)).frames = some (callEnvC (docDef f params body scope pm code doc) s.heap.objs.size a :: l) := Around.frames_deeper hfr
  refine wpAny_mono (h (A.deeper _) _ s g [] g _ _ s₁ base l (rm.deeper _) oe b0 F hfr' rfl hst hff) (fun fl s' x => x.elim) fun x s' hx => ?_
  exact wp_leave hfr' (L := s.heap.objs.size) rfl hx fun s'' ht => ht
end
end Mine

namespace Mine
open PySem PySem.W PyProof.Rows PySem.Calls
set_option Elab.async false
set_option maxRecDepth 100000
set_option linter.unusedVariables false

section
variable {X : Cx} {k : Nat} {A : Around} {s : Shared}
theorem decl_str_gt_bytes {x : Str} {t : Tok} {y : Array UInt8} {u : Tok} : Declines X A s "str.__gt__" (.str x t) (.bytes y u) := fun Q E h =>
  wpAny_call_entry F.slot_str_gt (typeIs_str _ _ _) F.entry_str_gt (show wpAny _ _ (do rule "str.__gt__.not-a-str"; ret .notImplemented) _ _ s from wpAny_bind (wpAny_rule (wpAny_pure ⟨_, rfl, h⟩))) (F.args_str_gt_2 _ _)

/-- two kinds of rows that min meets, v first, the best so far second -/
def Clash (d e : Dat) : Prop :=
  (tyOf e = "list" ∧ (tyOf d = "bytes" ∨ tyOf d = "tuple" ∨ tyOf d = "str" ∨ tyOf d = "int")) ∨ (tyOf e = "tuple" ∧ (tyOf d = "bytes" ∨ tyOf d = "list" ∨ tyOf d = "str" ∨ tyOf d = "int")) ∨ (tyOf e = "bytes" ∧ tyOf d = "str") ∨ (tyOf e = "str" ∧ tyOf d = "bytes")
theorem lt_clash {g : Heap} {u v : Value} {d e : Dat} {Q : Value → Shared → Prop} (hh : A.handled = none) (hu : A.units < cLine) (k : Sub g s.heap) (ru : Rep g u d) (rv : Rep g v e) (hp : Clash d e) :
    wpAny X.M A (richCompare .Lt u v) Q (Boom s.heap s) s := by
  rcases hp with hp | hp | hp | ⟨he, hd⟩
  · exact lt_mixed hh hu k ru rv (.inl hp)
  · exact lt_mixed hh hu k ru rv (.inr (.inl hp))
  · exact lt_mixed hh hu k ru rv (.inr (.inr hp))
  · have tu := ru.tyIs k
    have tv := rv.tyIs k
    rw [he] at tv
    rw [hd] at tu
    cases rv <;> simp [tyOf] at he
    cases ru <;> simp [tyOf] at hd
    exact lt_raises hh tu tv (by decide) sub_no slot_bytes_lt F.slot_str_gt (by decide) (by decide) (decl_bytes_lt tv sub_no) decl_str_gt_bytes hu (by decide) (by decide)

variable {mk : List Int → Dat} {it : Int → Dat} {ok : List Int → Prop}
/-- min of rows of one kind, and behind them one of another -/
theorem op_minR (K : SeqK X mk it ok) {rows : List (List Int)} {e : Dat} {rest : List Dat} {d : Dat} (hd : d = .list (rows.map mk ++ e :: rest) ∨ d = .tuple (rows.map mk ++ e :: rest)) (hn : rows ≠ []) (ho : ∀ r ∈ rows, ok r) (hc : ∀ r ∈ rows, Clash e (mk r)) :
    OpR X (k + 2) (fun vs => call (.builtin "min") vs) [d] := by
  intro g s vs b0 kk r A base l rm hfr hst hff
  cases r with
  | cons r rn =>
    cases rn
    refine wpAny_mono (min_raises (k := k) (q := rows.length) (bt := btLt rows) rm kk (iterOf_dat kk r hd) (by rw [List.length_append, List.length_map, List.length_cons]; omega) (List.length_pos_iff.mpr hn) ?_ ?_) (fun _ _ x => x) fun _ _ y => y.thrown hst hff
    · intro A' i j vi vj s' Q E' rm' kk' ⟨hi, di, ei, ri⟩ ⟨hj, dj, ej, rj⟩ hq
      rw [List.getElem?_append_left (by rw [List.length_map]; exact hi)] at ei
      rw [List.getElem?_append_left (by rw [List.length_map]; exact hj)] at ej
      obtain ⟨e1, m1⟩ := rowAt_get ei
      obtain ⟨e2, m2⟩ := rowAt_get ej
      subst e1; subst e2
      exact K.lt (ho _ m1) (ho _ m2) (by have := rm'.un; omega) kk' ri rj hq
    · intro A' j v b s' Q rm' kk' hj ⟨di, ei, ri⟩ ⟨dj, ej, rj⟩
      rw [List.getElem?_append_right (by rw [List.length_map]; exact Nat.le_refl _), List.length_map, Nat.sub_self, List.getElem?_cons_zero] at ei
      cases ei
      rw [List.getElem?_append_left (by rw [List.length_map]; exact hj)] at ej
      obtain ⟨e2, m2⟩ := rowAt_get ej
      subst e2
      exact lt_clash rm'.hh (by have := rm'.un; omega) kk' ri rj (hc _ m2)
end

theorem sub_TypeError_stop : isSubtype (.type "TypeError") (.type "StopIteration") = pure false := sub_no
theorem Thrown.typeIs {base K : Heap} {l : List Env} {s s' : Shared} {x : Value} (h : Thrown base l K s x s') : s'.TypeIs x "TypeError" := by
  obtain ⟨e, rfl, _, _, _, _, r, _⟩ := h
  rcases r with ⟨oe, vs, a0, g1, g2, _⟩ | ⟨a0, oe, _, _, _, _, g1, g2, _⟩
  · exact ⟨oe, g1, g2⟩
  · exact ⟨oe, g1, g2.1⟩

section
variable {prog : Program} {w : World} {A : Around} {E : Value → Shared → Prop} {s : Shared} {M T I l : Addr} {f : Value} {i : Nat} {items : Array Value} {u : Value}
theorem pyNext_map_boom {Q : Option Value → Shared → Prop} (hm : IsMap s.heap M T I l f i items) (hu : items[i]? = some u) (hMI : M ≠ I)
    (h : ∀ h', h'.IsListIter I l (i + 1) → Heap.SameBut I s.heap h' → wpAny (model prog w) A.in1 (call f [u]) (fun _ _ => False) (fun x s' => s'.TypeIs x "TypeError" ∧ E x s') { s with heap := h' }) : wpAny (model prog w) A (pyNext (.ref M)) Q E s := by
  have hT : s.TypeIs (.ref M) "map" := ⟨_, hm.m, rfl⟩
  unfold pyNext
  refine wpAny_bind (wpAny_attempt (wpAny_callSpecial?_slot (name := Str.ofString "__next__") hT slot_map_next
    (wpAny_call_entry slot_map_next hT entry_map_next (map_next hm hu hMI fun h' hit hs => wpAny_mono (h h' hit hs) (fun v s' q => q.elim) fun x s' q => ?_) (args_map_next _))))
  exact wpAny_bind (wpAny_isInstance (T := "TypeError") (b := false) q.1 sub_TypeError_stop (wpAny_throw q.2))
end

/-- a map over a list that raises at the place q -/
structure Booms (X : Cx) (A : Around) (K : Heap) (f : Value) (items : Array Value) (q : Nat) (base : Heap) (fr : List Env) : Prop where
  fine : ∀ i u (s : Shared) (Q : Value → Shared → Prop) (E : Value → Shared → Prop), i < q → items[i]? = some u → Sub K s.heap → (∀ v s', Keeps s s' → Q v s') → wpAny X.M A (call f [u]) Q E s
  boom : ∀ u (s : Shared), items[q]? = some u → Sub K s.heap → wpAny X.M A (call f [u]) (fun _ _ => False) (Thrown base fr K s) s

theorem extend_booms {X : Cx} {A : Around} {K base : Heap} {fr : List Env} {M T I l S : Addr} {f res : Value} {items : Array Value} {q : Nat} (B : Booms X A.in1.in1 K f items q base fr) (hq : q < items.size) (hz : items.size ≤ sizeLine) (hMI : M ≠ I) (hTI : T ≠ I) (hlI : l ≠ I) (hMS : M ≠ S) (hTS : T ≠ S) (hIS : I ≠ S) (hlS : l ≠ S) (kI : K.get? I = none) (kS : K.get? S = none) :
    ∀ (n i : Nat) (s : Shared) (acc : Array Value) (c : Nat), q - i = n → i ≤ q → acc.size = i → IsMap s.heap M T I l f i items → Sub K s.heap → s.heap.get? S = some { cls := .type "list", dict := none, data := .seq acc c, slots := #[] } →
    codeAny X.M A (.builtin "list.extend.loop" ⟨[.ref S, .ref M, res], []⟩) (fun r s' => ∃ x, r = .error x ∧ Thrown base fr K s x s') s := by
  intro n
  induction n with
  | zero =>
    intro i s acc c hn hi ha hm kk hS
    have hiq : i = q := by omega
    subst hiq
    refine codeAny_builtin F.entry_extend_loop ?_
    rw [Around.under_plainId F.plain_extend_loop _]
    show wpAny _ A.in1 (pyNext (.ref M) >>= _) _ _ s
    have hu : items[i]? = some items[i] := by simp [hq]
    refine wpAny_bind (pyNext_map_boom hm hu hMI fun h' hit hs => ?_)
    have k' : Sub K h' := fun b o e => (hs.2 b (fun z => by rw [z, kI] at e; cases e)).trans (kk b o e)
    exact wpAny_mono (B.boom _ { s with heap := h' } hu k') (fun _ _ x => x) fun x s' t => ⟨t.typeIs, x, rfl, t.back ⟨h', s.toks, rfl⟩ .rfl⟩
  | succ n ih =>
    intro i s acc c hn hi ha hm kk hS
    have hlt : i < q := by omega
    refine codeAny_builtin F.entry_extend_loop ?_
    rw [Around.under_plainId F.plain_extend_loop _]
    show wpAny _ A.in1 (pyNext (.ref M) >>= _) _ _ s
    have hu : items[i]? = some items[i] := by simp
    refine wpAny_bind (pyNext_map_item hm hu hMI fun h' E' hit hs => ?_)
    have k' : Sub K h' := fun b o e => (hs.2 b (fun z => by rw [z, kI] at e; cases e)).trans (kk b o e)
    refine B.fine i _ { s with heap := h' } _ _ hlt hu k' fun v s' hk => ?_
    obtain ⟨h2, tk, rfl, kp⟩ := hk
    have hS2 : h2.get? S = _ := kp _ _ ((hs.2 S (Ne.symm hIS)).trans hS)
    show wpAny _ A.in1 (updateSeq S (·.push v) >>= _) _ _ _
    refine wpAny_bind ?_
    have oth : ∀ b o, b ≠ S → h2.get? b = some o → (h2.update S (Obj.mapSeq (·.push v))).get? b = some o := fun b o hb e => (Heap.get?_update_other _ _ (Ne.symm hb)).trans e
    refine wpAny_updateSeq hS2 rfl (wpAny_pure ⟨plainId_quiet F.plain_extend_loop _, codeAny_mono (ih (i + 1) { s with heap := h2.update S (Obj.mapSeq (·.push v)), toks := tk } (acc.push v) _ (by omega) hlt (by rw [Array.size_push, ha]) ⟨?_, ?_, ?_, ?_⟩ (fun b o e => ?_) (Heap.get?_update_self _ hS2 rfl)) fun r s' ⟨x, e, t⟩ => ⟨x, e, t.back ⟨_, _, rfl⟩ .rfl⟩⟩)
      (by rw [ha]; omega) (by show (acc.push v).size ≤ sizeLine + 1; rw [Array.size_push, ha]; omega)
    · exact oth _ _ hMS (kp _ _ ((hs.2 M hMI).trans hm.m))
    · exact oth _ _ hTS (kp _ _ ((hs.2 T hTI).trans hm.t))
    · exact hit.at fun o e => oth _ _ hIS (kp _ _ e)
    · exact hm.l.at fun o e => oth _ _ hlS (kp _ _ ((hs.2 l hlI).trans e))
    · exact oth b o (fun z => by rw [z, kS] at e; cases e) (kp _ _ (k' b o e))

/-- what a map hands out, gathered, and it raises -/
theorem collect_boom {X : Cx} {A : Around} {s : Shared} {base : Heap} {fr : List Env} {K : Heap} {M T I l : Addr} {f : Value} {items : Array Value} {q : Nat} {Q : List Value → Shared → Prop} (B : Booms X A.in1.in1 K f items q base fr) (hq : q < items.size) (hz : items.size ≤ sizeLine) (hMI : M ≠ I) (hTI : T ≠ I) (hlI : l ≠ I) (kI : K.get? I = none)
    (hm : IsMap s.heap M T I l f 0 items) (kk : Sub K s.heap) : wpAny X.M A (collect (.ref M)) Q (Thrown base fr K s) s := by
  have low : ∀ {b o}, s.heap.get? b = some o → b ≠ s.heap.objs.size := fun e => Nat.ne_of_lt (Heap.lt_size e)
  have hMD := low hm.m
  have hTD := low hm.t
  have hID : I ≠ s.heap.objs.size := by obtain ⟨o, ho, _⟩ := hm.it; exact low ho
  have hlD : l ≠ s.heap.objs.size := by obtain ⟨o, ho, _⟩ := hm.l; exact low ho
  have kD : K.get? s.heap.objs.size = none := by
    cases z : K.get? s.heap.objs.size with
    | none => rfl
    | some o => exact absurd rfl (low (kk _ _ z))
  have h1 : Builtin.List.listSameRef (.ref s.heap.objs.size) (.ref M) = false := by simp [Builtin.List.listSameRef]; exact Ne.symm hMD
  have h2 : (Value.type "map" == Value.type "list") = false := by decide
  have h3 : (Value.type "map" == Value.type "tuple") = false := by decide
  generalize hD : s.heap.objs.size = D at *
  unfold collect
  refine wpAny_bind (wpAny_runValue (codeAny_builtin F.entry_proto_collect ?_))
  rw [Around.under_plainId F.plain_proto_collect _]
  show wpAny _ A.in1 (newList [] >>= fun l => again (.builtin "list.__iadd__" ⟨[l, .ref M], []⟩)) _ _ s
  refine wpAny_bind (wpAny_newObj_type ?_)
  rw [hD]
  refine wpAny_pure ⟨plainId_quiet F.plain_list_iadd _, codeAny_builtin F.entry_list_iadd ?_⟩
  rw [Around.under_plainId F.plain_list_iadd _]
  have new : (s.heap.push { cls := .type "list", data := .seq ([] : List Value).toArray }).get? D = some { cls := .type "list", data := .seq ([] : List Value).toArray } := hD ▸ Heap.get?_push_size _ rfl
  have old : ∀ b o, s.heap.get? b = some o → (s.heap.push { cls := .type "list", data := .seq ([] : List Value).toArray }).get? b = some o := fun b o e => Heap.get?_push_of_some _ e
  generalize s.heap.push { cls := .type "list", data := .seq ([] : List Value).toArray } = H at new old ⊢
  have hm1 : H.get? M = _ := old _ _ hm.m
  have hT1 : ({ s with heap := H } : Shared).TypeIs (.ref M) "map" := ⟨_, hm1, rfl⟩
  show wpAny _ A.in1 (Builtin.List.listExtendWith (.ref D) (.ref M) (.ref D)) _ _ _
  unfold Builtin.List.listExtendWith
  refine wpAny_bind (wpAny_typeOf hT1 ?_)
  simp only [h1, h2, h3, Bool.or_false, Bool.false_eq_true, if_false]
  refine wpAny_bind (pyIter_map (s := { s with heap := H }) hm1 ?_)
  refine wpAny_bind (wpAny_holding ?_)
  unfold Builtin.List.listLengthHint
  refine wpAny_bind (wpAny_specialOf hT1 nolen_map ?_)
  show wpAny _ A.in1 (specialOf (Value.ref M) (Str.ofString "__length_hint__") >>= _) _ _ _
  refine wpAny_bind (wpAny_specialOf hT1 nohint_map ?_)
  refine wpAny_pure ?_
  show wpAny _ A.in1 (rule "list.extend.makes-room" >>= fun _ => Builtin.List.listTouch (.ref D) >>= fun _ => again (.builtin "list.extend.loop" ⟨[.ref D, .ref M, .ref D], []⟩)) _ _ _
  refine wpAny_bind (wpAny_rule (wpAny_bind ?_))
  show wpAny _ A.in1 (updateSeq D (·.push .none) >>= fun _ => updateSeq D (·.pop)) _ _ _
  refine wpAny_bind (wpAny_updateSeq new rfl ?_)
  have new2 := Heap.get?_update_self (Obj.mapSeq (·.push Value.none)) new rfl
  refine wpAny_updateSeq new2 rfl ?_
  have new3 := Heap.get?_update_self (Obj.mapSeq (·.pop)) new2 rfl
  have oth : ∀ b o, b ≠ D → H.get? b = some o → ((H.update D (Obj.mapSeq (·.push Value.none))).update D (Obj.mapSeq (·.pop))).get? b = some o :=
    fun b o hb e => (Heap.get?_update_other _ _ (Ne.symm hb)).trans ((Heap.get?_update_other _ _ (Ne.symm hb)).trans e)
  generalize (H.update D (Obj.mapSeq (·.push Value.none))).update D (Obj.mapSeq (·.pop)) = H3 at new3 oth ⊢
  refine wpAny_pure ⟨plainId_quiet F.plain_extend_loop _, codeAny_mono (extend_booms B hq hz hMI hTI hlI hMD hTD hID hlD kI kD _ 0 { s with heap := H3 } _ _ rfl (Nat.zero_le _) rfl ⟨oth _ _ hMD hm1, oth _ _ hTD (old _ _ hm.t), hm.it.at fun o e => oth _ _ hID (old _ _ e), hm.l.at fun o e => oth _ _ hlD (old _ _ e)⟩ (fun b o e => oth b o (fun z => by rw [z, kD] at e; cases e) (old _ _ (kk b o e))) new3) fun r s' ⟨x, e, t⟩ => ?_⟩
  subst e
  exact t.back ⟨_, _, rfl⟩ .rfl

theorem tuple_map_boom {X : Cx} {A : Around} {s : Shared} {base : Heap} {fr : List Env} {K : Heap} {M T I l : Addr} {f : Value} {items : Array Value} {q : Nat} {Q : Value → Shared → Prop} (B : Booms X A.in1.in1.in1.in1 K f items q base fr) (hq : q < items.size) (hz : items.size ≤ sizeLine) (hMI : M ≠ I) (hTI : T ≠ I) (hlI : l ≠ I) (kI : K.get? I = none)
    (hm : IsMap s.heap M T I l f 0 items) (kk : Sub K s.heap) : wpAny X.M A (call (.type "tuple") [.ref M]) Q (Thrown base fr K s) s := by
  refine callType_newIn (S := fun A' R s' => A' = A.in1 ∧ s' = s ∧ ∀ x s'', Thrown base fr K s x s'' → R (.error x) s'')
    F.called_tuple (by decide) (F.typeCall_tuple_1 _) (F.newCall_tuple_1 _) (fun obj => F.args_object_init_2 obj _) F.entry_tuple_new (.of_wp fun A' R s' ⟨e1, e2, h⟩ => ?_) ⟨rfl, rfl, fun x s'' t => t⟩
  subst e1; subst e2
  have hsub := sub_tuple_self
  have hinit := init_tuple_lookup
  have hmh := madeHere_tuple
  have hTs : s'.TypeIs (.ref M) "map" := ⟨_, hm.m, rfl⟩
  have go : ∀ {Q : List Value → Shared → Prop}, wpAny X.M A.in1.in1 (collect (.ref M)) Q (fun e s'' => R (.error e) s'') s' := wpAny_mono (collect_boom B hq hz hMI hTI hlI kI hm kk) (fun _ _ x => x) fun x s'' t => h x s'' t
  wp_walk using wpAny_typeOf hTs, go
end Mine

namespace Mine
open PySem PySem.W PyProof.Rows PySem.Calls
set_option Elab.async false
set_option maxRecDepth 100000
set_option linter.unusedVariables false

section
variable {X : Cx} {k : Nat} {sc : Scope} {σ : Sto}
/-- tuple(map(f, m)) where f raises -/
theorem EvR.tupleMap {ft fm ff : Str} {pt pm pf p1 p2 : Pos} {em : Expr} {pre rest : List Dat} {e : Dat} (ht : EvP X (k + 4) sc σ (.Name ft pt) fun _ u => u = .type "tuple") (hmn : EvP X (k + 4) sc σ (.Name fm pm) fun _ u => u = .type "map") (hm : Ev X (k + 4) sc σ em (.list (pre ++ e :: rest)))
    (hk : sc.names.lookup ff = some .globalImplicit) (hf : ∀ d ∈ pre, FnD X k ff [d] d) (hr : FnR X k ff [e]) (hz : (pre ++ e :: rest).length ≤ sizeLine) (hp : plainE em = true := by rfl)
    (hd : (ff == ("__debug__" : Str)) = false := by decide) : EvR X (k + 4) sc σ (.Call (.Name ft pt) [.Call (.Name fm pm) [.Name ff pf, em] [] p1] [] p2) := by
  intro A env g s base outer rm o bs q hfr hst hff
  refine wpAny_Call_NameR (wp_ev (ht A env g s _ rm o bs q) fun u g1 s1 k1 x1 p1' => ?_)
  subst p1'
  refine callWith_of (P := fun h => True) (by rw [plain_any p2 env (es := [.Call (.Name fm pm) [.Name ff pf, em] [] p1]) (by rfl)]; rfl) (fun h _ => ⟨.machine, .inr (.inl rfl), Looks.of_pure rfl⟩) ?_
  rw [starEach_plain rfl]
  refine evalArgs_plain (spliced_cons (wpAny_Call_NameR (wp_ev (hmn A env g1 s1 _ rm o (bs.trans x1.gg) (q.step x1)) fun u g2 s2 k2 x2 p2' => ?_)))
  subst p2'
  have bs2 := (bs.trans x1.gg).trans x2.gg
  have q2 := (q.step x1).step x2
  refine callWith_of (P := fun h => True) (by rw [plain_any p1 env (es := [.Name ff pf, em]) (by rw [List.all_cons, List.all_cons, hp]; rfl)]; rfl) (fun h _ => ⟨.machine, .inr (.inl rfl), Looks.of_pure rfl⟩) ?_
  obtain ⟨fa, ob, fd, h1, h2, h3, hop⟩ := hr
  rw [starEach_plain (e := .Name ff pf) rfl]
  refine evalArgs_plain (spliced_cons (wp_ev (EvP.global hk h1 hd A env g2 s2 _ rm o bs2 q2) fun u g3 s3 k3 x3 p3' => ?_))
  subst p3'
  rw [starEach_plain hp]
  show wpAny _ _ (spliced ((false, eval em env) :: backTo p1 (starEach [] env))) _ _ _
  refine spliced_cons (wp_ev (hm A env g3 s3 _ rm o (bs2.trans x3.gg) (q2.step x3)) fun v g4 s4 k4 x4 p4 => wpAny_items_nil ⟨trivial, ?_⟩)
  have xx := x1.trans (x2.trans (x3.trans x4))
  have kk := kp_trans k1 (kp_trans k2 (kp_trans k3 k4))
  have bs4 : Sub X.h0 g4 := bs.trans xx.gg
  cases p4 with
  | list il r =>
    rename_i l vs
    have il4 := isList_sub x4.gh il
    refine call_map_list (f := .ref fa) il4 fun h' hk' hM => wpAny_items_nil ⟨trivial, ?_⟩
    have lt_of : ∀ {b : Addr} {o' : Obj}, s4.heap.get? b = some o' → b < s4.heap.objs.size := fun e => Heap.lt_size e
    have s4I : s4.heap.get? s4.heap.objs.size = none := fresh_size
    have llt : l < s4.heap.objs.size := let ⟨o', ho', _⟩ := il4; lt_of ho'
    have rm3 : Room A.in1.in1.in1 (k + 1) := ((show Room A ((k + 1) + 1 + 1 + 1) from rm).in1).in1.in1
    have hl := r.length
    have st4 : base.StaysIn s4.heap := fun b o z => xx.hh b o (hst b o z)
    have ff4 : s4.heap.FunFrames base (env :: outer) := ff_keeps xx.hh hff
    refine wpAny_mono (tuple_map_boom (s := { s4 with heap := h' }) (base := base) (fr := env :: outer) (K := s4.heap) (q := pre.length) (items := vs.toArray) (M := s4.heap.objs.size + 2) (T := s4.heap.objs.size + 1) (I := s4.heap.objs.size) (l := l) (f := .ref fa) (Q := fun _ _ => False)
      ⟨fun i u s' Q' E' hi hu hs0 hq => ?_, fun u s' hu hs0 => ?_⟩ (by rw [List.size_toArray, hl, List.length_append, List.length_cons]; omega) (by rw [List.size_toArray, hl]; exact hz)
      (by intro e; have : s4.heap.objs.size + 2 = s4.heap.objs.size := e; omega) (by intro e; have : s4.heap.objs.size + 1 = s4.heap.objs.size := e; omega) (Nat.ne_of_lt llt) s4I hM hk') (fun _ _ x => x.elim) fun x s' t => t.back (state_back (kp_state kk) ⟨h', _, rfl⟩) xx.hh
    · have hu' : vs[i]? = some u := by simpa using hu
      obtain ⟨d, hd1, hr1⟩ := r.get' hu'
      rw [List.getElem?_append_left hi] at hd1
      obtain ⟨fa', ob', fd', q1, q2', q3, hop'⟩ := hf d (List.mem_of_getElem? hd1)
      have : fa' = fa := by rw [h1] at q1; cases q1; rfl
      subst this
      exact wpAny_mono (hop' g4 s' [u] bs4 (x4.gh.trans hs0) (.one hr1) A.in1.in1.in1.in1 E' rm3.in1) (fun v s'' ⟨k5, _⟩ => hq v s'' k5) fun _ _ y => y
    · have hu' : vs[pre.length]? = some u := by simpa using hu
      obtain ⟨d, hd1, hr1⟩ := r.get' hu'
      rw [List.getElem?_append_right (Nat.le_refl _), Nat.sub_self, List.getElem?_cons_zero] at hd1
      cases hd1
      exact wpAny_mono (hop g4 s' [u] bs4 (x4.gh.trans hs0) (.one hr1) A.in1.in1.in1.in1 base (env :: outer) rm3.in1 hfr (fun b o z => hs0 b o (st4 b o z)) (ff_keeps hs0 ff4)) (fun _ _ x => x) fun x s'' t => (t.back ⟨_, _, rfl⟩ hs0).thrown
end
end Mine

namespace Mine
open PySem PySem.W PyProof.Rows PySem.Calls
set_option Elab.async false
set_option maxRecDepth 100000
set_option linter.unusedVariables false

section
variable {X : Cx} {k : Nat} {sc : Scope} {σ τ : Sto}

/-- a piece of the body of a def that is called from outside: nothing around it -/
def ExS (X : Cx) (k : Nat) (sc : Scope) (τ : Sto) (t : Env → Sem Flow) (R : Out → Prop) : Prop :=
  ∀ (A : Around) (env : Env) (s₀ : Shared) (g₀ : Heap) (H : List (Addr × Obj)) (g : Heap) (m cm : Str → Option Value) (s : Shared) (E : Value → Shared → Prop),
    Room A k → DefEnv env sc → Sub X.h0 g₀ → FS s₀ g₀ env H τ g m cm s → Sub g₀ s₀.heap → A.frames = some [env] → env.frame = some env.locals → wpAny X.M A (t env) (OutIs s₀ g₀ env H R) E s
theorem Ex.exS {t : Env → Sem Flow} {R : Out → Prop} (h : Ex X k sc τ t R) : ExS X k sc τ t R := fun A env s₀ g₀ H g m cm s E r o b F _ _ _ => h A env s₀ g₀ H g m cm s E r o b F
def ThenS (X : Cx) (k : Nat) (sc : Scope) (rest : List Stmt) (R : Out → Prop) : Out → Prop
  | .next τ => ExS X k sc τ (execs rest) R
  | o => R o
theorem ExS.cons {st : Stmt} {rest : List Stmt} {R : Out → Prop} (h : Ex X k sc τ (exec st) (ThenS X k sc rest R)) : ExS X k sc τ (execs (st :: rest)) R := by
  intro A env s₀ g₀ H g m cm s E r o b F h0 h1 h2
  refine wpAny_execs_cons (wpAny_mono (h A env s₀ g₀ H g m cm s E r o b F) (fun f s' x => ?_) fun _ _ y => y)
  cases f with
  | next => obtain ⟨τ', g', m', cm', rr, F'⟩ := x; exact rr A env s₀ g₀ H g' m' cm' s' E r o b F' h0 h1 h2
  | brk => exact x
  | cont => exact x
  | ret v => exact x
theorem ExS.first {st : Stmt} {rest : List Stmt} {R : Out → Prop} (h : ExS X k sc τ (exec st) fun o => match o with | .ret d => R (.ret d) | _ => False) : ExS X k sc τ (execs (st :: rest)) R := by
  intro A env s₀ g₀ H g m cm s E r o b F h0 h1 h2
  refine wpAny_execs_cons (wpAny_mono (h A env s₀ g₀ H g m cm s E r o b F h0 h1 h2) (fun f s' x => ?_) fun _ _ y => y)
  cases f with
  | next => obtain ⟨τ', g', m', cm', rr, F'⟩ := x; exact rr.elim
  | brk => obtain ⟨τ', g', m', cm', rr, F'⟩ := x; exact rr.elim
  | cont => obtain ⟨τ', g', m', cm', rr, F'⟩ := x; exact rr.elim
  | ret v => obtain ⟨d, g', rr, q⟩ := x; exact ⟨d, g', rr, q⟩

/-- try: body, and it goes well -/
theorem Ex.try {body : List Stmt} {h₀ : ExceptHandler} {hs : List ExceptHandler} {pos : Pos} {R : Out → Prop} (h : Ex X k sc τ (execs body) R) : Ex X k sc τ (exec (.Try body (h₀ :: hs) [] [] pos)) R := by
  intro A env s₀ g₀ H g m cm s E r o b F
  refine wpAny_Try_except (wpAny_mono (h A env s₀ g₀ H g m cm s _ r o b F) (fun f s' x => ?_) fun _ _ y => y)
  cases f with
  | next => exact wpAny_execs_nil x
  | brk => exact x
  | cont => exact x
  | ret v => exact x

/-- try: y = e, e raises; except TypeError: return z -/
theorem ExS.try {y z t : Str} {py pa pz pt pr ph pos : Pos} {e : Expr} {hs : List ExceptHandler} {d : Bool} {R : Out → Prop} (h : EvRT X k sc τ e) (hz : τ.lookup z = some (.dat (.bool d))) (hr : R (.ret (.bool d)))
    (ht : sc.names.lookup t = some .globalImplicit) (hm : X.mg t = none) (hb : bootBuiltins t = some (.type "TypeError")) (hn : t ≠ "__name__") (hzl : sc.names.lookup z = some .local) (hdt : (t == ("__debug__" : Str)) = false := by decide) (hdz : (z == ("__debug__" : Str)) = false := by decide)
    (hs' : ∀ env, swapsWith e (some (.Name y py)) pa.line env = pure false := by intro _; rfl) :
    ExS X k sc τ (exec (.Try [.Assign [.Name y py] e pa] (.ExceptHandler (some (.Name t pt)) none [.Return (some (.Name z pz)) pr] ph :: hs) [] [] pos)) R := by
  intro A env s₀ g₀ H g m cm s E r o b F hg0 hfr hf
  obtain ⟨f1, f2⟩ := F.frames (base := s₀.heap) (outer := []) o hf (fun _ _ x => x) trivial
  refine wpAny_Try_except (wpAny_execs_cons (wpAny_Assign_Name (wpAny_mono (h A env g s s₀.heap [] r o (b.trans F.st.gg) F.sto hfr f1 f2) (fun _ _ x => x.elim) fun x s1 th => ?_) (hs' env)))
  obtain ⟨e0, a0, rfl, hF, hu, h1, t1, rfl⟩ := th
  refine wpAny_looks_onW hfr hf hF fun h2 hH2 hu2 => wpAny_landsW hH2 fun h3 hF3 hu3 => ?_
  have hu3' : s.heap.UpToSlots h3 := (hu.trans hu2).trans hu3
  have sub3 : Sub s₀.heap h3 := hF3.1
  have b3 : Sub X.h0 h3 := (b.trans hg0).trans sub3
  have hT : ({ s with heap := h3, toks := t1 } : Shared).TypeIs (.ref e0) "TypeError" := hF3.there
  refine wpAny_handleBy_builtin (X := "TypeError") (T := "TypeError") (b := true) PySem.F.isExc_TypeError PySem.F.notTuple_TypeError (by rw [isSubtype_type]; kernel_rfl) ?_
  refine Name_function_global o.ek (o.kindOf ht) (loadGlobal_builtin (o.glob ▸ X.hg.keeps b3) hm (o.bi ▸ X.hb.keeps b3) ((X.hbi t hn).trans hb) ⟨rfl, hT, ?_⟩) hdt
  simp only [if_true]
  refine lands_againW hF3 fun h4 hF4 hu4 => ?_
  obtain ⟨v, hv, lv⟩ := F.var z _ hz
  have lv' : Rep g v (.bool d) := lv
  cases lv'
  have hmz : m z = some (.bool d) := by
    rcases hv with ⟨_, q⟩ | ⟨q, _⟩
    · exact q
    · rw [o.kindOf hzl] at q; cases q
  have ns4 := (hu3'.trans hu4).ns F.call.toInCall.ns
  refine wpAny_execs_cons (wpAny_Return_some (wpAny_Name (wpAny_loadName_local o.ek (o.kindOf hzl) ns4 hmz ?_) hdz))
  have sub4 : Sub s₀.heap h4 := hF4.1
  obtain ⟨hh0, tt0, e0', _⟩ := F.done
  subst e0'
  exact ⟨.bool d, g₀, hr, ⟨h4, t1, rfl, sub4⟩, ⟨.rfl, sub4, hg0.trans sub4, fun _ _ e => .inl e⟩, .bool _⟩

/-- a def that is called from outside -/
def FnS (X : Cx) (k : Nat) (f : Str) (ds : List Dat) (P : Heap → Value → Prop) : Prop :=
  ∃ a o fd, X.mg f = some (.ref a) ∧ X.h0.get? a = some o ∧ o.data = .func fd ∧ ∀ (g : Heap) (s : Shared) (vs : List Value), Sub X.h0 g → Sub g s.heap → RepAll g vs ds → ∀ (A : Around) (E : Value → Shared → Prop), Room A k → A.frames = some [] → wpAny X.M A (call (.ref a) vs) (Post g s P) E s
theorem FnS.intro {f : Str} {params : Arguments} {body : List Stmt} {scope : Scope} {ds : List Dat} {P : Dat → Prop} (D : IsDef X f params body scope) (ps : List Str) (hlen : ps.length = ds.length)
    (hbind : ∀ pm code doc (vs : List Value), vs.length = ds.length → bindArgs (docDef f params body scope pm code doc) ⟨vs, []⟩ = pure (ps.zip vs))
    (hnd : ps.Nodup) (hkinds : (ps.all fun y => scope.names.lookup y == some .local || scope.names.lookup y == some .cell) = true)
    (h : ExS X k scope (sto0 ps ds) (execs body) (FnOut P)) (hk : scope.kind = .function := by rfl) (hco : scope.isCoroutine = false := by rfl) (hgen : scope.isGenerator = false := by rfl) :
    FnS X (k + 1) f ds fun g v => ∃ d, P d ∧ Rep g v d := by
  obtain ⟨a, o, pm, code, doc, h1, h2, h3, h4⟩ := D
  refine ⟨a, o, _, h1, h2, h3, ?_⟩
  intro g s vs b0 kk r A E rm hfr
  have hl : vs.length = ds.length := r.length
  have hz : (ps.zip vs).map (·.1) = ps := by
    rw [List.map_fst_zip]; omega
  have hkk : ∀ n, ∀ x ∈ ps.zip vs, scope.names.lookup x.1 = some .local ∨ (scope.names.lookup x.1 = some .cell ∧ ((cellsFrom n scope.names []).lookup x.1).isSome = true) := by
    refine kindsX ?_
    rw [List.all_eq_true]
    intro y hy
    exact List.all_eq_true.mp hkinds y.1 (List.of_mem_zip hy).1
  refine wpAny_call (codeAny_call_cells (a := a) rm.room (kk _ _ (b0 _ _ h2)) h3 (X.hl.keeps (b0.trans kk)) (h4.keeps (b0.trans kk)) rfl (hbind pm code doc vs hl) rfl (hkk _) (fun s₁ C => ?_) hco hgen hk)
  have oe : DefEnv (callEnvC (docDef f params body scope pm code doc) s.heap.objs.size a) scope := ⟨rfl, hk, rfl, rfl, fun x hx => cellsFrom_some _ _ _ (.inl hx)⟩
  have none_of : ∀ {b}, s.heap.objs.size ≤ b → g.get? b = none := by
    intro b hb
    cases z : g.get? b with
    | none => rfl
    | some o => exact absurd (Heap.lt_size (kk _ _ z)) (Nat.not_lt.mpr hb)
  have F : FS s g (callEnvC (docDef f params body scope pm code doc) s.heap.objs.size a) [] (sto0 ps ds) g (bindL (callEnvC (docDef f params body scope pm code doc) s.heap.objs.size a).kindOf (ps.zip vs) fun _ => none) (bindC (callEnvC (docDef f params body scope pm code doc) s.heap.objs.size a).kindOf (ps.zip vs) fun _ => none) s₁ := by
    refine ⟨C, ⟨.rfl, C.toInCall.keep, kk.trans C.toInCall.keep, fun _ _ e => .inl e⟩, none_of C.toInCall.fresh, fun n c hc => none_of (Nat.le_of_lt (Nat.lt_of_le_of_lt C.toInCall.fresh (C.above n c (mem_of_lookup hc)))), fun p hp => (nomatch hp), fun x lv e => ?_, fun x y a P mp Q mq _ e1 _ _ => ?_⟩
    · obtain ⟨v, d, hm, rfl, hr⟩ := sto0_at r e
      refine ⟨v, ?_, hr⟩
      rcases hkk (s.heap.objs.size + 1) _ hm with hq | ⟨hq, hq2⟩
      · exact .inl ⟨hq, bindL_at hq _ _ (hz.symm ▸ hnd) hm⟩
      · exact .inr ⟨hq, hq2, bindC_at hq _ _ (hz.symm ▸ hnd) hm⟩
    · obtain ⟨v, d, hm, e', hr⟩ := sto0_at r e1
      cases e'
  have hfr' : (A.deeper (callEnvC (docDef f params body scope pm code doc) s.heap.objs.size a)).frames = some [callEnvC (docDef f params body scope pm code doc) s.heap.objs.size a] := Around.frames_deeper hfr
  refine wpAny_mono (h (A.deeper _) _ s g [] g _ _ s₁ _ (rm.deeper _) oe b0 F kk hfr' rfl) (fun fl s' x => ?_) fun _ _ y => y
  cases fl with
  | next =>
    obtain ⟨τ', g', m', cm', rr, F'⟩ := x
    exact ⟨F'.done, g', F'.st, .none, rr, .none⟩
  | brk => obtain ⟨_, _, _, _, rr, _⟩ := x; exact rr.elim
  | cont => obtain ⟨_, _, _, _, rr, _⟩ := x; exact rr.elim
  | ret v =>
    obtain ⟨d, g', rr, k1, x1, r1⟩ := x
    exact ⟨k1, g', x1, d, rr, r1⟩
end

theorem law_endsS {X : Cx} {k : Nat} {f : Str} {ns : List Int} {c : ClaimW} {cl : Str → Option Addr} {mean : ExcName → Option Value} {args : List WData} {s₁ : Shared} {fa l : Addr} {A : Around} {E : Value → Shared → Prop}
    (hf : FnS X k f [dList ns] fun g v => ∃ d, d = .bool true ∧ Rep g v d) (hfa : X.mg f = some (.ref fa)) (hX : X.h0 = s₁.heap) (r : Rep s₁.heap (.ref l) (dList ns)) (hg : s₁.gens = #[]) (rm : Room A k) (hfr : A.frames = some [])
    (hr : ∀ cls, c.raises args cls = false) (hp : c.post args (.bool true) args = true) :
    wpAny X.M A (call (.ref fa) [.ref l]) (fun v s' => GoodWG c cl mean args s₁ (.ok (.ret v)) s') E s₁ := by
  obtain ⟨a, o, fd, h1, h2, h3, hop⟩ := hf
  have e : a = fa := by rw [hfa] at h1; cases h1; rfl
  subst e
  refine wpAny_mono (hop s₁.heap s₁ [.ref l] (hX ▸ .rfl) .rfl (.one r) A E rm hfr) (fun v s' x => ?_) fun _ _ y => y
  obtain ⟨k1, g', x1, d, hd, p⟩ := x
  subst hd
  cases p
  obtain ⟨h', tk, rfl, kp⟩ := k1
  exact GoodW.toG ⟨.inl ⟨_, .bool true, [], rfl, hr, .bool true, hp, fun _ => ⟨List.nodup_nil, fun _ h => (nomatch h)⟩⟩, kp, rfl, hg⟩
end Mine

namespace Mine
open PySem PySem.W PyProof.Rows PySem.Calls
set_option Elab.async false
set_option maxRecDepth 100000
set_option linter.unusedVariables false

theorem raiseStr_attr {α : Type} {M : Model} {A : Around} {E : Value → Shared → Prop} {s : Shared} {msg : Str} {Q : α → Shared → Prop} (hh : A.handled = none) (hm : msg.length ≤ sizeLine)
    (h : ∀ h' tk e, Heap.NewExcOf s.heap h' e "AttributeError" → E (.ref e) { s with heap := h', toks := tk }) : wpAny M A (raiseErrorStr "AttributeError" msg : Sem α) Q E s := by
  unfold raiseErrorStr
  refine wpAny_bind (wpAny_mkStr (wpAny_bind ?_) hm)
  unfold newExc newTuple
  refine wpAny_bind (wpAny_newObj_type ?_ (by size_fits))
  refine wpAny_bind (m := firstArgMember _ _) (wpAny_of_eq (a := Value.none) (by simp only [firstArgMember, attrError_no_first]; rfl) ?_)
  rw [ownMembersOf_AttributeError]
  refine wpAny_newObj_type ?_ (by size_fits)
  unfold raiseNew
  refine wpAny_bind (wpAny_handled ?_)
  rw [hh]
  first
    | refine wpAny_throw ?_
    | refine wpAny_bind (wpAny_pure (wpAny_throw ?_))
  exact h _ _ _ ⟨fun b o hb => Heap.get?_push_of_some _ (Heap.get?_push_of_some _ hb), Heap.get?_none_of_le (by simp), _, _, Heap.get?_push_size _ rfl, rfl, rfl, rfl⟩

section
variable {X : Cx} {A : Around} {E : Value → Shared → Prop} {s : Shared} {T : String} {name : Str}
/-- a type's attribute that is not there -/
theorem tga_miss {tk : Tok} {Q : PySem.Fin → Shared → Prop} (hh : A.handled = none) (hs : Manifest.isStub T = false) (ht : typeOf (.type T) = pure (.type "type")) (h1 : typeLookup (.type "type") name = pure none) (h2 : typeLookup (.type T) name = pure none)
    (hn : name.length ≤ 1000) (hT : ∀ n, typeName (.type T) = pure n → n.length ≤ 1000) (hTn : ∃ n, typeName (.type T) = pure n)
    (h : ∀ h' tk e, Heap.NewExcOf s.heap h' e "AttributeError" → E (.ref e) { s with heap := h', toks := tk }) : wpAny X.M A (Builtin.«type.__getattribute__» ⟨[.type T, .str name tk], []⟩) Q E s := by
  have hstub : opaqueClassAbove (.type T) = pure none := by unfold opaqueClassAbove; dsimp only; rw [hs]; rfl
  obtain ⟨n, en⟩ := hTn
  have hn2 := hT n en
  obtain ⟨hp, g, d, t, os⟩ := s
  unfold Builtin.«type.__getattribute__»
  refine wpAny_bind (wpAny_pure (wpAny_bind (wpAny_of_eq hstub (wpAny_bind (wpAny_of_eq ht (wpAny_bind (wpAny_of_eq h1 (wpAny_bind (wpAny_pure (wpAny_bind (wpAny_of_eq h2 ?_)))))))))))
  refine wpAny_bind (wpAny_rule (wpAny_bind ?_))
  refine wpAny_of_eq (a := n) en ?_
  refine raiseStr_attr hh ?_ h
  rw [strLen_append, strLen_append, PySem.ofString_length, PySem.ofString_length, sizeLine_eq]
  simp only [String.length_append, toString]
  have e1 : "type object '".length ≤ 100 := by decide
  have e2 : "' has no attribute '".length ≤ 100 := by decide
  have e3 : "'".length ≤ 100 := by decide
  omega

theorem getAttrBy_miss {tk : Tok} {Q : Option Value → Shared → Prop} (hh : A.handled = none) (hs : Manifest.isStub T = false) (ht : typeOf (.type T) = pure (.type "type")) (h1 : typeLookup (.type "type") name = pure none) (h2 : typeLookup (.type T) name = pure none)
    (hn : name.length ≤ 1000) (hT : ∀ n, typeName (.type T) = pure n → n.length ≤ 1000) (hTn : ∃ n, typeName (.type T) = pure n)
    (h : ∀ h' tk, Sub s.heap h' → Q none { s with heap := h', toks := tk }) : wpAny X.M A (getAttrBy? (.type T) (.str name tk)) Q E s := by
  unfold getAttrBy?
  refine wpAny_bind (wpAny_attempt ?_)
  unfold getAttrBy
  refine wpAny_holding (wpAny_bind (wpAny_of_eq ht (wpAny_bind (wpAny_of_eq (KF.slot_tga.lookup) ?_))))
  dsimp only
  rw [show (onTheHeap (Value.type "type") && Value.builtin "type.__getattribute__" == Value.builtin "object.__getattribute__") = false from rfl, if_neg (by decide)]
  unfold getAttrByItsOwn
  refine wpAny_bind (wpAny_of_eq (a := none) rfl ?_)
  refine wpAny_bind (wpAny_attempt (wpAny_holding ?_))
  unfold callGetattribute
  rw [show (false && onTheHeap (Value.builtin "type.__getattribute__")) = false from rfl, if_neg (by decide)]
  unfold boundAndCalled
  rw [KF.slot_tga.bind]
  refine wpAny_bind (wpAny_pure ?_)
  show wpAny _ _ (call (.builtin "type.__getattribute__") [.type T, .str name tk]) _ _ _
  refine wpAny_call_entry KF.slot_tga (show s.TypeIs (.type T) "type" from ht) KF.entry_tga (tga_miss (A := A.in1) hh hs ht h1 h2 hn hT hTn fun h' tk' e ne => ?_) (KF.args_tga _ _)
  obtain ⟨ob, vs, g1, g2, g3, g4⟩ := ne.there
  have hTe : ({ s with heap := h', toks := tk' } : Shared).TypeIs (.ref e) "AttributeError" := ⟨ob, g1, g2⟩
  dsimp only
  unfold getattributeRaised
  refine wpAny_bind (wpAny_isInstance hTe sub_AttributeError ?_)
  simp only [if_true]
  refine wpAny_bind (m := hookBehind _ _) (wpAny_of_eq (a := none) (show typeLookup (.type "type") "__getattr__" = pure none by rw [typeLookup_type, builtinLookup_eq_fast]; kernel_rfl) ?_)
  unfold hookOrError attributeErrorLeaves
  simp only [Bool.not_false, if_true]
  refine wpAny_throw ?_
  refine wpAny_bind (wpAny_isInstance hTe sub_AttributeError ?_)
  simp only [if_true]
  exact wpAny_pure (h h' tk' ne.keeps)

theorem args_getattr_3 (a b c : Value) : argsOk "getattr" ⟨[a, b, c], []⟩ := by unfold argsOk; kernel_rfl
/-- getattr(a type, '__fspath__', None) -/
theorem call_getattr_fs {tk : Tok} {Q : Value → Shared → Prop} (hh : A.handled = none) (hs : Manifest.isStub T = false) (ht : typeOf (.type T) = pure (.type "type")) (h2 : typeLookup (.type T) "__fspath__" = pure none)
    (hT : ∀ n, typeName (.type T) = pure n → n.length ≤ 1000) (hTn : ∃ n, typeName (.type T) = pure n) (h : ∀ h' tk, Sub s.heap h' → Q .none { s with heap := h', toks := tk }) :
    wpAny X.M A (call (.builtin "getattr") [.type T, .str "__fspath__" tk, .none]) Q E s := by
  refine call_function_tree KB.kind_getattr KB.plain_getattr KB.entry_getattr (args_getattr_3 _ _ _) ?_
  unfold Builtin.«getattr»
  refine wpAny_bind (wpAny_of_eq (a := [.type T, .str "__fspath__" tk, .none]) rfl ?_)
  refine wpAny_bind (wpAny_of_eq (a := ()) rfl ?_)
  refine wpAny_bind (wpAny_of_eq (a := none) (by rfl) ?_)
  refine wpAny_bind (wpAny_of_eq (a := 0) rfl ?_)
  refine wpAny_ite_split (fun q => absurd q (by decide)) fun _ => ?_
  refine wpAny_bind (getAttrBy_miss (X := X) (A := A.in1) hh hs ht (by rw [typeLookup_type, builtinLookup_eq_fast]; kernel_rfl) h2 (by decide) hT hTn fun h' tk' k => ?_)
  exact wpAny_pure (h h' tk' k)
end
end Mine

namespace Mine
open PySem PySem.W PyProof.Rows PySem.Calls Builtin
set_option Elab.async false
set_option maxRecDepth 100000
set_option linter.unusedVariables false

section
variable {X : Cx} {A : Around} {E : Value → Shared → Prop} {s : Shared} {T q : String}
theorem emptyIn {h : Heap} : Frag.In [] h := fun a o e => by cases e
theorem type_name {expr : Bool} {Q : Value → Shared → Prop} (ht : typeOf (.type T) = pure (.type "type")) (hs : Manifest.isStub T = false)
    (e : findCls [] (.type T) (.type "type") "__name__" = some (.get (.builtin "getset_descriptor.__get__") (.builtin "type.__name__") (.type T) (.type "type"))) (hq : ktynFast T = q) (hz : (Str.ofString q).length ≤ sizeLine)
    (h : ∀ tk u, Q (.str (Str.ofString q) tk) { s with toks := u }) : wpAny X.M A (getAttr (.type T) "__name__" expr) Q E s := by
  have Y : Frag.In [] s.heap := emptyIn
  have hstub : opaqueClassAbove (.type T) = pure none := by unfold opaqueClassAbove; dsimp only; rw [hs]; rfl
  have L0 : Looks X.M s.heap (typeOf (.type T)) (.type "type") := Looks.of_pure ht
  have LO : Looks X.M s.heap (opaqueClassAbove (.type T)) none := Looks.of_pure hstub
  have hg : findIn [] (.type "type") "__getattribute__" = some (some (.builtin "type.__getattribute__")) := type_tga
  refine cls_open Y LO L0 hg (looks_hook Y (r := none) (by rfl)) (by show subIn [] _ _ = _; rfl) e ?_
  show wpAny _ _ (do ret (← holding [Value.builtin "type.__name__"] (call (.builtin "getset_descriptor.__get__") [.builtin "type.__name__", .type T, .type "type"]))) _ _ _
  refine wpAny_bind (wpAny_holding (wpAny_call (ktyn_get (s := { s with toks := s.toks + 1 }) ht hq hz ?_)))
  exact wpAny_pure (handed_on rfl (h _ _))
theorem name_list : findCls [] (.type "list") (.type "type") "__name__" = some (.get (.builtin "getset_descriptor.__get__") (.builtin "type.__name__") (.type "list") (.type "type")) := by kernel_rfl
theorem name_tuple : findCls [] (.type "tuple") (.type "type") "__name__" = some (.get (.builtin "getset_descriptor.__get__") (.builtin "type.__name__") (.type "tuple") (.type "type")) := by kernel_rfl
theorem name_int : findCls [] (.type "int") (.type "type") "__name__" = some (.get (.builtin "getset_descriptor.__get__") (.builtin "type.__name__") (.type "int") (.type "type")) := by kernel_rfl
theorem fast_list : ktynFast "list" = "list" := by with_unfolding_all decide +kernel
theorem fast_tuple : ktynFast "tuple" = "tuple" := by with_unfolding_all decide +kernel
theorem fast_int : ktynFast "int" = "int" := by with_unfolding_all decide +kernel
theorem nofs_list : typeLookup (.type "list") "__fspath__" = pure none := by rw [typeLookup_type, builtinLookup_eq_fast]; kernel_rfl
theorem nofs_tuple : typeLookup (.type "tuple") "__fspath__" = pure none := by rw [typeLookup_type, builtinLookup_eq_fast]; kernel_rfl
theorem nofs_int : typeLookup (.type "int") "__fspath__" = pure none := by rw [typeLookup_type, builtinLookup_eq_fast]; kernel_rfl
theorem meta_list : typeOf (.type "list") = pure (.type "type") := F.isi_meta_list
theorem meta_tuple : typeOf (.type "tuple") = pure (.type "type") := F.isi_meta_tuple
theorem meta_int : typeOf (.type "int") = pure (.type "type") := F.isi_meta_int
theorem tn_list : typeName (.type "list") = pure "list" := by kernel_rfl
theorem tn_tuple : typeName (.type "tuple") = pure "tuple" := by kernel_rfl
theorem tn_int : typeName (.type "int") = pure "int" := by kernel_rfl
end
end Mine

namespace Mine
open PySem PySem.W PyProof.Rows PySem.Calls
set_option Elab.async false
set_option maxRecDepth 100000
set_option linter.unusedVariables false

section
variable {X : Cx} {k : Nat} {sc : Scope} {σ τ : Sto}

/-- l is r, of values that stand by themselves -/
theorem EvT.is {l r : Expr} {pos : Pos} {u w : Value} {b : Bool} (hl : EvP X k sc σ l fun _ v => v = u) (hr : EvP X k sc σ r fun _ v => v = w) (hp : plainIs u w = true) (hb : (u == w) = b) (hm : behindInMarks .Is r = false := by with_unfolding_all rfl) : EvT X k sc σ (.Compare l [.Is] [r] pos) b := by
  intro A env g s E rm o bs q
  refine wpAny_isTrue_Compare1 (wp_ev (hl A env g s E rm o bs q) fun u1 g1 s1 k1 x1 p1 => wp_ev (hr A env g1 s1 E rm o (bs.trans x1.gg) (q.step x1)) fun v g2 s2 k2 x2 p2 => ?_) hm
  subst p1; subst p2
  refine wpAny_is_plain hp (wpAny_truthy_bool ⟨hb, kp_trans k1 k2, g2, x1.trans x2⟩)
theorem EvT.isNot {l r : Expr} {pos : Pos} {u w : Value} {b : Bool} (hl : EvP X k sc σ l fun _ v => v = u) (hr : EvP X k sc σ r fun _ v => v = w) (hp : plainIs u w = true) (hb : (!(u == w)) = b) (hm : behindInMarks .IsNot r = false := by with_unfolding_all rfl) : EvT X k sc σ (.Compare l [.IsNot] [r] pos) b := by
  intro A env g s E rm o bs q
  refine wpAny_isTrue_Compare1 (wp_ev (hl A env g s E rm o bs q) fun u1 g1 s1 k1 x1 p1 => wp_ev (hr A env g1 s1 E rm o (bs.trans x1.gg) (q.step x1)) fun v g2 s2 k2 x2 p2 => ?_) hm
  subst p1; subst p2
  refine wpAny_isNot_plain hp (wpAny_truthy_bool ⟨hb, kp_trans k1 k2, g2, x1.trans x2⟩)
/-- a chain of ors, one of them true -/
def OrT (X : Cx) (k : Nat) (sc : Scope) (σ : Sto) (es : List Expr) : Prop :=
  ∀ (A : Around) (env : Env) (g : Heap) (s : Shared) (E : Value → Shared → Prop), Room A k → EnvOk env sc → Sub X.h0 g → StoIn σ env g s → wpAny X.M A (allTrue .Or es env) (fun c s' => c = true ∧ Keeps s s' ∧ ∃ g', Step g s.heap g' s'.heap) E s
theorem OrT.here {e : Expr} {es : List Expr} (h : EvT X k sc σ e true) : OrT X k sc σ (e :: es) := by
  intro A env g s E rm o bs q
  refine wpAny_allTrue_Or_cons (wp_seq (h A env g s E rm o bs q) fun c s1 ⟨ec, k1, g1, x1⟩ => ?_)
  subst ec
  exact ⟨rfl, k1, g1, x1⟩
theorem OrT.skip {e : Expr} {es : List Expr} (h : EvT X k sc σ e false) (r : OrT X k sc σ es) : OrT X k sc σ (e :: es) := by
  intro A env g s E rm o bs q
  refine wpAny_allTrue_Or_cons (wp_seq (h A env g s E rm o bs q) fun c s1 ⟨ec, k1, g1, x1⟩ => ?_)
  subst ec
  simp only [Bool.false_eq_true, if_false]
  exact wp_seq (r A env g1 s1 E rm o (bs.trans x1.gg) (q.step x1)) fun c s2 ⟨ec, k2, g2, x2⟩ => ⟨ec, kp_trans k1 k2, g2, x1.trans x2⟩
theorem OrT.test {es : List Expr} {pos : Pos} (h : OrT X k sc σ es) : EvT X k sc σ (.BoolOp .Or es pos) true := fun A env g s E rm o bs q => wpAny_isTrue_BoolOp (h A env g s E rm o bs q)
theorem EvT.and0 {e : Expr} {es : List Expr} {pos : Pos} (h : EvT X k sc σ e false) : EvT X k sc σ (.BoolOp .And (e :: es) pos) false := by
  intro A env g s E rm o bs q
  refine wpAny_isTrue_BoolOp (wpAny_allTrue_And_cons (wp_seq (h A env g s E rm o bs q) fun c s1 ⟨ec, k1, g1, x1⟩ => ?_))
  subst ec
  exact ⟨rfl, k1, g1, x1⟩

/-- type(x), x a class of the language -/
theorem EvP.typeV {f : Str} {p pos : Pos} {e : Expr} {T : String} (hf : EvP X k sc σ (.Name f p) fun _ u => u = .type "type") (he : EvP X k sc σ e fun _ v => v = .type T) (ht : typeOf (.type T) = pure (.type "type")) (hp : plainE e = true := by rfl) :
    EvP X k sc σ (.Call (.Name f p) [e] [] pos) fun _ v => v = .type "type" := by
  intro A env g s E rm o bs q
  refine wpAny_Call_NameR (wp_ev (hf A env g s E rm o bs q) fun u g1 s1 k1 x1 p1 => ?_)
  subst p1
  refine callWith_of (P := fun h => True) (by rw [plain_any pos env (es := [e]) (by rw [List.all_cons, hp]; rfl)]; rfl) (fun h _ => ⟨.machine, .inr (.inl rfl), Looks.of_pure rfl⟩) ?_
  rw [starEach_plain hp]
  refine evalArgs_plain (spliced_cons (wp_ev (he A env g1 s1 E rm o (bs.trans x1.gg) (q.step x1)) fun v g2 s2 k2 x2 p2 => wpAny_items_nil ⟨trivial, ?_⟩))
  subst p2
  exact call_type_of (show s2.TypeIs (.type T) "type" from ht) (by decide) (.trans (kp_trans k1 k2) (x1.trans x2) (Post.here x2.gh rfl))
/-- getattr(x, '__fspath__', None), x a class of the language -/
theorem EvP.getFs {f : Str} {p pos p2 p3 : Pos} {n2 n3 : Nat} {e : Expr} {T : String} (hf : EvP X k sc σ (.Name f p) fun _ u => u = .builtin "getattr") (he : EvP X k sc σ e fun _ v => v = .type T) (hs : Manifest.isStub T = false) (ht : typeOf (.type T) = pure (.type "type")) (h2 : typeLookup (.type T) "__fspath__" = pure none)
    (hT : ∀ n, typeName (.type T) = pure n → n.length ≤ 1000) (hTn : ∃ n, typeName (.type T) = pure n) (hp : plainE e = true := by rfl) :
    EvP X k sc σ (.Call (.Name f p) [e, .Constant (.str "__fspath__") n2 p2, .Constant .none n3 p3] [] pos) fun _ v => v = .none := by
  intro A env g s E rm o bs q
  refine wpAny_Call_NameR (wp_ev (hf A env g s E rm o bs q) fun u g1 s1 k1 x1 p1 => ?_)
  subst p1
  refine callWith_of (P := fun h => True) (by rw [plain_any pos env (es := [e, .Constant (.str "__fspath__") n2 p2, .Constant .none n3 p3]) (by rw [List.all_cons, hp]; rfl)]; rfl) (fun h _ => ⟨.machine, .inr (.inl rfl), Looks.of_pure rfl⟩) ?_
  rw [starEach_plain hp]
  refine evalArgs_plain (spliced_cons (wp_ev (he A env g1 s1 E rm o (bs.trans x1.gg) (q.step x1)) fun v g2 s2 k2 x2 p2' => ?_))
  subst p2'
  rw [starEach_plain (e := .Constant (.str "__fspath__") n2 p2) rfl, starEach_plain (e := .Constant .none n3 p3) rfl]
  show wpAny _ _ (spliced ((false, eval (.Constant (.str "__fspath__") n2 p2) env) :: (false, eval (.Constant .none n3 p3) env) :: backTo pos (starEach [] env))) _ _ _
  refine spliced_cons (wpAny_Constant_str (spliced_cons (wpAny_Constant_none (wpAny_items_nil ⟨trivial, ?_⟩))))
  refine call_getattr_fs (X := X) rm.hh hs ht h2 hT hTn fun h' tk k3 => ?_
  have k3' : Keeps s { s2 with heap := h', toks := tk } := kp_trans k1 (kp_trans k2 (kp_mk k3))
  have x3 : Step g2 s2.heap g2 h' := ⟨.rfl, k3, x2.gh.trans k3, fun _ _ e => .inl e⟩
  exact ⟨k3', g2, x1.trans (x2.trans x3), rfl⟩
/-- x.__name__, x a class of the language -/
theorem Ev.nameOf {y : Str} {py pos : Pos} {T q : String} (he : EvP X k sc σ (.Name y py) fun _ v => v = .type T) (ht : typeOf (.type T) = pure (.type "type")) (hs : Manifest.isStub T = false)
    (e : findCls [] (.type T) (.type "type") "__name__" = some (.get (.builtin "getset_descriptor.__get__") (.builtin "type.__name__") (.type T) (.type "type"))) (hq : ktynFast T = q) (hz : (Str.ofString q).length ≤ sizeLine) :
    Ev X k sc σ (.Attribute (.Name y py) "__name__" pos) (.str (Str.ofString q)) := by
  intro A env g s E rm o bs qq
  refine Attribute_name (wp_ev (he A env g s E rm o bs qq) fun u g1 s1 k1 x1 p1 => ?_)
  subst p1
  exact type_name (X := X) ht hs e hq hz fun tk u => .trans k1 x1 (Post.tok x1.gh (.str _ _))

/-- a statement that is an expression -/
theorem Ex.expr {e : Expr} {pos : Pos} {P : Heap → Value → Prop} {R : Out → Prop} (h : EvP X k sc τ e P) (hr : R (.next τ)) (hs : ∀ env, swapsWith e none pos.line env = pure false := by intro _; rfl) : Ex X k sc τ (exec (.Expr e pos)) R := by
  intro A env s₀ g₀ H g m cm s E r o b F
  exact wpAny_Expr_any (wp_ev (h A env g s E r o.toEnvOk (b.trans F.st.gg) F.sto) fun v g1 s1 k1 x1 p1 => ⟨_, g1, m, cm, hr, F.ev k1 x1⟩) o.quiet (hs env)

/-- a def that is called with a class of the language -/
def FnV (X : Cx) (k : Nat) (f : Str) (u : Value) (P : Heap → Value → Prop) : Prop :=
  ∃ a o fd, X.mg f = some (.ref a) ∧ X.h0.get? a = some o ∧ o.data = .func fd ∧ ∀ (g : Heap) (s : Shared), Sub X.h0 g → Sub g s.heap → Does X k (call (.ref a) [u]) g s P
theorem EvP.callFV {f : Str} {p pos : Pos} {e : Expr} {u : Value} {P : Heap → Value → Prop} (hk : sc.names.lookup f = some .globalImplicit) (he : EvP X k sc σ e fun _ v => v = u) (hf : FnV X k f u P) (hp : plainE e = true := by rfl)
    (hd : (f == ("__debug__" : Str)) = false := by decide) : EvP X k sc σ (.Call (.Name f p) [e] [] pos) P := by
  obtain ⟨a, ob, fd, h1, h2, h3, hop⟩ := hf
  intro A env g s E rm o bs q
  refine wpAny_Call_NameR (wp_ev (EvP.global hk h1 hd A env g s E rm o bs q) fun u g1 s1 k1 x1 p1 => ?_)
  subst p1
  refine callWith_of (P := fun h => Sub X.h0 h) (by rw [plain_any pos env (es := [e]) (by rw [List.all_cons, hp]; rfl)]; rfl) (fun h hs => ⟨.frame, .inl rfl, ?_⟩) ?_
  · exact (Looks.ld (part := none) (hs a ob h2)).andThen (by rw [h3]; exact Looks.of_pure rfl)
  rw [starEach_plain hp]
  refine evalArgs_plain (spliced_cons (wp_ev (he A env g1 s1 E rm o (bs.trans x1.gg) (q.step x1)) fun v g2 s2 k2 x2 p2 => wpAny_items_nil ⟨((bs.trans x1.gg).trans x2.gg).trans x2.gh, ?_⟩))
  subst p2
  exact wp_fin (kp_trans k1 k2) (x1.trans x2) (hop g2 s2 ((bs.trans x1.gg).trans x2.gg) x2.gh A E rm)
theorem FnV.intro {f : Str} {params : Arguments} {body : List Stmt} {scope : Scope} {u : Value} {P : Dat → Prop} (D : IsDef X f params body scope) (p : Str)
    (hbind : ∀ pm code doc, bindArgs (docDef f params body scope pm code doc) ⟨[u], []⟩ = pure [(p, u)])
    (hkind : scope.names.lookup p = some .local)
    (h : Ex X k scope [(p, .val u)] (execs body) (FnOut P)) (hk : scope.kind = .function := by rfl) (hco : scope.isCoroutine = false := by rfl) (hgen : scope.isGenerator = false := by rfl) :
    FnV X (k + 1) f u fun g v => ∃ d, P d ∧ Rep g v d := by
  obtain ⟨a, o, pm, code, doc, h1, h2, h3, h4⟩ := D
  refine ⟨a, o, _, h1, h2, h3, ?_⟩
  intro g s b0 kk A E rm
  have hkk : ∀ n, ∀ x ∈ [(p, u)], scope.names.lookup x.1 = some .local ∨ (scope.names.lookup x.1 = some .cell ∧ ((cellsFrom n scope.names []).lookup x.1).isSome = true) := by
    intro n x hx
    rw [List.mem_singleton.mp hx]
    exact .inl hkind
  refine wpAny_call (codeAny_call_cells (a := a) rm.room (kk _ _ (b0 _ _ h2)) h3 (X.hl.keeps (b0.trans kk)) (h4.keeps (b0.trans kk)) rfl (hbind pm code doc) rfl (hkk _) (fun s₁ C => ?_) hco hgen hk)
  have oe : DefEnv (callEnvC (docDef f params body scope pm code doc) s.heap.objs.size a) scope := ⟨rfl, hk, rfl, rfl, fun x hx => cellsFrom_some _ _ _ (.inl hx)⟩
  have none_of : ∀ {b}, s.heap.objs.size ≤ b → g.get? b = none := by
    intro b hb
    cases z : g.get? b with
    | none => rfl
    | some o => exact absurd (Heap.lt_size (kk _ _ z)) (Nat.not_lt.mpr hb)
  have F : FS s g (callEnvC (docDef f params body scope pm code doc) s.heap.objs.size a) [] [(p, .val u)] g (bindL (callEnvC (docDef f params body scope pm code doc) s.heap.objs.size a).kindOf [(p, u)] fun _ => none) (bindC (callEnvC (docDef f params body scope pm code doc) s.heap.objs.size a).kindOf [(p, u)] fun _ => none) s₁ := by
    have look : ∀ {x : Str} {lv : LV}, ([(p, LV.val u)] : Sto).lookup x = some lv → x = p ∧ lv = .val u := by
      intro x lv e
      rw [List.lookup_cons] at e
      by_cases hx : x = p
      · subst hx; simp only [beq_self_eq_true] at e; cases e; exact ⟨rfl, rfl⟩
      · have : (x == p) = false := by simpa using hx
        rw [this] at e; cases e
    refine ⟨C, ⟨.rfl, C.toInCall.keep, kk.trans C.toInCall.keep, fun _ _ e => .inl e⟩, none_of C.toInCall.fresh, fun n c hc => none_of (Nat.le_of_lt (Nat.lt_of_le_of_lt C.toInCall.fresh (C.above n c (mem_of_lookup hc)))), fun p hp => (nomatch hp), fun x lv e => ?_, fun x y a P mp Q mq _ e1 _ _ => ?_⟩
    · obtain ⟨rfl, rfl⟩ := look e
      exact ⟨u, .inl ⟨hkind, bindL_at hkind _ _ (by simp) (by simp)⟩, rfl⟩
    · obtain ⟨_, e'⟩ := look e1
      cases e'
  refine wpAny_mono (h (A.deeper _) _ s g [] g _ _ s₁ _ (rm.deeper _) oe b0 F) (fun fl s' x => ?_) fun _ _ y => y
  cases fl with
  | next =>
    obtain ⟨τ', g', m', cm', rr, F'⟩ := x
    exact ⟨F'.done, g', F'.st, .none, rr, .none⟩
  | brk => obtain ⟨_, _, _, _, rr, _⟩ := x; exact rr.elim
  | cont => obtain ⟨_, _, _, _, rr, _⟩ := x; exact rr.elim
  | ret v =>
    obtain ⟨d, g', rr, k1, x1, r1⟩ := x
    exact ⟨k1, g', x1, d, rr, r1⟩

/-- raise TypeError(e) -/
theorem ExR.raise {t : Str} {pt pc pos : Pos} {e : Expr} {d : Dat} (hf : EvP X k sc τ (.Name t pt) fun _ u => u = .type "TypeError") (h : Ev X k sc τ e d) (hp : plainE e = true := by rfl) :
    ExR X k sc τ (exec (.Raise (some (.Call (.Name t pt) [e] [] pc)) none pos)) := by
  intro A env s₀ g₀ H g m cm s base outer r o b F a1 a2 a3 a4
  obtain ⟨f1, f2⟩ := F.frames o a2 a3 a4
  refine wpAny_Raise_call PySem.F.excCall_TypeError PySem.F.excRaise_TypeError r.hh (by rw [starEach_plain hp]; rfl) (wp_ev (hf A env g s _ r o (b.trans F.st.gg) F.sto) fun u g1 s1 k1 x1 p1 => ⟨p1, ?_⟩)
  rw [starEach_plain hp]
  refine evalArgs_plain (spliced_cons (wp_ev (h A env g1 s1 _ r o ((b.trans F.st.gg).trans x1.gg) (F.sto.step x1)) fun v g2 s2 k2 x2 p2 => wpAny_items_nil ⟨rfl, ?_, fun h' e ne => ?_⟩))
  · show 1 ≤ sizeLine; decide
  · have sub : Sub s.heap s2.heap := x1.hh.trans x2.hh
    have bm : Boom s2.heap s2 (.ref e) { s2 with heap := h' } := by
      obtain ⟨t, h1, _⟩ := ne.there
      exact ⟨e, rfl, ne.new, ne.keeps, ⟨_, _, _, h1, rfl, rfl, rfl, rfl⟩, h', s2.toks, rfl⟩
    exact (bm.thrown (fun b o z => sub b o (f1 b o z)) (ff_keeps sub f2)).back (state_back (kp_state F.done) (kp_state (kp_trans k1 k2))) ((kp_sub F.done).trans sub)
end
end Mine

namespace Mine
open PySem PySem.W PyProof.Rows PySem.Calls
set_option Elab.async false
set_option maxRecDepth 100000
set_option linter.unusedVariables false

theorem answers_bytes {x : Array UInt8} {u : Tok} {T : String} (hne : (Value.type "bytes" == Value.type T) = false) (hty : typeOf (.type T) = pure (.type "type")) (hsub : isSubtype (.type "bytes") (.type T) = pure false) :
    Answers (fun s => s.TypeIs (.bytes x u) "bytes") (.bytes x u) (.type T) false :=
  fun dep tk => .of_wp fun prog w A R s h => by
    obtain ⟨hp, g, d, t, os⟩ := s
    exact isinstance_nested_false_bytes hne hty hsub ⟨_, rfl, h.2 _⟩
end Mine

namespace Mine
open PySem PySem.W PyProof.Rows PySem.Calls
set_option Elab.async false
set_option maxRecDepth 100000
set_option linter.unusedVariables false
open PySem.SeqAt

section
variable {X : Cx} {k : Nat} {sc : Scope} {σ τ : Sto}

theorem eq_nil {A : Around} {E : Value → Shared → Prop} {s : Shared} {l b : Addr} {items : Array Value} {Q : Value → Shared → Prop} (hl : s.heap.IsList l items) (hb : s.heap.IsList b #[]) (hu : A.units < cLine) (h : Q (.bool (items.size == 0)) s) : wpAny X.M A (compareOp .Eq (.ref l) (.ref b)) Q E s := by
  cases hz : items.size with
  | zero =>
    rw [hz] at h
    exact eq_listAt (e := fun _ => true) hl hb hz hu (fun j h1 h2 => absurd h2 (Nat.not_lt_zero _)) (by rw [hz]; exact h)
  | succ n =>
    rw [hz] at h
    exact eq_list_lengthsAt hl hb (by rw [hz]; simp) hu h
theorem ne_nil {A : Around} {E : Value → Shared → Prop} {s : Shared} {l b : Addr} {items : Array Value} {Q : Value → Shared → Prop} (hl : s.heap.IsList l items) (hb : s.heap.IsList b #[]) (hu : A.units < cLine) (h : Q (.bool (!(items.size == 0))) s) : wpAny X.M A (compareOp .NotEq (.ref l) (.ref b)) Q E s := by
  obtain ⟨⟨cls, dd, data, sl⟩, ho, hc, n, hd⟩ := id hl
  obtain ⟨⟨cls2, dd2, data2, sl2⟩, ho2, hc2, n2, hd2⟩ := id hb
  simp only at hc hd hc2 hd2
  subst hc hd hc2 hd2
  show wpAny X.M A (richCompare .NotEq (.ref l) (.ref b)) Q E s
  cases hz : items.size with
  | zero =>
    rw [hz] at h
    exact richCompare_meets_room (op := .NotEq) ⟨_, ho, rfl⟩ ⟨_, ho2, rfl⟩ F.slot_list_ne F.entry_list_ne (F.args_list_ne_2 _ _) (list_neAt l b items #[] n n2 dd dd2 sl sl2 hz (fun _ => true))
      ⟨ho, ho2, fun j h1 h2 => absurd h2 (Nat.not_lt_zero _), by rw [hz]; exact ⟨(fun x => nomatch x), h⟩⟩ hu
  | succ m =>
    rw [hz] at h
    exact richCompare_meets_room (op := .NotEq) ⟨_, ho, rfl⟩ ⟨_, ho2, rfl⟩ F.slot_list_ne F.entry_list_ne (F.args_list_ne_2 _ _) (list_ne_lengthsAt l b items #[] n n2 dd dd2 sl sl2 (by rw [hz]; simp))
      ⟨ho, ho2, ⟨(fun x => nomatch x), h⟩⟩ hu
theorem op_eqNil {ds : List Dat} : Op2 X k (compareOp .Eq) (.list ds) (.list []) (.bool ds.isEmpty) := by
  intro g s u v b0 kk hu hv A E rm
  cases hu with
  | list i r =>
    cases hv with
    | list i2 r2 =>
      cases r2
      refine eq_nil (X := X) (isList_sub kk i) (isList_sub kk i2) (by have := rm.un; omega) ?_
      rw [List.size_toArray, r.length]
      have e : (ds.length == 0) = ds.isEmpty := by cases ds <;> rfl
      rw [e]; exact Post.here kk (.bool _)
theorem op_neNil {ds : List Dat} : Op2 X k (compareOp .NotEq) (.list ds) (.list []) (.bool (!ds.isEmpty)) := by
  intro g s u v b0 kk hu hv A E rm
  cases hu with
  | list i r =>
    cases hv with
    | list i2 r2 =>
      cases r2
      refine ne_nil (X := X) (isList_sub kk i) (isList_sub kk i2) (by have := rm.un; omega) ?_
      rw [List.size_toArray, r.length]
      have e : (ds.length == 0) = ds.isEmpty := by cases ds <;> rfl
      rw [e]; exact Post.here kk (.bool _)
/-- x != [], x a list of the frame's own -/
theorem EvT.neNilOwn {x : Str} {px pl pos : Pos} {ds : List Dat} (hx : σ.lookup x = some (LV.list ds)) (hd : (x == ("__debug__" : Str)) = false := by decide) (hn : (x == ("__classdict__" : Str)) = false := by decide) : EvT X k sc σ (.Compare (.Name x px) [.NotEq] [.List [] pl] pos) (!ds.isEmpty) := by
  intro A env g s E rm o bs q
  obtain ⟨a, ob, hv, h1, vs, n, rfl, rp⟩ := q.obj x _ _ hx
  have ld : ∀ {Q : Value → Shared → Prop}, Q (.ref a) s → wpAny X.M A (eval (.Name x px) env) Q E s := by
    intro Q hq
    rcases hv with ⟨hl, m, ns, hm⟩ | ⟨hl, c, hc, hv⟩
    · exact wpAny_Name (wpAny_loadName_local o.ek hl ns hm hq) hd
    · rcases hl with hl | hl
      · exact wpAny_Name (wpAny_loadName_cell o.ek hl hc hv hq) hd
      · exact wpAny_Name (wpAny_loadName_free o.ek hl hc hv hq hn) hd
  refine wpAny_isTrue_Compare1 (ld ?_) (by rfl)
  refine wp_ev ((Ev.list (X := X) (k := k) (sc := sc) (σ := σ) (es := []) (ds := []) (pos := pl) .nil) A env g s E rm o bs q) fun v g1 s1 k1 x1 p1 => ?_
  cases p1 with
  | list i2 r2 =>
    cases r2
    refine ne_nil (X := X) ⟨_, x1.hh _ _ h1, rfl, n, rfl⟩ (isList_sub x1.gh i2) (by have := rm.un; omega) (wpAny_truthy_bool ⟨?_, k1, g1, x1⟩)
    rw [List.size_toArray, rp.length]
    cases ds <;> rfl

/-- ord(c) -/
theorem op_ord {c : Int} (h : 0 ≤ c) : OpN X k (fun vs => call (.builtin "ord") vs) [.str ⟨#[c.toNat]⟩] fun g v => Rep g v (.int c) := by
  intro g s vs b0 kk r A E rm
  cases r with
  | cons r rn =>
    cases rn; cases r
    refine PySem.P.ord_of_char ?_
    have e : ((c.toNat : Nat) : Int) = c := by omega
    rw [e]
    exact Post.tok kk (.int _ _)
/-- bytes(a list of octets) -/
theorem op_bytes {ns : List Int} (ho : okB ns) : OpN X k (fun vs => call (.type "bytes") vs) [dList ns] fun g v => Rep g v (dBytes ns) := by
  intro g s vs b0 kk r A E rm
  cases r with
  | cons r rn =>
    cases rn
    cases r with
    | list i r =>
      have hl := r.length
      have e : (dInts ns).length = ns.length := by simp [dInts]
      refine call_bytes_ints (isList_sub kk i) (intsAre_of r) ho.1 (by rw [hl, e]; exact ho.2) rm.hh fun h' t tk hk => ?_
      exact ⟨kp_mk hk, g, ⟨.rfl, hk, kk.trans hk, fun _ _ e => .inl e⟩, .bytes _ _⟩
/-- tuple(a list) -/
theorem op_tupleL {ds : List Dat} (hz : ds.length ≤ sizeLine) : OpN X k (fun vs => call (.type "tuple") vs) [.list ds] fun g v => Rep g v (.tuple ds) := by
  intro g s vs b0 kk r A E rm
  cases r with
  | cons r rn =>
    cases rn
    cases r with
    | list i r =>
      refine call_tuple_list (isList_sub kk i) (fun h' hk => ?_) (by rw [List.size_toArray, r.length]; exact hz)
      exact post_newTuple (s := s) (s' := { s with heap := h' }) (kp_mk (t := s.toks) hk) ⟨.rfl, hk, kk.trans hk, fun _ _ e => .inl e⟩ r

/-- what a law asks of rows of a kind -/
structure RowK (X : Cx) (mk : List Int → Dat) (ok : List Int → Prop) : Prop where
  len : ∀ {k : Nat} {a : List Int}, ok a → OpN X k (fun vs => call (.builtin "len") vs) [mk a] fun g v => Rep g v (.int (a.length : Nat))
  eq : ∀ {k : Nat} {a b : List Int}, ok a → ok b → Op2 X k (compareOp .Eq) (mk a) (mk b) (.bool (decide (a = b)))
  ne : ∀ {k : Nat} {a b : List Int}, ok a → ok b → Op2 X k (compareOp .NotEq) (mk a) (mk b) (.bool (!decide (a = b)))
  slice : ∀ {k : Nat} {sc : Scope} {σ : Sto} {x : Str} {px : Pos} {u : Expr} {ps pos : Pos} {a : List Int} {i : Nat}, ok a → Ev X k sc σ (.Name x px) (mk a) → Ev X k sc σ u (.int i) → Ev X k sc σ (.Subscript (.Name x px) (.Slice Option.none (Option.some u) Option.none ps) pos) (mk (a.take i))
  slice0 : ∀ {k : Nat} {sc : Scope} {σ : Sto} {v w : Expr} {u : Expr} {p1 ps pos : Pos} {a : List Int} {i : Nat}, ok a → Ev X k sc σ (.Subscript v w p1) (mk a) → Ev X k sc σ u (.int i) → Ev X k sc σ (.Subscript (.Subscript v w p1) (.Slice Option.none (Option.some u) Option.none ps) pos) (mk (a.take i))
  cut : ∀ {a : List Int} (i : Nat), ok a → ok (a.take i)

theorem len_tuple {ds : List Dat} (h : ds.length < 2 ^ 62) : OpN X k (fun vs => call (.builtin "len") vs) [.tuple ds] fun g v => Rep g v (.int (ds.length : Nat)) := by
  intro g s vs b0 kk r A E rm
  cases r with
  | cons r rn =>
    cases rn
    cases r with
    | tuple i r =>
      rename_i a us
      have hl := r.length
      refine Calls.call_function_entry kind_len plain_len entry_len (args_len1 _) (len_body_tuple (isTup_sub kk i) (by rw [List.size_toArray]; omega) ?_)
      have e : (us.toArray.size : Int) = (ds.length : Nat) := by rw [List.size_toArray, hl]
      rw [e]
      exact Post.tok kk (.int _ _)
theorem rowK_list : RowK X dList okL where
  len := fun {k a} h => len_ints (by have : a.length ≤ sizeLine := h; have hb : sizeLine < 2 ^ 62 := by decide
                                     omega)
  eq := fun _ _ => op_eqD dList_ok dList_ok dList_iff
  ne := fun _ _ => op_neD dList_ok dList_ok dList_iff
  slice := by
    intro k sc σ x px u ps pos a i ho hv hi
    refine (Ev.slice hv .none (.some hi) (by simpa [dInts] using (show a.length ≤ sizeLine from ho))).to ?_
    rw [cut_upto]; simp [dList, dInts]
  slice0 := by
    intro k sc σ v w u p1 ps pos a i ho hv hi
    refine (Ev.slice hv .none (.some hi) (by simpa [dInts] using (show a.length ≤ sizeLine from ho))).to ?_
    rw [cut_upto]; simp [dList, dInts]
  cut := fun {a} i h => by show (a.take i).length ≤ sizeLine; rw [List.length_take]; exact Nat.le_trans (Nat.min_le_right _ _) h
theorem dTup_ok {n : Nat} {ns : List Int} : kqdOk (n + 1) (dTup ns) = true := by
  unfold dTup dInts kqdOk
  rw [List.all_eq_true]
  intro d hd
  obtain ⟨i, _, rfl⟩ := List.mem_map.mp hd
  cases n <;> rfl
theorem dTup_iff {a b : List Int} : (decide (a = b) = true ↔ dTup a = dTup b) := by
  rw [decide_eq_true_iff]
  exact ⟨fun h => by rw [h], fun h => dList_inj (by unfold dTup at h; unfold dList; rw [Dat.tuple.inj h])⟩
theorem rowK_tuple : RowK X dTup okL where
  len := fun {k a} h => by
    have hb : sizeLine < 2 ^ 62 := by decide
    have h' : a.length ≤ sizeLine := h
    have := len_tuple (X := X) (k := k) (ds := dInts a) (by rw [dInts_length]; omega)
    rw [dInts_length] at this
    exact this
  eq := fun _ _ => op_eqD dTup_ok dTup_ok dTup_iff
  ne := fun _ _ => op_neD dTup_ok dTup_ok dTup_iff
  slice := by
    intro k sc σ x px u ps pos a i ho hv hi
    refine (Ev.sliceT hv .none (.some hi) (by simpa [dInts] using (show a.length ≤ sizeLine from ho))).to ?_
    simp [dTup, dInts]
  slice0 := by
    intro k sc σ v w u p1 ps pos a i ho hv hi
    refine (Ev.sliceT hv .none (.some hi) (by simpa [dInts] using (show a.length ≤ sizeLine from ho))).to ?_
    simp [dTup, dInts]
  cut := fun {a} i h => by show (a.take i).length ≤ sizeLine; rw [List.length_take]; exact Nat.le_trans (Nat.min_le_right _ _) h
theorem byteArr_inj {a b : List Int} (ha : okB a) (hb : okB b) (h : (byteArr a).toList = (byteArr b).toList) : a = b := by
  have e := congrArg (fun l : List UInt8 => l.map fun c => (c.toNat : Int)) h
  have e2 : KBw.bInts (byteArr a) = KBw.bInts (byteArr b) := e
  rw [bInts_make ha.1, bInts_make hb.1] at e2
  exact e2
theorem bytes_beq {a b : List Int} (ha : okB a) (hb : okB b) : ((byteArr a).toList == (byteArr b).toList) = decide (a = b) := by
  by_cases h : a = b
  · subst h; simp
  · rw [decide_eq_false h]
    exact beq_eq_false_iff_ne.mpr fun q => h (byteArr_inj ha hb q)
theorem rowK_bytes : RowK X dBytes okB where
  len := by
    intro k a ho g s vs b0 kk r A E rm
    cases r with
    | cons r rn =>
      cases rn
      obtain ⟨t, rfl⟩ := dBytes_inv r
      have h1 : a.length ≤ 16777216 := ho.2
      have e := byteArr_size a
      refine len_bytes (b := byteArr a) (by omega) ?_
      rw [e]
      exact Post.tok kk (.int _ _)
  eq := by
    intro k a b ha hb g s u v b0 kk hu hv A E rm
    obtain ⟨t, rfl⟩ := dBytes_inv hu
    obtain ⟨t2, rfl⟩ := dBytes_inv hv
    refine eq_bytes ?_
    rw [bytes_beq ha hb]
    exact Post.here kk (.bool _)
  ne := by
    intro k a b ha hb g s u v b0 kk hu hv A E rm
    obtain ⟨t, rfl⟩ := dBytes_inv hu
    obtain ⟨t2, rfl⟩ := dBytes_inv hv
    refine ne_bytes ?_
    rw [bne, bytes_beq ha hb]
    exact Post.here kk (.bool _)
  slice := by
    intro k sc σ x px u ps pos a i ho hv hi
    refine (Ev.sliceB hv .none (.some hi) ho.2).to ?_
    show dBytes ((a.drop 0).take (clipAt a.length (i : Int) - 0)) = _
    rw [clipAt_nat, List.drop_zero, Nat.sub_zero]
    congr 1
    rcases Nat.le_total i a.length with h | h
    · rw [Nat.min_eq_left h]
    · rw [Nat.min_eq_right h, List.take_of_length_le (Nat.le_refl _), List.take_of_length_le h]
  slice0 := by
    intro k sc σ v w u p1 ps pos a i ho hv hi
    refine (Ev.sliceB hv .none (.some hi) ho.2).to ?_
    show dBytes ((a.drop 0).take (clipAt a.length (i : Int) - 0)) = _
    rw [clipAt_nat, List.drop_zero, Nat.sub_zero]
    congr 1
    rcases Nat.le_total i a.length with h | h
    · rw [Nat.min_eq_left h]
    · rw [Nat.min_eq_right h, List.take_of_length_le (Nat.le_refl _), List.take_of_length_le h]
  cut := fun {a} i h => ⟨fun n hn => h.1 n (List.mem_of_mem_take hn), by rw [List.length_take]; exact Nat.le_trans (Nat.min_le_right _ _) h.2⟩
end
end Mine

namespace Mine
open PySem PySem.W PyProof.Rows PySem.Calls
set_option Elab.async false
set_option maxRecDepth 100000
set_option linter.unusedVariables false

abbrev body : List Stmt := PySem.Challenge.rw_kq0014_02.prog.main.body
abbrev cpS : Stmt := stAt body 11
abbrev fsS : Stmt := stAt body 9

section
variable {X : Cx} {k : Nat}

theorem cp_tail (N : Free X) {mr : List (Str × Const)} {τ : Sto} {mk : List Int → Dat} {it : Int → Dat} {ok : List Int → Prop} (K : SeqK X mk it ok) {rows : List (List Int)} {d : Dat} (hm : τ.lookup ("m" : Str) = some (.dat d)) (hc : Cont mk rows d) (hn : rows ≠ []) (ho : ∀ r ∈ rows, ok r) (hl : ∀ r ∈ rows, r.length < 2 ^ 61) :
    Ex X (k + 2) (fnS cpS mr) τ (execs (List.drop 2 (fnB cpS))) (FnOut (· = mk (lcp2 (minRow rows) (maxRow rows)))) := by
  have m1 : minRow rows ∈ rows := argBest_mem _ hn
  have m2 : maxRow rows ∈ rows := argBest_mem _ hn
  have hle : ¬ maxRow rows < minRow rows := maxRow_spec m1
  refine Ex.cons (Ex.assign (EvP.callB (EvP.builtin rfl N.min rfl (by decide)) (.cons (.local hm) .nil) (op_min K hc hn ho)) ?_)
  refine Ex.cons (Ex.assign (EvP.callB (EvP.builtin rfl N.max rfl (by decide)) (.cons (.local (upd_other (by decide) hm)) .nil) (op_max K hc hn ho)) ?_)
  generalize minRow rows = a at *
  generalize maxRow rows = b at *
  refine Ex.cons (Ex.forEnum (EvP.builtin rfl N.enumerate rfl (by decide)) (.local (upd_other (by decide) (upd_same rfl))) (fun g s v kk r => K.enum _ g s v a (ho a m1) kk r)
    (fun i τ' => τ'.lookup ("s1" : Str) = some (.dat (mk a)) ∧ τ'.lookup ("s2" : Str) = some (.dat (mk b)) ∧ a.take i = b.take i)
    ⟨upd_other (by decide) (upd_same rfl), upd_same rfl, by simp⟩ (fun i τ' d hd ⟨h1, h2, h3⟩ => ?_) (fun τ' ⟨h1, h2, h3⟩ => ?_))
  · obtain ⟨x, hx, rfl⟩ : ∃ x, a[i]? = some x ∧ d = it x := by
      rw [List.getElem?_map] at hd
      cases e : a[i]? with
      | none => rw [e] at hd; cases hd
      | some x => rw [e] at hd; exact ⟨x, rfl, by cases hd; rfl⟩
    obtain ⟨hi, hx'⟩ := List.getElem?_eq_some_iff.mp hx
    have hib : i < b.length := in_bounds h3 hi hle
    have hib' : b[i]? = some b[i] := by simp [hib]
    have hlb := hl b m2
    have l1 := upd_other (x := ("c" : Str)) (lv := .dat (it x)) (by decide) (upd_other (x := ("i" : Str)) (lv := .dat (.int i)) (by decide) h1)
    have l2 := upd_other (x := ("c" : Str)) (lv := .dat (it x)) (by decide) (upd_other (x := ("i" : Str)) (lv := .dat (.int i)) (by decide) h2)
    have li := upd_other (x := ("c" : Str)) (lv := .dat (it x)) (by decide) (upd_same (x := ("i" : Str)) (y := ("i" : Str)) (lv := .dat (.int i)) (τ := τ') rfl)
    refine Ex.last (Ex.if (EvT.cmp (.local (upd_same rfl)) (K.item (ho b m2) (.local l2) (.local li) hib' (by omega)) (K.ne _ a b _ _ (ho a m1) (ho b m2) (List.mem_of_getElem? hx) (List.mem_of_getElem? hib'))) (fun hc => ?_) fun hc => ?_)
    · refine Ex.last (Ex.return (K.slice (ho a m1) (.local l1) (.local li)) ?_)
      have hne : x ≠ b[i] := by simpa using hc
      show _ = mk (lcp2 a b)
      rw [lcp2_stop h3 hi hib (by rw [hx']; exact hne)]
    · refine Ex.nil ⟨l1, l2, ?_⟩
      have he : x = b[i] := by simpa using hc
      rw [List.take_add_one, List.take_add_one, h3, hx, hib', he]
  · refine Ex.last (Ex.return (.local h1) ?_)
    have hp : a <+: b := by
      rw [List.length_map] at h3
      rw [List.take_of_length_le (Nat.le_refl _)] at h3
      rw [h3]; exact List.take_prefix _ _
    show _ = mk (lcp2 a b)
    rw [lcp2_whole hp]

theorem cp_empty (N : Free X) {mr : List (Str × Const)} (D : IsDef X "commonprefix" (fnP cpS) (fnB cpS) (fnS cpS mr)) : FnD X (k + 1) "commonprefix" [.list []] (.str "") := by
  refine FnD.intro D ["m"] rfl (fun pm code doc vs hv => ?_) (by decide) (by rfl) ?_
  · match vs, hv with
    | [v], _ => rfl
  refine Ex.cons (Ex.if (EvT.not (EvT.val (.local rfl) (by show ((0:Nat):Int) < 2 ^ 63; decide))) (fun _ => Ex.last (Ex.return .str rfl)) fun hc => ?_)
  cases hc

theorem cp_rows (N : Free X) {mr : List (Str × Const)} (D : IsDef X "commonprefix" (fnP cpS) (fnB cpS) (fnS cpS mr)) {rows : List (List Int)} (hn : rows ≠ []) (ho : ∀ r ∈ rows, r.length ≤ sizeLine) (hz : rows.length < 2 ^ 62) :
    FnD X (k + 3) "commonprefix" [.list (rows.map dList)] (dList (lcp2 (minRow rows) (maxRow rows))) := by
  refine FnD.intro D ["m"] rfl (fun pm code doc vs hv => ?_) (by decide) (by rfl) ?_
  · match vs, hv with
    | [v], _ => rfl
  obtain ⟨r, rs, rfl⟩ := List.exists_cons_of_ne_nil hn
  refine Ex.cons (Ex.if (EvT.not (EvT.val (.local rfl) (by show ((List.map dList (r :: rs)).length : Int) < 2 ^ 63; rw [List.length_map]; omega))) (fun hc => ?_) fun hc => ?_)
  · cases hc
  refine Ex.nil ?_
  refine Ex.cons (Ex.if (EvT.not (EvT.val (Ev.isin (Tx := "list") (d := dList r) (b1 := true) (b2 := false) (EvP.builtin rfl N.isinstance rfl (by decide)) (Ev.item (.local rfl) .int (by decide) (by decide) rfl) (EvP.builtin rfl N.list rfl (by decide)) (EvP.builtin rfl N.tuple rfl (by decide)) ?_ (fun g x hr => ?_)) trivial)) (fun hc => ?_) fun hc => ?_)
  · intro g v s hr kk
    cases hr with
    | list i _ => exact (isList_sub kk i).typeIs
  · cases hr
    exact .cons (Answers.of_true F.isi_meta_list F.sub_list_list) (.cons (Answers.of_false_list (by decide +kernel) F.isi_meta_tuple F.sub_list_tuple) .nil)
  · cases hc
  refine Ex.nil ?_
  exact cp_tail N (seqK_list X) rfl (.inl rfl) hn ho fun x hx => Nat.lt_of_le_of_lt (ho x hx) (by decide)

theorem fspath_text (N : Free X) {mr : List (Str × Const)} (D : IsDef X "fspath" (fnP fsS) (fnB fsS) (fnS fsS mr)) {x : Str} : FnD X (k + 1) "fspath" [.str x] (.str x) := by
  refine FnD.intro D ["path"] rfl (fun pm code doc vs hv => ?_) (by decide) (by rfl) ?_
  · match vs, hv with
    | [v], _ => rfl
  refine Ex.cons (Ex.assignV (u := .type "str") (EvP.callT (EvP.builtin rfl N.type rfl (by decide)) (.cons (.local rfl) .nil) (op_type (T := "str") (fun g v s r _ => by cases r; exact typeIs_str _ _ _))) ?_)
  refine Ex.cons (Ex.if (EvT.val (Ev.issub (D := "str") (b1 := true) (b2 := false) (EvP.builtin rfl N.issubclass rfl (by decide)) (EvP.localV rfl) (EvP.builtin rfl N.str rfl (by decide)) (EvP.builtin rfl N.bytes rfl (by decide)) F.isi_meta_str ⟨⟨_, rfl, F.isi_meta_str, F.sub_str_str⟩, ⟨_, rfl, F.isi_meta_bytes, F.sub_str_bytes⟩, trivial⟩) trivial) (fun _ => ?_) fun hc => ?_)
  · exact Ex.last (Ex.return (.local rfl) rfl)
  · cases hc

end
end Mine

namespace Mine
open PySem PySem.W PyProof.Rows PySem.Calls
set_option Elab.async false
set_option maxRecDepth 100000
set_option linter.unusedVariables false
abbrev pnS : Stmt := stAt body 2
abbrev apS : Stmt := stAt body 7
/-- more names that the text leaves to the language -/
structure More (X : Cx) : Prop where
  getattr : X.mg "getattr" = none
  terr : X.mg "TypeError" = none
  bool : X.mg "bool" = none
  int : X.mg "int" = none
  float : X.mg "float" = none
  complex : X.mg "complex" = none
  bytearray : X.mg "bytearray" = none

section
variable {X : Cx} {k : Nat}
theorem plain_name (N : Free X) (M : More X) {mr : List (Str × Const)} (D : IsDef X "_plain_name" (fnP pnS) (fnB pnS) (fnS pnS mr)) {d : Dat} {w : Str} (hd : tyOf d = "list" ∨ tyOf d = "tuple" ∨ tyOf d = "int") :
    ∃ q, q.length ≤ 10 ∧ FnD X (k + 1) "_plain_name" [d, .str w] (.str q) := by
  have start : ∀ {T : String} {q : Str}, tyOf d = T → (Value.type T == Value.type "builtin_function_or_method") = false →
      Ex X k (fnS pnS mr) (upd "kind" (.val (.type T)) (sto0 ["x", "what"] [d, .str w])) (execs (List.drop 1 (fnB pnS))) (FnOut (· = .str q)) → FnD X (k + 1) "_plain_name" [d, .str w] (.str q) := by
    intro T q ht hb hx
    refine FnD.intro D ["x", "what"] rfl (fun pm code doc vs hv => ?_) (by decide) (by rfl) ?_
    · match vs, hv with
      | [v, u], _ => rfl
    exact Ex.cons (Ex.assignV (u := .type T) (EvP.callT (EvP.builtin rfl N.type rfl (by decide)) (.cons (.local rfl) .nil) (op_type (T := T) (fun g v s r kk => ht ▸ r.tyIs kk) hb)) hx)
  rcases hd with hd | hd | hd
  · refine ⟨"list", by decide, start hd (by decide) ?_⟩
    refine Ex.cons (Ex.if (c := true) (OrT.test (.skip (EvT.is (u := .type "list") (w := .type "bool") (EvP.localV rfl) (EvP.builtin rfl M.bool rfl (by decide)) rfl (by decide)) (.skip (EvT.is (u := .type "list") (w := .type "int") (EvP.localV rfl) (EvP.builtin rfl M.int rfl (by decide)) rfl (by decide)) (.skip (EvT.is (u := .type "list") (w := .type "float") (EvP.localV rfl) (EvP.builtin rfl M.float rfl (by decide)) rfl (by decide)) (.skip (EvT.is (u := .type "list") (w := .type "complex") (EvP.localV rfl) (EvP.builtin rfl M.complex rfl (by decide)) rfl (by decide)) (.skip (EvT.is (u := .type "list") (w := .type "bytearray") (EvP.localV rfl) (EvP.builtin rfl M.bytearray rfl (by decide)) rfl (by decide)) (.here (EvT.is (u := .type "list") (w := .type "list") (EvP.localV rfl) (EvP.builtin rfl N.list rfl (by decide)) rfl (by decide))))))))) (fun _ => ?_) fun hc => nomatch hc)
    exact Ex.last (Ex.return (Ev.nameOf (EvP.localV rfl) meta_list (by decide +kernel) name_list fast_list (by decide)) rfl)
  · refine ⟨"tuple", by decide, start hd (by decide) ?_⟩
    refine Ex.cons (Ex.if (c := true) (OrT.test (.skip (EvT.is (u := .type "tuple") (w := .type "bool") (EvP.localV rfl) (EvP.builtin rfl M.bool rfl (by decide)) rfl (by decide)) (.skip (EvT.is (u := .type "tuple") (w := .type "int") (EvP.localV rfl) (EvP.builtin rfl M.int rfl (by decide)) rfl (by decide)) (.skip (EvT.is (u := .type "tuple") (w := .type "float") (EvP.localV rfl) (EvP.builtin rfl M.float rfl (by decide)) rfl (by decide)) (.skip (EvT.is (u := .type "tuple") (w := .type "complex") (EvP.localV rfl) (EvP.builtin rfl M.complex rfl (by decide)) rfl (by decide)) (.skip (EvT.is (u := .type "tuple") (w := .type "bytearray") (EvP.localV rfl) (EvP.builtin rfl M.bytearray rfl (by decide)) rfl (by decide)) (.skip (EvT.is (u := .type "tuple") (w := .type "list") (EvP.localV rfl) (EvP.builtin rfl N.list rfl (by decide)) rfl (by decide)) (.here (EvT.is (u := .type "tuple") (w := .type "tuple") (EvP.localV rfl) (EvP.builtin rfl N.tuple rfl (by decide)) rfl (by decide)))))))))) (fun _ => ?_) fun hc => nomatch hc)
    exact Ex.last (Ex.return (Ev.nameOf (EvP.localV rfl) meta_tuple (by decide +kernel) name_tuple fast_tuple (by decide)) rfl)
  · refine ⟨"int", by decide, start hd (by decide) ?_⟩
    refine Ex.cons (Ex.if (c := true) (OrT.test (.skip (EvT.is (u := .type "int") (w := .type "bool") (EvP.localV rfl) (EvP.builtin rfl M.bool rfl (by decide)) rfl (by decide)) (.here (EvT.is (u := .type "int") (w := .type "int") (EvP.localV rfl) (EvP.builtin rfl M.int rfl (by decide)) rfl (by decide))))) (fun _ => ?_) fun hc => nomatch hc)
    exact Ex.last (Ex.return (Ev.nameOf (EvP.localV rfl) meta_int (by decide +kernel) name_int fast_int (by decide)) rfl)

theorem plain_meta (N : Free X) {mr : List (Str × Const)} (D : IsDef X "_abc_plain_meta" (fnP apS) (fnB apS) (fnS apS mr)) {T : String} (ht : typeOf (.type T) = pure (.type "type")) : FnV X (k + 1) "_abc_plain_meta" (.type T) fun g v => ∃ d, d = .none ∧ Rep g v d := by
  refine FnV.intro D "C" (fun pm code doc => rfl) rfl ?_
  refine Ex.cons (Ex.if (c := false) (EvT.and0 (EvT.isNot (u := .type "type") (w := .type "type") (EvP.typeV (EvP.builtin rfl N.type rfl (by decide)) (EvP.localV rfl) ht) (EvP.builtin rfl N.type rfl (by decide)) rfl (by decide))) (fun hc => nomatch hc) fun _ => Ex.nil ?_)
  exact Ex.nil rfl
end
end Mine

namespace Mine
open PySem PySem.W PyProof.Rows PySem.Calls
set_option Elab.async false
set_option maxRecDepth 100000
set_option linter.unusedVariables false

section
variable {X : Cx} {k : Nat}
theorem fspath_bytes (N : Free X) {mr : List (Str × Const)} (D : IsDef X "fspath" (fnP fsS) (fnB fsS) (fnS fsS mr)) {x : Array UInt8} : FnD X (k + 1) "fspath" [.bytes x] (.bytes x) := by
  refine FnD.intro D ["path"] rfl (fun pm code doc vs hv => ?_) (by decide) (by rfl) ?_
  · match vs, hv with
    | [v], _ => rfl
  refine Ex.cons (Ex.assignV (u := .type "bytes") (EvP.callT (EvP.builtin rfl N.type rfl (by decide)) (.cons (.local rfl) .nil) (op_type (T := "bytes") (fun g v s r _ => by cases r; rfl))) ?_)
  refine Ex.cons (Ex.if (EvT.val (Ev.issub (D := "bytes") (b1 := false) (b2 := true) (EvP.builtin rfl N.issubclass rfl (by decide)) (EvP.localV rfl) (EvP.builtin rfl N.str rfl (by decide)) (EvP.builtin rfl N.bytes rfl (by decide)) F.isi_meta_bytes ⟨⟨_, rfl, F.isi_meta_str, sub_no⟩, ⟨_, rfl, F.isi_meta_bytes, F.sub_bytes_bytes⟩, trivial⟩) trivial) (fun _ => ?_) fun hc => ?_)
  · exact Ex.last (Ex.return (.local rfl) rfl)
  · cases hc
theorem fspath_raises (N : Free X) (M : More X) {mr mp ma : List (Str × Const)} (D : IsDef X "fspath" (fnP fsS) (fnB fsS) (fnS fsS mr)) (Dp : IsDef X "_plain_name" (fnP pnS) (fnB pnS) (fnS pnS mp)) (Da : IsDef X "_abc_plain_meta" (fnP apS) (fnB apS) (fnS apS ma))
    {d : Dat} (hd : tyOf d = "list" ∨ tyOf d = "tuple" ∨ tyOf d = "int") : FnR X (k + 2) "fspath" [d] := by
  refine FnR.intro D ["path"] rfl (fun pm code doc vs hv => ?_) (by decide) (by rfl) ?_
  · match vs, hv with
    | [v], _ => rfl
  obtain ⟨q, hq, fpn⟩ := plain_name (k := k) N M Dp (d := d) (w := "the words of fspath, of an object that is no everyday kind") hd
  obtain ⟨T, hT, hb, htt, hs1, hs2, hst, hfs, hn⟩ : ∃ T, tyOf d = T ∧ (Value.type T == Value.type "builtin_function_or_method") = false ∧ typeOf (.type T) = pure (.type "type") ∧ isSubtype (.type T) (.type "str") = pure false ∧ isSubtype (.type T) (.type "bytes") = pure false ∧ Manifest.isStub T = false ∧ typeLookup (.type T) "__fspath__" = pure none ∧ (∃ n, typeName (.type T) = pure n ∧ n.length ≤ 1000) := by
    rcases hd with hd | hd | hd
    · exact ⟨_, hd, by decide, meta_list, sub_no, sub_no, by decide +kernel, nofs_list, _, tn_list, by decide⟩
    · exact ⟨_, hd, by decide, meta_tuple, sub_no, sub_no, by decide +kernel, nofs_tuple, _, tn_tuple, by decide⟩
    · exact ⟨_, hd, by decide, meta_int, sub_no, sub_no, by decide +kernel, nofs_int, _, tn_int, by decide⟩
  obtain ⟨n, hn1, hn2⟩ := hn
  refine ExR.cons (Ex.assignV (u := .type T) (EvP.callT (EvP.builtin rfl N.type rfl (by decide)) (.cons (.local rfl) .nil) (op_type (T := T) (fun g v s r kk => hT ▸ r.tyIs kk) hb)) ?_)
  refine ExR.cons (Ex.if (EvT.val (Ev.issub (D := T) (b1 := false) (b2 := false) (EvP.builtin rfl N.issubclass rfl (by decide)) (EvP.localV rfl) (EvP.builtin rfl N.str rfl (by decide)) (EvP.builtin rfl N.bytes rfl (by decide)) htt ⟨⟨_, rfl, F.isi_meta_str, hs1⟩, ⟨_, rfl, F.isi_meta_bytes, hs2⟩, trivial⟩) trivial) (fun hc => nomatch hc) fun _ => Ex.nil ?_)
  refine ExR.cons (Ex.expr (EvP.callFV rfl (EvP.localV rfl) (plain_meta N Da htt)) ?_)
  refine ExR.cons (Ex.assignV (u := .none) (EvP.getFs (EvP.builtin rfl M.getattr rfl (by decide)) (EvP.localV rfl) hst htt hfs (fun m hm => ?_) ⟨n, hn1⟩) ?_)
  · have : m = n := by
      rw [hn1] at hm
      exact (by injection hm with hm; exact hm.symm)
    rw [this]; exact hn2
  refine ExR.first (ExR.if (c := true) (EvT.is (u := .none) (w := .none) (EvP.localV rfl) ((Ev.none_).mono fun g v r => by cases r; rfl) rfl (by decide)) (fun _ => ?_) fun hc => nomatch hc)
  refine ExR.first (ExR.raise (EvP.builtin rfl M.terr rfl (by decide)) (Ev.bin .str (EvP.callF rfl (.cons (.local rfl) (.cons .str .nil)) fpn) (op_addS ?_)))
  have e : ("expected str, bytes or os.PathLike object, not " : Str).length ≤ 100 := by decide
  rw [sizeLine_eq]
  omega
end
end Mine

namespace Mine
open PySem PySem.W PyProof.Rows PySem.Calls
set_option Elab.async false
set_option maxRecDepth 100000
set_option linter.unusedVariables false

theorem isin_ans {g : Heap} {x : Value} {d : Dat} {b1 b2 : Bool} (r : Rep g x d)
    (h : (tyOf d = "list" ∧ b1 = true ∧ b2 = false) ∨ (tyOf d = "tuple" ∧ b1 = false ∧ b2 = true) ∨ ((tyOf d = "bytes" ∨ tyOf d = "str" ∨ tyOf d = "int") ∧ b1 = false ∧ b2 = false)) :
    AnswersAll (fun s => s.TypeIs x (tyOf d)) x [.type "list", .type "tuple"] [b1, b2] := by
  rcases h with ⟨h, rfl, rfl⟩ | ⟨h, rfl, rfl⟩ | ⟨h, rfl, rfl⟩
  · cases r <;> simp [tyOf] at h
    exact .cons (Answers.of_true F.isi_meta_list F.sub_list_list) (.cons (Answers.of_false_list (by decide +kernel) F.isi_meta_tuple F.sub_list_tuple) .nil)
  · cases r <;> simp [tyOf] at h
    exact .cons (Answers.of_false_tuple (by decide +kernel) F.isi_meta_list (sub_no (U := "tuple") (T := "list"))) (.cons (Answers.of_true (Tx := "tuple") (T := "tuple") F.isi_meta_tuple (by rw [isSubtype_type]; kernel_rfl)) .nil)
  · rcases h with h | h | h <;> (cases r <;> simp [tyOf] at h)
    · exact .cons (answers_bytes (by decide +kernel) F.isi_meta_list sub_no) (.cons (answers_bytes (by decide +kernel) F.isi_meta_tuple sub_no) .nil)
    · exact .cons (Answers.of_false_str (by decide +kernel) F.isi_meta_list F.sub_str_list) (.cons (Answers.of_false_str (by decide +kernel) F.isi_meta_tuple F.sub_str_tuple) .nil)
    · exact .cons (Answers.of_false_int (by decide +kernel) F.isi_meta_list sub_no) (.cons (Answers.of_false_int (by decide +kernel) F.isi_meta_tuple sub_no) .nil)

/-- how the first item fares at isinstance(.., (list, tuple)) -/
def Seqs (d : Dat) (b : Bool) : Prop := ((tyOf d = "list" ∨ tyOf d = "tuple") ∧ b = true) ∨ ((tyOf d = "bytes" ∨ tyOf d = "str" ∨ tyOf d = "int") ∧ b = false)

section
variable {X : Cx} {k : Nat}
theorem isin_row (N : Free X) {sc : Scope} {σ : Sto} {f a b : Str} {p pa pb pt pos : Pos} {n : Nat} {e : Expr} {d : Dat} {c : Bool} (hf : EvP X k sc σ (.Name f p) fun _ u => u = .builtin "isinstance") (he : Ev X k sc σ e d)
    (h1 : EvP X k sc σ (.Name a pa) fun _ u => u = .type "list") (h2 : EvP X k sc σ (.Name b pb) fun _ u => u = .type "tuple") (hd : Seqs d c) (hp : plainE e = true := by rfl) :
    Ev X k sc σ (.Call (.Name f p) [e, .Tuple [.Name a pa, .Name b pb] n pt] [] pos) (.bool c) := by
  rcases hd with ⟨h | h, rfl⟩ | ⟨h, rfl⟩
  · exact Ev.isin (Tx := tyOf d) (b1 := true) (b2 := false) hf he h1 h2 (fun g v s r kk => r.tyIs kk) (fun g x r => isin_ans r (.inl ⟨h, rfl, rfl⟩)) hp
  · exact Ev.isin (Tx := tyOf d) (b1 := false) (b2 := true) hf he h1 h2 (fun g v s r kk => r.tyIs kk) (fun g x r => isin_ans r (.inr (.inl ⟨h, rfl, rfl⟩))) hp
  · exact Ev.isin (Tx := tyOf d) (b1 := false) (b2 := false) hf he h1 h2 (fun g v s r kk => r.tyIs kk) (fun g x r => isin_ans r (.inr (.inr ⟨h, rfl, rfl⟩))) hp

theorem cp_tuples (N : Free X) {mr : List (Str × Const)} (D : IsDef X "commonprefix" (fnP cpS) (fnB cpS) (fnS cpS mr)) {rows : List (List Int)} (hn : rows ≠ []) (ho : ∀ r ∈ rows, r.length ≤ sizeLine) (hz : rows.length < 2 ^ 62) :
    FnD X (k + 3) "commonprefix" [.list (rows.map dTup)] (dTup (lcp2 (minRow rows) (maxRow rows))) := by
  refine FnD.intro D ["m"] rfl (fun pm code doc vs hv => ?_) (by decide) (by rfl) ?_
  · match vs, hv with
    | [v], _ => rfl
  obtain ⟨r, rs, rfl⟩ := List.exists_cons_of_ne_nil hn
  refine Ex.cons (Ex.if (EvT.not (EvT.val (.local rfl) (by show ((List.map dTup (r :: rs)).length : Int) < 2 ^ 63; rw [List.length_map]; omega))) (fun hc => ?_) fun hc => ?_)
  · cases hc
  refine Ex.nil ?_
  refine Ex.cons (Ex.if (EvT.not (EvT.val (isin_row N (d := dTup r) (c := true) (EvP.builtin rfl N.isinstance rfl (by decide)) (Ev.item (.local rfl) .int (by decide) (by decide) rfl) (EvP.builtin rfl N.list rfl (by decide)) (EvP.builtin rfl N.tuple rfl (by decide)) (.inl ⟨.inr rfl, rfl⟩)) trivial)) (fun hc => ?_) fun hc => ?_)
  · cases hc
  refine Ex.nil ?_
  exact cp_tail N (seqK_tuple X) rfl (.inl rfl) hn ho fun x hx => Nat.lt_of_le_of_lt (ho x hx) (by decide)

theorem cp_bytes (N : Free X) {mr mf : List (Str × Const)} (D : IsDef X "commonprefix" (fnP cpS) (fnB cpS) (fnS cpS mr)) (Df : IsDef X "fspath" (fnP fsS) (fnB fsS) (fnS fsS mf)) {rows : List (List Int)} (hn : rows ≠ []) (ho : ∀ r ∈ rows, okB r) (hz : rows.length ≤ sizeLine) :
    FnD X (k + 6) "commonprefix" [.list (rows.map dBytes)] (dBytes (lcp2 (minRow rows) (maxRow rows))) := by
  refine FnD.intro D ["m"] rfl (fun pm code doc vs hv => ?_) (by decide) (by rfl) ?_
  · match vs, hv with
    | [v], _ => rfl
  obtain ⟨r, rs, rfl⟩ := List.exists_cons_of_ne_nil hn
  have hzz : (rs.length + 1 : Nat) ≤ sizeLine := hz
  have hbig : sizeLine < 2 ^ 62 := by decide
  refine Ex.cons (Ex.if (EvT.not (EvT.val (.local rfl) (by show ((List.map dBytes (r :: rs)).length : Int) < 2 ^ 63; rw [List.length_map, List.length_cons]; omega))) (fun hc => ?_) fun hc => ?_)
  · cases hc
  refine Ex.nil ?_
  refine Ex.cons (Ex.if (EvT.not (EvT.val (isin_row N (d := dBytes r) (c := false) (EvP.builtin rfl N.isinstance rfl (by decide)) (Ev.item (.local rfl) .int (by decide) (by decide) rfl) (EvP.builtin rfl N.list rfl (by decide)) (EvP.builtin rfl N.tuple rfl (by decide)) (.inr ⟨.inl rfl, rfl⟩)) trivial)) (fun hc => ?_) fun hc => ?_)
  · refine Ex.last (Ex.assign (d := .tuple ((r :: rs).map dBytes)) (Ev.tupleMap (k := k + 1) (EvP.builtin rfl N.tuple rfl (by decide)) (EvP.builtin rfl N.map rfl (by decide)) (.local rfl) rfl (fun d hd => ?_) (by simp) (fun d hd => ?_) (by rw [List.length_map]; exact hz)) ?_)
    · obtain ⟨x, _, rfl⟩ := List.mem_map.mp hd; trivial
    · obtain ⟨x, _, rfl⟩ := List.mem_map.mp hd; exact fspath_bytes N Df
    · exact cp_tail (k := k + 3) N (seqK_bytes X) rfl (.inr rfl) hn ho fun x hx => Nat.lt_of_le_of_lt (ho x hx).2 (by decide)
  · cases hc

variable {mk : List Int → Dat} {it : Int → Dat} {ok : List Int → Prop}
/-- a mixed list that begins with a list or a tuple -/
theorem cp_mixA (N : Free X) {mr : List (Str × Const)} (D : IsDef X "commonprefix" (fnP cpS) (fnB cpS) (fnS cpS mr)) (K : SeqK X mk it ok) {rows : List (List Int)} {e : Dat} {rest : List Dat} (hn : rows ≠ []) (ho : ∀ r ∈ rows, ok r) (hc : ∀ r ∈ rows, Clash e (mk r)) (hs : ∀ r, Seqs (mk r) true) (hz : (rows.map mk ++ e :: rest).length < 2 ^ 62) :
    FnR X (k + 3) "commonprefix" [.list (rows.map mk ++ e :: rest)] := by
  refine FnR.intro D ["m"] rfl (fun pm code doc vs hv => ?_) (by decide) (by rfl) ?_
  · match vs, hv with
    | [v], _ => rfl
  obtain ⟨r, rs, rfl⟩ := List.exists_cons_of_ne_nil hn
  refine ExR.cons (Ex.if (EvT.not (EvT.val (.local rfl) (by show ((List.map mk (r :: rs) ++ e :: rest).length : Int) < 2 ^ 63; omega))) (fun hc => nomatch hc) fun _ => Ex.nil ?_)
  refine ExR.cons (Ex.if (EvT.not (EvT.val (isin_row N (d := mk r) (c := true) (EvP.builtin rfl N.isinstance rfl (by decide)) (Ev.item (.local rfl) .int (by decide) (by decide) rfl) (EvP.builtin rfl N.list rfl (by decide)) (EvP.builtin rfl N.tuple rfl (by decide)) (hs r)) trivial)) (fun hc => nomatch hc) fun _ => Ex.nil ?_)
  exact ExR.first (ExR.assign (EvR.callB (EvP.builtin rfl N.min rfl (by decide)) (.cons (.local rfl) .nil) (op_minR K (.inl rfl) hn ho hc)))
/-- one in which fspath raises -/
theorem cp_mixB (N : Free X) (M : More X) {mr mf mp ma : List (Str × Const)} (D : IsDef X "commonprefix" (fnP cpS) (fnB cpS) (fnS cpS mr)) (Df : IsDef X "fspath" (fnP fsS) (fnB fsS) (fnS fsS mf)) (Dp : IsDef X "_plain_name" (fnP pnS) (fnB pnS) (fnS pnS mp)) (Da : IsDef X "_abc_plain_meta" (fnP apS) (fnB apS) (fnS apS ma))
    {pre rest : List Dat} {e d0 : Dat} (h0 : (pre ++ e :: rest)[0]? = some d0) (hs : Seqs d0 false) (hp : ∀ d ∈ pre, tyOf d = "bytes" ∨ tyOf d = "str") (he : tyOf e = "list" ∨ tyOf e = "tuple" ∨ tyOf e = "int") (hz : (pre ++ e :: rest).length ≤ sizeLine) :
    FnR X (k + 7) "commonprefix" [.list (pre ++ e :: rest)] := by
  refine FnR.intro D ["m"] rfl (fun pm code doc vs hv => ?_) (by decide) (by rfl) ?_
  · match vs, hv with
    | [v], _ => rfl
  have hbig : sizeLine < 2 ^ 62 := by decide
  have hl : 0 < (pre ++ e :: rest).length := by rw [List.length_append, List.length_cons]; omega
  have ht : Dat.isTrue (.list (pre ++ e :: rest)) = true := by cases pre <;> rfl
  refine ExR.cons (Ex.if (c := false) (EvT.to (EvT.not (EvT.val (.local rfl) (by show ((pre ++ e :: rest).length : Int) < 2 ^ 63; omega))) (by rw [ht]; rfl)) (fun hc => nomatch hc) fun _ => Ex.nil ?_)
  refine ExR.first (ExR.if (EvT.not (EvT.val (isin_row N (d := d0) (c := false) (EvP.builtin rfl N.isinstance rfl (by decide)) (Ev.item (.local rfl) .int (by decide) (by decide) h0) (EvP.builtin rfl N.list rfl (by decide)) (EvP.builtin rfl N.tuple rfl (by decide)) hs) trivial)) (fun _ => ?_) fun hc => nomatch hc)
  refine ExR.first (ExR.assign (EvR.tupleMap (k := k + 2) (EvP.builtin rfl N.tuple rfl (by decide)) (EvP.builtin rfl N.map rfl (by decide)) (.local rfl) rfl (fun d hd => ?_) (fspath_raises (k := k) N M Df Dp Da he) hz))
  rcases hp d hd with h | h
  · cases d <;> simp [tyOf] at h
    exact fspath_bytes (k := k + 1) N Df
  · cases d <;> simp [tyOf] at h
    exact fspath_text (k := k + 1) N Df
/-- octets and texts mixed -/
theorem cp_mixC (N : Free X) {mr mf : List (Str × Const)} (D : IsDef X "commonprefix" (fnP cpS) (fnB cpS) (fnS cpS mr)) (Df : IsDef X "fspath" (fnP fsS) (fnB fsS) (fnS fsS mf)) (K : SeqK X mk it ok)
    {rows : List (List Int)} {e : Dat} {rest : List Dat} (hn : rows ≠ []) (ho : ∀ r ∈ rows, ok r) (hc : ∀ r ∈ rows, Clash e (mk r)) (hs : ∀ r, Seqs (mk r) false) (hp : ∀ d ∈ rows.map mk ++ e :: rest, tyOf d = "bytes" ∨ tyOf d = "str") (hz : (rows.map mk ++ e :: rest).length ≤ sizeLine) :
    FnR X (k + 6) "commonprefix" [.list (rows.map mk ++ e :: rest)] := by
  refine FnR.intro D ["m"] rfl (fun pm code doc vs hv => ?_) (by decide) (by rfl) ?_
  · match vs, hv with
    | [v], _ => rfl
  have hbig : sizeLine < 2 ^ 62 := by decide
  obtain ⟨r, rs, rfl⟩ := List.exists_cons_of_ne_nil hn
  refine ExR.cons (Ex.if (EvT.not (EvT.val (.local rfl) (by show ((List.map mk (r :: rs) ++ e :: rest).length : Int) < 2 ^ 63; omega))) (fun hc => nomatch hc) fun _ => Ex.nil ?_)
  refine ExR.cons (Ex.if (EvT.not (EvT.val (isin_row N (d := mk r) (c := false) (EvP.builtin rfl N.isinstance rfl (by decide)) (Ev.item (.local rfl) .int (by decide) (by decide) rfl) (EvP.builtin rfl N.list rfl (by decide)) (EvP.builtin rfl N.tuple rfl (by decide)) (hs r)) trivial)) (fun _ => ?_) fun hc => nomatch hc)
  refine Ex.last (Ex.assign (d := .tuple ((r :: rs).map mk ++ e :: rest)) (Ev.tupleMap (k := k + 1) (EvP.builtin rfl N.tuple rfl (by decide)) (EvP.builtin rfl N.map rfl (by decide)) (.local rfl) rfl (fun d hd => ?_) (by simp) (fun d hd => ?_) hz) ?_)
  · rcases hp d hd with h | h <;> (cases d <;> simp [tyOf] at h) <;> trivial
  · rcases hp d hd with h | h
    · cases d <;> simp [tyOf] at h
      exact fspath_bytes N Df
    · cases d <;> simp [tyOf] at h
      exact fspath_text N Df
  · exact ExR.first (ExR.assign (EvR.callB (EvP.builtin rfl N.min rfl (by decide)) (.cons (.local rfl) .nil) (op_minR (k := k + 3) K (.inr rfl) hn ho hc)))
end
end Mine

namespace Mine
open PySem PySem.W PyProof.Rows PySem.Calls
set_option Elab.async false
set_option maxRecDepth 100000
set_option linter.unusedVariables false
abbrev itemsS : Stmt := stAt body 13
abbrev lawS : Stmt := stAt body 14

theorem Ex.mid {X : Cx} {k : Nat} {sc : Scope} {τ : Sto} {st : Stmt} {rest : List Stmt} {R : Out → Prop} (Mid : Sto → Prop) (h : Ex X k sc τ (exec st) (fun o => ∃ τ', o = .next τ' ∧ Mid τ')) (r : ∀ τ', Mid τ' → Ex X k sc τ' (execs rest) R) : Ex X k sc τ (execs (st :: rest)) R :=
  Ex.cons (h.mono fun o ⟨τ', e, q⟩ => by subst e; exact r τ' q)

/-- a word of the law's -/
def AS (w : List Int) : Prop := w.length ≤ 24 ∧ ∀ c ∈ w, c = 97 ∨ c = 98 ∨ c = 46 ∨ c = 47
theorem as_okT {w : List Int} (h : AS w) : okT w := ⟨fun n hn => by rcases h.2 n hn with e | e | e | e <;> omega, small _ (by have := h.1; omega)⟩
theorem as_okB {w : List Int} (h : AS w) : okB w := ⟨fun n hn => by rcases h.2 n hn with e | e | e | e <;> omega, small _ (by have := h.1; omega)⟩
theorem as_okL {w : List Int} (h : AS w) : okL w := small _ (by have := h.1; omega)
theorem as_take {w : List Int} (h : AS w) (n : Nat) : AS (w.take n) := ⟨by rw [List.length_take]; have := h.1; omega, fun c hc => h.2 c (List.mem_of_mem_take hc)⟩

/-- an item: its kind, its word, its number -/
structure It where
  q : Nat
  w : List Int
  x : Int
def datOf (t : It) : Dat := match t.q with
  | 0 => dBytes t.w
  | 1 => dList t.w
  | 2 => dTup t.w
  | 3 => dText t.w
  | _ => .int t.x
def kinD (t : It) : Dat := .int (t.q : Nat)
def Good (b : Nat) (ts : List It) : Prop := (∀ t ∈ ts, t.q < 5 ∧ AS t.w) ∧ ∀ t, ts.head? = some t → t.q = b
theorem Good.snoc {b : Nat} {ts : List It} {t : It} (h : Good b ts) (h1 : t.q < 5) (h2 : AS t.w) (h3 : ts = [] → t.q = b) : Good b (ts ++ [t]) := by
  refine ⟨fun u hu => ?_, fun u hu => ?_⟩
  · rcases List.mem_append.mp hu with hu | hu
    · exact h.1 u hu
    · rw [List.mem_singleton.mp hu]; exact ⟨h1, h2⟩
  · cases ts with
    | nil => simp at hu; subst hu; exact h3 rfl
    | cons a ts => simp at hu; exact h.2 u (by simp [hu])

section
variable {X : Cx} {k : Nat}
theorem items_fn (N : Free X) (S : Stands X "_law_items" itemsS) {ns : List Int} (hn : ns.length ≤ 63) :
    Fn X (k + 1) "_law_items" [dList ns] fun g v => ∃ d, (∃ ts : List It, d = .tuple [.list (ts.map datOf), .list (ts.map kinD)] ∧ ts.length = ns.length ∧ Good (ns.length % 3) ts) ∧ Rep g v d := by
  obtain ⟨mm, D⟩ := S
  refine Fn.intro D ["script"] rfl (fun pm code doc vs hv => ?_) (by decide) (by rfl) ?_
  · match vs, hv with
    | [v], _ => rfl
  have hb3 : ns.length % 3 < 3 := Nat.mod_lt _ (by decide)
  refine Ex.cons (Ex.assign (d := .int ((ns.length % 3 : Nat) : Int)) (Ev.to (Ev.bin (EvP.callB (EvP.builtin rfl N.len rfl (by decide)) (.cons (.local rfl) .nil) (len_ints (by omega))) .int (op_mod (by decide))) ?_) ?_)
  · congr 1; exact fmodNat ns.length 3
  generalize ns.length % 3 = b at *
  refine Ex.cons (Ex.assignNil ?_)
  refine Ex.cons (Ex.assignNil ?_)
  refine Ex.cons (Ex.assign .str ?_)
  refine Ex.cons (Ex.for_ (ds := dInts ns) (Its.list (.local rfl)) (fun i τ => ∃ (last : List Int) (ts : List It), τ.lookup ("last" : Str) = some (.dat (dText last)) ∧ AS last ∧ τ.lookup ("items" : Str) = some (LV.list (ts.map datOf)) ∧ τ.lookup ("kinds" : Str) = some (LV.list (ts.map kinD)) ∧ τ.lookup ("base" : Str) = some (.dat (.int (b : Nat))) ∧ ts.length = i ∧ Good b ts)
    ⟨[], [], rfl, ⟨by decide, by simp⟩, rfl, rfl, rfl, rfl, ⟨by simp, by simp⟩⟩ (fun i τ' d hd ⟨last, ts, h1, h2, h3, h4, h5, h6, h7⟩ => ?_) (fun τ' ⟨last, ts, h1, h2, h3, h4, h5, h6, h7⟩ => ?_))
  · have hi : i < ns.length := by have := (List.getElem?_eq_some_iff.mp hd).1; rwa [dInts_length] at this
    rw [dInts_get hd]
    generalize ns.getD i 0 = x
    have l1 := upd_other (x := ("x" : Str)) (lv := .dat (.int x)) (by decide) h1
    have l3 := upd_other (x := ("x" : Str)) (lv := .dat (.int x)) (by decide) h3
    have l4 := upd_other (x := ("x" : Str)) (lv := .dat (.int x)) (by decide) h4
    have l5 := upd_other (x := ("x" : Str)) (lv := .dat (.int x)) (by decide) h5
    have lx := upd_same (x := ("x" : Str)) (y := ("x" : Str)) (lv := .dat (.int x)) (τ := τ') rfl
    generalize upd ("x" : Str) (.dat (.int x)) τ' = τ at *
    have hlen := h2.1
    refine Ex.cons (Ex.assignS2 (d := .int (b : Nat)) (e := .int (x.natAbs : Nat)) (Ev.tuple (.cons (.local l5) (.cons (EvP.callB (EvP.builtin rfl N.abs rfl (by decide)) (.cons (.local lx) .nil) op_abs) .nil))) ?_)
    refine Ex.mid (fun τ => ∃ (q L : Nat), τ.lookup ("last" : Str) = some (.dat (dText last)) ∧ τ.lookup ("items" : Str) = some (LV.list (ts.map datOf)) ∧ τ.lookup ("kinds" : Str) = some (LV.list (ts.map kinD)) ∧ τ.lookup ("base" : Str) = some (.dat (.int (b : Nat))) ∧ τ.lookup ("x" : Str) = some (.dat (.int x)) ∧
      τ.lookup ("kind" : Str) = some (.dat (.int (q : Nat))) ∧ τ.lookup ("left" : Str) = some (.dat (.int (L : Nat))) ∧ q < 5 ∧ (ts = [] → q = b)) (Ex.if (EvT.and (EvT.cmp (.local (upd_other (by decide) (upd_other (by decide) lx))) .int op_lt) (fun _ => EvT.neNilOwn (upd_other (by decide) (upd_other (by decide) l3)))) (fun hc => ?_) fun hc => ?_) (fun τ2 ⟨q, L, k1, k3, k4, k5, kx, kk, kl, hq, hqb⟩ => ?_)
    · refine Ex.last (Ex.assignS2 (d := .int (((b + 1 + x.natAbs % 4) % 5 : Nat) : Int)) (e := .int ((x.natAbs / 4 : Nat) : Int)) (Ev.tuple (.cons (Ev.to (Ev.bin (Ev.bin (Ev.bin (.local (upd_other (by decide) (upd_other (by decide) l5))) .int op_add) (Ev.bin (.local (upd_other (by decide) (upd_same rfl))) .int (op_mod (by decide))) op_add) .int (op_mod (by decide))) ?_) (.cons (Ev.to (Ev.bin (.local (upd_other (by decide) (upd_same rfl))) .int (op_div (by decide) (PyProof.noPylong_small (by decide)))) ?_) .nil))) ?_)
      · congr 1
        have e := fmodNat x.natAbs 4
        have e' : ((x.natAbs : Nat) : Int).fmod 4 = ((x.natAbs % 4 : Nat) : Int) := e
        rw [e']
        exact fmodNat (b + 1 + x.natAbs % 4) 5
      · congr 1; exact fdivNat x.natAbs 4
      · refine ⟨_, rfl, (b + 1 + x.natAbs % 4) % 5, x.natAbs / 4, ?_⟩
        refine ⟨upd_other (by decide) (upd_other (by decide) (upd_other (by decide) (upd_other (by decide) l1))), upd_other (by decide) (upd_other (by decide) (upd_other (by decide) (upd_other (by decide) l3))), upd_other (by decide) (upd_other (by decide) (upd_other (by decide) (upd_other (by decide) l4))), upd_other (by decide) (upd_other (by decide) (upd_other (by decide) (upd_other (by decide) l5))), upd_other (by decide) (upd_other (by decide) (upd_other (by decide) (upd_other (by decide) lx))), upd_same rfl, upd_other (by decide) (upd_same rfl), Nat.mod_lt _ (by decide), fun e => ?_⟩
        subst e
        simp at hc
    · exact Ex.nil ⟨_, rfl, b, x.natAbs, upd_other (by decide) (upd_other (by decide) l1), upd_other (by decide) (upd_other (by decide) l3), upd_other (by decide) (upd_other (by decide) l4), upd_other (by decide) (upd_other (by decide) l5), upd_other (by decide) (upd_other (by decide) lx), upd_same rfl, upd_other (by decide) (upd_same rfl), by omega, fun _ => rfl⟩
    refine Ex.cons (Ex.assignT2 (EvP.callB (EvP.builtin rfl N.divmod rfl (by decide)) (.cons (.local kl) (.cons (Ev.bin (EvP.callB (EvP.builtin rfl N.len rfl (by decide)) (.cons (.local k1) .nil) (len_text (by omega))) .int op_add) .nil)) (op_divmod (by omega) (by omega))) ?_)
    have e1 : ((L : Nat) : Int).fdiv ((last.length : Nat) + 1) = ((L / (last.length + 1) : Nat) : Int) := fdivNat L (last.length + 1)
    have e2 : ((L : Nat) : Int).fmod ((last.length : Nat) + 1) = ((L % (last.length + 1) : Nat) : Int) := fmodNat L (last.length + 1)
    have hdrop : L % (last.length + 1) ≤ last.length := by have := Nat.mod_lt L (show last.length + 1 > 0 by omega); omega
    rw [e1, e2]
    generalize L % (last.length + 1) = drop at *
    generalize L / (last.length + 1) = left at *
    refine Ex.cons (Ex.assign (d := dText (last.take (last.length - drop))) (Ev.to (Ev.sliceS (.local (upd_other (by decide) (upd_other (by decide) k1))) .none (.some (i := ((last.length - drop : Nat) : Int)) (Ev.to (Ev.bin (EvP.callB (EvP.builtin rfl N.len rfl (by decide)) (.cons (.local (upd_other (by decide) (upd_other (by decide) k1))) .nil) (len_text (by omega))) (.local (upd_same rfl)) op_sub) ?_)) (by rw [strOf_length]; exact small _ (by omega))) ?_) ?_)
    · congr 1; omega
    · rw [cutS_strOf, cut_upto]; rfl
    have h2' := as_take h2 (last.length - drop)
    generalize last.take (last.length - drop) = last' at *
    refine Ex.cons (Ex.while_ (fun n τ => ∃ (w : List Int) (left : Int), n = 24 - w.length ∧ AS w ∧ τ.lookup ("last" : Str) = some (.dat (dText w)) ∧ τ.lookup ("left" : Str) = some (.dat (.int left)) ∧ τ.lookup ("items" : Str) = some (LV.list (ts.map datOf)) ∧ τ.lookup ("kinds" : Str) = some (LV.list (ts.map kinD)) ∧ τ.lookup ("base" : Str) = some (.dat (.int (b : Nat))) ∧ τ.lookup ("x" : Str) = some (.dat (.int x)) ∧ τ.lookup ("kind" : Str) = some (.dat (.int (q : Nat)))) _
      ⟨last', (left : Nat), rfl, h2', upd_same rfl, upd_other (by decide) (upd_other (by decide) (upd_same rfl)), upd_other (by decide) (upd_other (by decide) (upd_other (by decide) k3)), upd_other (by decide) (upd_other (by decide) (upd_other (by decide) k4)), upd_other (by decide) (upd_other (by decide) (upd_other (by decide) k5)), upd_other (by decide) (upd_other (by decide) (upd_other (by decide) kx)), upd_other (by decide) (upd_other (by decide) (upd_other (by decide) kk))⟩ (fun n τ3 ⟨w, lf, q1, q2, q3, q4, q5, q6, q7, q8, q9⟩ => ?_))
    have hw24 := q2.1
    refine ⟨decide (0 < lf) && decide ((w.length : Int) < 24), EvT.and (EvT.cmp (.local q4) .int op_gt) (fun _ => EvT.cmp (EvP.callB (EvP.builtin rfl N.len rfl (by decide)) (.cons (.local q3) .nil) (len_text (by omega))) .int op_lt), fun hc => ?_, fun hc => ?_⟩
    · simp only [Bool.and_eq_true, decide_eq_true_eq] at hc
      refine Ex.cons (Ex.assignT2 (EvP.callB (EvP.builtin rfl N.divmod rfl (by decide)) (.cons (Ev.bin (.local q4) .int op_sub) (.cons .int .nil)) (op_divmod (by decide) (by decide))) ?_)
      have hm := Int.fmod_nonneg_of_pos (lf - 1) (show (0 : Int) < 4 by decide)
      have hm2 := Int.fmod_lt_of_pos (lf - 1) (show (0 : Int) < 4 by decide)
      generalize (lf - 1).fmod 4 = st at *
      generalize (lf - 1).fdiv 4 = lf' at *
      obtain ⟨c, hc1, hc2⟩ : ∃ c : Int, (c = 97 ∨ c = 98 ∨ c = 46 ∨ c = 47) ∧ (Str.ofString "ab./").cps[st.toNat]? = some c.toNat := by
        rcases (show st = 0 ∨ st = 1 ∨ st = 2 ∨ st = 3 by omega) with h | h | h | h
        · subst h; exact ⟨97, .inl rfl, by decide⟩
        · subst h; exact ⟨98, .inr (.inl rfl), by decide⟩
        · subst h; exact ⟨46, .inr (.inr (.inl rfl)), by decide⟩
        · subst h; exact ⟨47, .inr (.inr (.inr rfl)), by decide⟩
      refine Ex.last (Ex.assign (d := dText (w ++ [c])) (Ev.to (Ev.bin (.local (upd_other (by decide) (upd_other (by decide) q3))) (Ev.itemS .str (.local (upd_same rfl)) hm (by omega) hc2) (op_addS ?_)) ?_) ?_)
      · rw [strOf_length]; exact Nat.le_trans (show w.length + 1 ≤ 64 by omega) (by decide)
      · show Dat.str (strOf w ++ strOf [c]) = _
        rw [← strOf_append]; rfl
      · refine ⟨24 - (w ++ [c]).length, by rw [q1]; simp; omega, w ++ [c], lf', rfl, ⟨by simp; omega, fun z hz => ?_⟩, upd_same rfl, upd_other (by decide) (upd_other (by decide) (upd_same rfl)), upd_other (by decide) (upd_other (by decide) (upd_other (by decide) q5)), upd_other (by decide) (upd_other (by decide) (upd_other (by decide) q6)), upd_other (by decide) (upd_other (by decide) (upd_other (by decide) q7)), upd_other (by decide) (upd_other (by decide) (upd_other (by decide) q8)), upd_other (by decide) (upd_other (by decide) (upd_other (by decide) q9))⟩
        rcases List.mem_append.mp hz with hz | hz
        · exact q2.2 z hz
        · rw [List.mem_singleton.mp hz]; exact hc1
    · have hw24 := q2.1
      refine Ex.cons (Ex.assignCompMap (l := w) (toD := fun c => .str ⟨#[c.toNat]⟩) (f := .int) (by rw [← chars_strOf]; exact Its.str (.local q3)) [] .of .nil rfl (fun c hc => ?_) (small _ (by omega)) ?_ rfl ?_)
      · exact EvP.callB (EvP.builtin rfl N.ord rfl (by decide)) (.cons (.local rfl) .nil) (op_ord (by rcases q2.2 c hc with e | e | e | e <;> omega))
      · have q3' := upd_other (x := ("octets" : Str)) (lv := .dat (dList w)) (by decide) q3
        have q5' := upd_other (x := ("octets" : Str)) (lv := .dat (dList w)) (by decide) q5
        have q6' := upd_other (x := ("octets" : Str)) (lv := .dat (dList w)) (by decide) q6
        have q7' := upd_other (x := ("octets" : Str)) (lv := .dat (dList w)) (by decide) q7
        have q8' := upd_other (x := ("octets" : Str)) (lv := .dat (dList w)) (by decide) q8
        have q9' := upd_other (x := ("octets" : Str)) (lv := .dat (dList w)) (by decide) q9
        have qo := upd_same (x := ("octets" : Str)) (y := ("octets" : Str)) (lv := .dat (dList w)) (τ := τ3) rfl
        show Ex X k _ (upd ("octets" : Str) (.dat (dList w)) τ3) _ _
        generalize upd ("octets" : Str) (.dat (dList w)) τ3 = τ4 at *
        refine Ex.cons (Ex.append q5' (d := datOf ⟨q, w, x⟩) (Ev.item (Ev.list (.cons (EvP.callT (EvP.builtin rfl N.bytes rfl (by decide)) (.cons (.local qo) .nil) (op_bytes (as_okB q2))) (.cons (.local qo) (.cons (EvP.callT (EvP.builtin rfl N.tuple rfl (by decide)) (.cons (.local qo) .nil) (op_tupleL (by rw [dInts_length]; exact small _ (by omega)))) (.cons (.local q3') (.cons (.local q8') .nil)))))) (.local q9') (by omega) (by omega) ?_) ?_ (by rw [List.length_map]; exact small _ (by omega)))
        · rcases (show q = 0 ∨ q = 1 ∨ q = 2 ∨ q = 3 ∨ q = 4 by omega) with h | h | h | h | h <;> subst h <;> rfl
        · refine Ex.last (Ex.append (upd_other (by decide) q6') (.local (upd_other (by decide) q9')) ?_ (by rw [List.length_map]; exact small _ (by omega)))
          refine ⟨w, ts ++ [⟨q, w, x⟩], upd_other (by decide) (upd_other (by decide) q3'), q2, ?_, ?_, upd_other (by decide) (upd_other (by decide) q7'), by simp [h6], h7.snoc hq q2 hqb⟩
          · rw [upd_other (by decide) (upd_same rfl)]; simp
          · rw [upd_same rfl]; simp [kinD]
      · intro env hk hl; exact swaps_comp hk hl
  · refine Ex.freeze h3 (Ex.freeze (upd_other (by decide) h4) (Ex.last (Ex.return (Ev.tuple (.cons (.local (upd_other (by decide) (upd_same rfl))) (.cons (.local (upd_same rfl)) .nil))) ⟨ts, rfl, ?_, h7⟩)))
    rw [h6, dInts_length]
end
end Mine

namespace Mine
open PySem PySem.W PyProof.Rows PySem.Calls
set_option Elab.async false
set_option maxRecDepth 100000
set_option linter.unusedVariables false

/-- a row at which the law's loop stops -/
def stops (r0 : List Int) (n : Nat) (r : List Int) : Bool := ((r.length : Int) == (n : Int)) || !decide (r.take (n + 1) = r0.take (n + 1))
section
variable {rows : List (List Int)} {r0 c : List Int}
theorem no_stop (h : IsCp rows c) (h0 : r0 ∈ rows) {n : Nat} (hn : n < c.length) : rows.filter (stops r0 n) = [] := by
  rw [List.filter_eq_nil_iff]
  intro r hr
  have p := h.1 r hr
  have p0 := h.1 r0 h0
  have hl := p.length_le
  have hl0 := p0.length_le
  have e : ∀ {s : List Int}, c <+: s → s.take (n + 1) = c.take (n + 1) := by
    intro s hs
    obtain ⟨t, rfl⟩ := hs
    rw [List.take_append_of_le_length (by omega)]
  unfold stops
  rw [e p, e p0]
  simp
  omega
theorem stop_at (h : IsCp rows c) (h0 : r0 ∈ rows) : rows.filter (stops r0 c.length) ≠ [] := by
  intro hf
  rw [List.filter_eq_nil_iff] at hf
  have key : ∀ r ∈ rows, c.length < r.length ∧ r.take (c.length + 1) = r0.take (c.length + 1) := by
    intro r hr
    have := hf r hr
    unfold stops at this
    simp only [Bool.or_eq_true, beq_iff_eq, Bool.not_eq_true', decide_eq_false_iff_not, not_or, Decidable.not_not] at this
    have hl := (h.1 r hr).length_le
    exact ⟨by omega, this.2⟩
  have hp : r0.take (c.length + 1) <+: c := h.2 _ fun r hr => by
    rw [← (key r hr).2]; exact List.take_prefix _ _
  have hl := hp.length_le
  rw [List.length_take] at hl
  have := (key r0 h0).1
  omega
theorem take_cp (h : IsCp rows c) (h0 : r0 ∈ rows) : r0.take c.length = c := by
  exact (List.prefix_iff_eq_take.mp (h.1 r0 h0)).symm
end

theorem split_first {α : Type} (p : α → Bool) : ∀ (l : List α), (∃ x ∈ l, p x = true) → ∃ pre e rest, l = pre ++ e :: rest ∧ (∀ y ∈ pre, p y = false) ∧ p e = true
  | [], ⟨x, hx, _⟩ => by cases hx
  | a :: l, ⟨x, hx, hp⟩ => by
    cases ha : p a with
    | true => exact ⟨[], a, l, rfl, (fun y hy => nomatch hy), ha⟩
    | false =>
      have : ∃ x ∈ l, p x = true := by
        rcases List.mem_cons.mp hx with rfl | hx
        · rw [ha] at hp; cases hp
        · exact ⟨x, hx, hp⟩
      obtain ⟨pre, e, rest, h1, h2, h3⟩ := split_first p l this
      refine ⟨a :: pre, e, rest, by rw [h1]; rfl, fun y hy => ?_, h3⟩
      rcases List.mem_cons.mp hy with rfl | hy
      · exact ha
      · exact h2 y hy

/-- items of one kind are rows of that kind -/
theorem map_kind {q : Nat} {mk : List Int → Dat} (hq : ∀ t : It, t.q = q → datOf t = mk t.w) {l : List It} (h : ∀ t ∈ l, t.q = q) : l.map datOf = (l.map It.w).map mk := by
  rw [List.map_map]
  exact List.map_congr_left fun t ht => hq t (h t ht)
theorem dat0 (t : It) (h : t.q = 0) : datOf t = dBytes t.w := by unfold datOf; rw [h]; rfl
theorem dat1 (t : It) (h : t.q = 1) : datOf t = dList t.w := by unfold datOf; rw [h]; rfl
theorem dat2 (t : It) (h : t.q = 2) : datOf t = dTup t.w := by unfold datOf; rw [h]; rfl
theorem dat3 (t : It) (h : t.q = 3) : datOf t = dText t.w := by unfold datOf; rw [h]; rfl
theorem dat4 (t : It) (h : t.q = 4) : datOf t = .int t.x := by unfold datOf; rw [h]; rfl
theorem ty_of {t : It} (h : t.q < 5) : (t.q = 0 ∧ tyOf (datOf t) = "bytes") ∨ (t.q = 1 ∧ tyOf (datOf t) = "list") ∨ (t.q = 2 ∧ tyOf (datOf t) = "tuple") ∨ (t.q = 3 ∧ tyOf (datOf t) = "str") ∨ (t.q = 4 ∧ tyOf (datOf t) = "int") := by
  rcases (show t.q = 0 ∨ t.q = 1 ∨ t.q = 2 ∨ t.q = 3 ∨ t.q = 4 by omega) with h | h | h | h | h
  · exact .inl ⟨h, by rw [dat0 t h]; rfl⟩
  · exact .inr (.inl ⟨h, by rw [dat1 t h]; rfl⟩)
  · exact .inr (.inr (.inl ⟨h, by rw [dat2 t h]; rfl⟩))
  · exact .inr (.inr (.inr (.inl ⟨h, by rw [dat3 t h]; rfl⟩)))
  · exact .inr (.inr (.inr (.inr ⟨h, by rw [dat4 t h]; rfl⟩)))

section
variable {X : Cx} {k : Nat}
/-- commonprefix of mixed items raises -/
theorem cp_mixed (N : Free X) (M : More X) {mr mf mp ma : List (Str × Const)} (D : IsDef X "commonprefix" (fnP cpS) (fnB cpS) (fnS cpS mr)) (Df : IsDef X "fspath" (fnP fsS) (fnB fsS) (fnS fsS mf)) (Dp : IsDef X "_plain_name" (fnP pnS) (fnB pnS) (fnS pnS mp)) (Da : IsDef X "_abc_plain_meta" (fnP apS) (fnB apS) (fnS apS ma))
    {us : List It} (hg : ∀ t ∈ us, t.q < 5 ∧ AS t.w) (hm : ∃ a ∈ us, ∃ b ∈ us, a.q ≠ b.q) (hz : us.length ≤ 63) : FnR X (k + 7) "commonprefix" [.list (us.map datOf)] := by
  have le7 : ∀ {j : Nat} {ds : List Dat}, j ≤ k + 7 → FnR X j "commonprefix" ds → FnR X (k + 7) "commonprefix" ds := by
    rintro j ds hj ⟨a, o, fd, h1, h2, h3, hop⟩
    exact ⟨a, o, fd, h1, h2, h3, fun g s vs b0 kk r A base l rm => hop g s vs b0 kk r A base l (rm.le hj)⟩
  obtain ⟨t0, us', e0⟩ : ∃ t0 us', us = t0 :: us' := by
    obtain ⟨a, ha, _⟩ := hm
    cases us with
    | nil => cases ha
    | cons t l => exact ⟨t, l, rfl⟩
  have hm0 : ∃ x ∈ us, (fun t : It => decide (t.q ≠ t0.q)) x = true := by
    obtain ⟨a, ha, b, hb, hab⟩ := hm
    by_cases h : a.q = t0.q
    · exact ⟨b, hb, by simp; omega⟩
    · exact ⟨a, ha, by simpa using h⟩
  obtain ⟨pre, e, rest, h1, h2, h3⟩ := split_first _ us hm0
  simp only [decide_eq_false_iff_not, Decidable.not_not, decide_eq_true_eq] at h2 h3
  have hne : pre ≠ [] := by
    rintro rfl
    rw [e0] at h1
    simp at h1
    exact h3 (by rw [← h1.1])
  have hpre : ∀ t ∈ pre, t ∈ us := fun t ht => by rw [h1]; exact List.mem_append_left _ ht
  have hge := hg e (by rw [h1]; simp)
  have hg0 := hg t0 (by rw [e0]; simp)
  have rows_ne : pre.map It.w ≠ [] := by simpa using hne
  have rows_as : ∀ r ∈ pre.map It.w, AS r := fun r hr => by
    obtain ⟨t, ht, rfl⟩ := List.mem_map.mp hr
    exact (hg t (hpre t ht)).2
  have lenus : (us.map datOf).length ≤ 63 := by rw [List.length_map]; exact hz
  have hsz : (63 : Nat) ≤ sizeLine := by decide
  have dats : ∀ {mk : List Int → Dat}, (∀ t : It, t.q = t0.q → datOf t = mk t.w) → us.map datOf = (pre.map It.w).map mk ++ datOf e :: rest.map datOf := by
    intro mk hq
    rw [h1, List.map_append, List.map_cons, map_kind hq h2]
  have te := ty_of hge.1
  by_cases flat : t0.q = 0 ∨ t0.q = 3 ∨ t0.q = 4
  · by_cases all : ∃ x ∈ us, (fun t : It => decide (t.q = 1 ∨ t.q = 2 ∨ t.q = 4)) x = true
    · obtain ⟨pre2, e2, rest2, k1, k2, k3⟩ := split_first _ us all
      simp only [decide_eq_false_iff_not, decide_eq_true_eq] at k2 k3
      have ed : us.map datOf = pre2.map datOf ++ datOf e2 :: rest2.map datOf := by rw [k1, List.map_append, List.map_cons]
      rw [ed] at lenus ⊢
      refine le7 (Nat.le_refl _) (cp_mixB (k := k) N M D Df Dp Da (d0 := datOf t0) ?_ ?_ (fun d hd => ?_) ?_ (Nat.le_trans lenus hsz))
      · rw [← ed, e0]; rfl
      · rcases ty_of hg0.1 with ⟨h, y⟩ | ⟨h, y⟩ | ⟨h, y⟩ | ⟨h, y⟩ | ⟨h, y⟩
        · exact .inr ⟨.inl y, rfl⟩
        · omega
        · omega
        · exact .inr ⟨.inr (.inl y), rfl⟩
        · exact .inr ⟨.inr (.inr y), rfl⟩
      · obtain ⟨t, ht, rfl⟩ := List.mem_map.mp hd
        have := k2 t ht
        rcases ty_of (hg t (by rw [k1]; exact List.mem_append_left _ ht)).1 with ⟨h, y⟩ | ⟨h, y⟩ | ⟨h, y⟩ | ⟨h, y⟩ | ⟨h, y⟩
        · exact .inl y
        · omega
        · omega
        · exact .inr y
        · omega
      · rcases ty_of (hg e2 (by rw [k1]; simp)).1 with ⟨h, y⟩ | ⟨h, y⟩ | ⟨h, y⟩ | ⟨h, y⟩ | ⟨h, y⟩
        · omega
        · exact .inl y
        · exact .inr (.inl y)
        · omega
        · exact .inr (.inr y)
    · have k2 : ∀ t ∈ us, t.q = 0 ∨ t.q = 3 := by
        intro t ht
        have h5 := (hg t ht).1
        have : ¬ (t.q = 1 ∨ t.q = 2 ∨ t.q = 4) := fun z => all ⟨t, ht, by simpa using z⟩
        omega
      have allp : ∀ d ∈ us.map datOf, tyOf d = "bytes" ∨ tyOf d = "str" := fun d hd => by
        obtain ⟨t, ht, rfl⟩ := List.mem_map.mp hd
        rcases k2 t ht with h | h
        · left; rw [dat0 t h]; rfl
        · right; rw [dat3 t h]; rfl
      have ke := k2 e (by rw [h1]; simp)
      rcases k2 t0 (by rw [e0]; simp) with hq0 | hq0
      · have ed := dats (mk := dBytes) fun t ht => dat0 t (by omega)
        rw [ed] at lenus allp ⊢
        refine le7 (Nat.le_succ _) (cp_mixC (k := k) N D Df (seqK_bytes X) rows_ne (fun r hr => as_okB (rows_as r hr)) (fun r hr => ?_) (fun r => .inr ⟨.inl rfl, rfl⟩) allp (Nat.le_trans lenus hsz))
        have : e.q = 3 := by omega
        exact .inr (.inr (.inl ⟨rfl, by rw [dat3 e this]; rfl⟩))
      · have ed := dats (mk := dText) fun t ht => dat3 t (by omega)
        rw [ed] at lenus allp ⊢
        refine le7 (Nat.le_succ _) (cp_mixC (k := k) N D Df (seqK_text X) rows_ne (fun r hr => as_okT (rows_as r hr)) (fun r hr => ?_) (fun r => .inr ⟨.inr (.inl rfl), rfl⟩) allp (Nat.le_trans lenus hsz))
        have : e.q = 0 := by omega
        exact .inr (.inr (.inr ⟨rfl, by rw [dat0 e this]; rfl⟩))
  · have h12 : t0.q = 1 ∨ t0.q = 2 := by have := hg0.1; omega
    rcases h12 with hq0 | hq0
    · have ed := dats (mk := dList) fun t ht => dat1 t (by omega)
      rw [ed] at lenus ⊢
      refine le7 (by omega) (cp_mixA (k := k) N D (seqK_list X) rows_ne (fun r hr => as_okL (rows_as r hr)) (fun r hr => .inl ⟨rfl, ?_⟩) (fun r => .inl ⟨.inl rfl, rfl⟩) (by omega))
      rcases te with ⟨h, y⟩ | ⟨h, y⟩ | ⟨h, y⟩ | ⟨h, y⟩ | ⟨h, y⟩
      · exact .inl y
      · omega
      · exact .inr (.inl y)
      · exact .inr (.inr (.inl y))
      · exact .inr (.inr (.inr y))
    · have ed := dats (mk := dTup) fun t ht => dat2 t (by omega)
      rw [ed] at lenus ⊢
      refine le7 (by omega) (cp_mixA (k := k) N D (seqK_tuple X) rows_ne (fun r hr => as_okL (rows_as r hr)) (fun r hr => .inr (.inl ⟨rfl, ?_⟩)) (fun r => .inl ⟨.inr rfl, rfl⟩) (by omega))
      rcases te with ⟨h, y⟩ | ⟨h, y⟩ | ⟨h, y⟩ | ⟨h, y⟩ | ⟨h, y⟩
      · exact .inl y
      · exact .inr (.inl y)
      · omega
      · exact .inr (.inr (.inl y))
      · exact .inr (.inr (.inr y))
end
end Mine

namespace Mine
open PySem PySem.W PyProof.Rows PySem.Calls
set_option Elab.async false
set_option maxRecDepth 100000
set_option linter.unusedVariables false

section
variable {X : Cx} {k : Nat} {sc : Scope} {τ : Sto}
theorem Ex.assignT2P {a b : Str} {pa pb pt pos : Pos} {n : Nat} {e : Expr} {P : Dat → Dat → Prop} {R : Out → Prop} (h : EvP X k sc τ e fun g v => ∃ d0 d1, P d0 d1 ∧ Rep g v (.tuple [d0, d1])) (hr : ∀ d0 d1, P d0 d1 → R (.next (upd b (.dat d1) (upd a (.dat d0) τ)))) (ha : canStore sc a = true := by rfl) (hb : canStore sc b = true := by rfl)
    (hs : ∀ env, swapsWithSole [.Tuple [.Name a pa, .Name b pb] n pt] e pos.line env = pure false := by intro _; rfl) (hw : ∀ env, EnvOk env sc → swappedStores [.Tuple [.Name a pa, .Name b pb] n pt] e env = pure Option.none := by intro _ _; rfl) :
    Ex X k sc τ (exec (.Assign [.Tuple [.Name a pa, .Name b pb] n pt] e pos)) R := by
  intro A env s₀ g₀ H g m cm s E r o b F
  refine Assign_Tuple (wp_ev (h A env g s E r o (b.trans F.st.gg) F.sto) fun v g' s' k1 x1 p1 => ?_) (hs env) (hw env o)
  have F1 := F.ev k1 x1
  obtain ⟨d0, d1, hp, p1⟩ := p1
  cases p1 with
  | tuple it rr =>
    obtain ⟨v0, v1, he, r0, r1⟩ := rep2 rr
    subst he
    exact wp_assign2 F1 o r (isTup_sub x1.gh it) r0 r1 ha hb fun m' cm' s'' F' => ⟨_, g', m', cm', hr d0 d1 hp, F'⟩
theorem ExS.mid {st : Stmt} {rest : List Stmt} {R : Out → Prop} (Mid : Sto → Prop) (h : Ex X k sc τ (exec st) (fun o => ∃ τ', o = .next τ' ∧ Mid τ')) (r : ∀ τ', Mid τ' → ExS X k sc τ' (execs rest) R) : ExS X k sc τ (execs (st :: rest)) R :=
  ExS.cons (h.mono fun o ⟨τ', e, q⟩ => by subst e; exact r τ' q)
end

section
variable {X : Cx} {k : Nat}
theorem law_tail (N : Free X) {mm : List (Str × Const)} {τ : Sto} {mk : List Int → Dat} {ok : List Int → Prop} (K : RowK X mk ok) {rows : List (List Int)} {c : List Int} (hne : rows ≠ []) (hcp : IsCp rows c) (ho : ∀ r ∈ rows, ok r) (hz : rows.length ≤ 63) (hl : ∀ r ∈ rows, r.length ≤ 24)
    (hi : τ.lookup ("items" : Str) = some (.dat (.list (rows.map mk)))) (ht : τ.lookup ("told" : Str) = some (.dat (mk c))) (hm : τ.lookup ("mixed" : Str) = some (.dat (.bool false))) :
    Ex X k (fnS lawS mm) τ (execs (List.drop 4 (fnB lawS))) (FnOut (· = .bool true)) := by
  obtain ⟨r0, rs, e0⟩ := List.exists_cons_of_ne_nil hne
  have h0 : r0 ∈ rows := by rw [e0]; simp
  have i0 : (rows.map mk)[(0 : Int).toNat]? = some (mk r0) := by rw [e0]; rfl
  have hc0 := (hcp.1 r0 h0)
  have hcl := hc0.length_le
  have hl0 := hl r0 h0
  have okc : ok c := by have := K.cut c.length (ho r0 h0); rwa [take_cp hcp h0] at this
  refine Ex.cons (Ex.if (EvT.val (.local hm) trivial) (fun hc => nomatch hc) fun _ => Ex.nil ?_)
  refine Ex.cons (Ex.if (c := false) (EvT.to (EvT.cmp (.local hi) (.list .nil) op_eqNil) (by rw [e0]; rfl)) (fun hc => nomatch hc) fun _ => Ex.nil ?_)
  refine Ex.cons (Ex.assign .int ?_)
  refine Ex.cons (Ex.while_ (fun j τ => ∃ n : Nat, n ≤ c.length ∧ j = c.length - n ∧ τ.lookup ("items" : Str) = some (.dat (.list (rows.map mk))) ∧ τ.lookup ("told" : Str) = some (.dat (mk c)) ∧ τ.lookup ("size" : Str) = some (.dat (.int (n : Nat)))) c.length
    ⟨0, Nat.zero_le _, rfl, upd_other (by decide) hi, upd_other (by decide) ht, upd_same rfl⟩ (fun j τ' ⟨n, hn, hj, q1, q2, q3⟩ => ?_))
  refine ⟨((rows.filter (stops r0 n)).map mk).isEmpty, EvT.cmp (Ev.compFilt (l := rows) (toD := mk) (p := stops r0 n) (f := mk) (Its.list (.local q1)) [("items", .dat (.list (rows.map mk))), ("size", .dat (.int (n : Nat)))] .of (.cons q1 (.cons q3 .nil)) rfl (fun r hr => ?_) (fun r hr _ => .local rfl) (small _ (by omega))) (.list .nil) op_eqNil, fun hc => ?_, fun hc => ?_⟩
  · have hsz : ∀ {σ : Sto} {sc : Scope} {p pp pc : Pos} {nn : Nat}, σ.lookup ("size" : Str) = some (.dat (.int (n : Nat))) → Ev X k sc σ (.BinOp (.Name "size" p) .Add (.Constant (.int 1) nn pc) pp) (.int ((n + 1 : Nat) : Int)) := fun h => Ev.to (Ev.bin (.local h) .int op_add) (by push_cast; rfl)
    refine EvT.or (EvT.cmp (EvP.callB (EvP.builtin rfl N.len rfl (by decide)) (.cons (.local rfl) .nil) (K.len (ho r hr))) (.local rfl) op_eq) (fun _ => ?_)
    exact EvT.cmp (K.slice (ho r hr) (.local rfl) (hsz rfl)) (K.slice0 (a := r0) (ho r0 h0) (Ev.item (.local rfl) .int (by decide) (by decide) i0) (hsz rfl)) (K.ne (K.cut _ (ho r hr)) (K.cut _ (ho r0 h0)))
  · have hlt : n < c.length := by
      rcases Nat.lt_or_ge n c.length with h | h
      · exact h
      · have e : n = c.length := by omega
        subst e
        have := stop_at hcp h0
        cases hf : rows.filter (stops r0 c.length) with
        | nil => exact absurd hf this
        | cons a l => rw [hf] at hc; cases hc
    refine Ex.last (Ex.assign (d := .int ((n + 1 : Nat) : Int)) (Ev.to (Ev.bin (.local q3) .int op_add) (by push_cast; rfl)) ⟨c.length - (n + 1), by omega, n + 1, hlt, rfl, upd_other (by decide) q1, upd_other (by decide) q2, upd_same rfl⟩)
  · have e : n = c.length := by
      rcases Nat.lt_or_ge n c.length with h | h
      · rw [no_stop hcp h0 h] at hc; cases hc
      · omega
    subst e
    refine Ex.last (Ex.return (Ev.cmp (.local q2) (K.slice0 (a := r0) (ho r0 h0) (Ev.item (.local q1) .int (by decide) (by decide) i0) (.local q3)) (K.eq okc (K.cut _ (ho r0 h0)))) ?_)
    rw [take_cp hcp h0]
    show Dat.bool (decide (c = c)) = .bool true
    simp

theorem law_fn (N : Free X) (M : More X) (S1 : Stands X "commonprefix" cpS) (S2 : Stands X "fspath" fsS) (S3 : Stands X "_plain_name" pnS) (S4 : Stands X "_abc_plain_meta" apS) (S5 : Stands X "_law_items" itemsS) (S6 : Stands X "law" lawS) {ns : List Int} (hn : ns.length ≤ 63) :
    FnS X (k + 8) "law" [dList ns] fun g v => ∃ d, d = .bool true ∧ Rep g v d := by
  obtain ⟨m1, D1⟩ := S1
  obtain ⟨m2, D2⟩ := S2
  obtain ⟨m3, D3⟩ := S3
  obtain ⟨m4, D4⟩ := S4
  obtain ⟨m6, D6⟩ := S6
  refine FnS.intro D6 ["script"] rfl (fun pm code doc vs hv => ?_) (by decide) (by rfl) ?_
  · match vs, hv with
    | [v], _ => rfl
  refine ExS.cons (Ex.assignT2P (P := fun d0 d1 => ∃ ts : List It, d0 = .list (ts.map datOf) ∧ d1 = .list (ts.map kinD) ∧ ts.length = ns.length ∧ Good (ns.length % 3) ts) ((EvP.callF rfl (.cons (.local rfl) .nil) ((items_fn (k := k) N S5 hn).le (by omega))).mono fun g v ⟨d, ⟨ts, h1, h2, h3⟩, r⟩ => ?_) (fun d0 d1 ⟨ts, h1, h2, h3, h4⟩ => ?_))
  · subst h1
    exact ⟨_, _, ⟨ts, rfl, rfl, h2, h3⟩, r⟩
  subst h1; subst h2
  have hb3 : ns.length % 3 < 3 := Nat.mod_lt _ (by decide)
  generalize ns.length % 3 = b at *
  refine ExS.mid (fun τ => ∃ us : List It, (us = ts ∨ us = ts.reverse) ∧ τ.lookup ("items" : Str) = some (.dat (.list (us.map datOf))) ∧ τ.lookup ("kinds" : Str) = some (.dat (.list (ts.map kinD)))) (Ex.if (EvT.cmp (Ev.bin (EvP.callB (EvP.builtin rfl N.len rfl (by decide)) (.cons (.local rfl) .nil) (len_ints (by omega))) .int (op_mod (by decide))) .int op_eq) (fun _ => ?_) fun _ => ?_) (fun τ ⟨us, hus, q1, q2⟩ => ?_)
  · refine Ex.last (Ex.assign (d := .list (ts.reverse.map datOf)) (Ev.to (Ev.rev (.local rfl) (by rw [List.length_map]; exact small _ (by omega))) (by rw [List.map_reverse])) ⟨_, rfl, ts.reverse, .inr rfl, upd_same rfl, upd_other (by decide) rfl⟩)
  · exact Ex.nil ⟨_, rfl, ts, .inl rfl, rfl, rfl⟩
  have mem_us : ∀ t, t ∈ us ↔ t ∈ ts := by
    intro t
    rcases hus with rfl | rfl
    · rfl
    · simp
  have len_us : us.length = ns.length := by
    rcases hus with rfl | rfl
    · exact h3
    · rw [List.length_reverse]; exact h3
  have gus : ∀ t ∈ us, t.q < 5 ∧ AS t.w := fun t ht => h4.1 t ((mem_us t).mp ht)
  refine ExS.cons (Ex.assign (d := .bool (!((ts.filter fun t => (t.q : Int) != (b : Int)).map kinD).isEmpty)) (Ev.cmp (Ev.compFilt (l := ts) (toD := kinD) (p := fun t => (t.q : Int) != (b : Int)) (f := kinD) (Its.list (.local q2)) [("kinds", .dat (.list (ts.map kinD)))] .of (.cons q2 .nil) rfl (fun t ht => ?_) (fun t ht _ => .local rfl) (small _ (by omega))) (.list .nil) op_neNil) ?_)
  · obtain ⟨t0, tl, et⟩ : ∃ t0 tl, ts = t0 :: tl := by
      cases ts with
      | nil => cases ht
      | cons a l => exact ⟨a, l, rfl⟩
    have hb : t0.q = b := h4.2 t0 (by rw [et]; rfl)
    have ek : (ts.map kinD)[(0 : Int).toNat]? = some (.int (b : Nat)) := by rw [et, ← hb]; rfl
    exact EvT.cmp (a := .int (t.q : Nat)) (.local rfl) (Ev.item (.local rfl) .int (by decide) (by decide) ek) op_ne
  have p1 := upd_other (x := ("mixed" : Str)) (lv := .dat (.bool (!((ts.filter fun t => (t.q : Int) != (b : Int)).map kinD).isEmpty))) (by decide) q1
  have pm := upd_same (x := ("mixed" : Str)) (y := ("mixed" : Str)) (lv := .dat (.bool (!((ts.filter fun t => (t.q : Int) != (b : Int)).map kinD).isEmpty))) (τ := τ) rfl
  generalize upd ("mixed" : Str) (.dat (.bool (!((ts.filter fun t => (t.q : Int) != (b : Int)).map kinD).isEmpty))) τ = τ2 at *
  cases hmix : ts.filter fun t => (t.q : Int) != (b : Int) with
  | cons a l =>
    rw [hmix] at pm
    have ha : a ∈ ts ∧ ((a.q : Int) != (b : Int)) = true := by
      have : a ∈ ts.filter fun t => (t.q : Int) != (b : Int) := by rw [hmix]; simp
      exact List.mem_filter.mp this
    have hne : a.q ≠ b := by have := ha.2; simp at this; omega
    obtain ⟨t0, tl, et⟩ : ∃ t0 tl, ts = t0 :: tl := by
      cases ts with
      | nil => cases ha.1
      | cons a l => exact ⟨a, l, rfl⟩
    have hb : t0.q = b := h4.2 t0 (by rw [et]; rfl)
    have hR : FnR X (k + 7) "commonprefix" [.list (us.map datOf)] := cp_mixed (k := k) N M D1 D2 D3 D4 gus ⟨a, (mem_us a).mpr ha.1, t0, (mem_us t0).mpr (by rw [et]; simp), by omega⟩ (by omega)
    exact ExS.first (ExS.try (d := true) (EvRT.callF rfl (.cons (.local p1) .nil) hR) pm rfl rfl M.terr rfl (by decide) rfl)
  | nil =>
    rw [hmix] at pm
    have all : ∀ t ∈ us, t.q = b := fun t ht => by
      have := List.filter_eq_nil_iff.mp hmix t ((mem_us t).mp ht)
      simp at this; omega
    refine Ex.exS ?_
    cases hu : us with
    | nil =>
      rw [hu] at p1
      refine Ex.cons (Ex.try (Ex.last (Ex.assign (d := .str "") (EvP.callF rfl (.cons (.local p1) .nil) ((cp_empty (k := k) N D1).le (by omega))) ?_)))
      refine Ex.cons (Ex.if (EvT.val (.local (upd_other (by decide) pm)) trivial) (fun hc => nomatch hc) fun _ => Ex.nil ?_)
      refine Ex.cons (Ex.if (c := true) (EvT.cmp (.local (upd_other (by decide) p1)) (.list .nil) op_eqNil) (fun _ => ?_) fun hc => nomatch hc)
      exact Ex.last (Ex.return (Ev.cmp (.local (upd_same rfl)) .str op_eqS) (by rfl))
    | cons t0 tl =>
      have une : us ≠ [] := by rw [hu]; simp
      have rne : us.map It.w ≠ [] := by simpa using une
      have ras : ∀ r ∈ us.map It.w, AS r := fun r hr => by
        obtain ⟨t, ht, rfl⟩ := List.mem_map.mp hr
        exact (gus t ht).2
      have rlen : (us.map It.w).length ≤ 63 := by rw [List.length_map]; omega
      have rl24 : ∀ r ∈ us.map It.w, r.length ≤ 24 := fun r hr => (ras r hr).1
      have go : ∀ {mk : List Int → Dat} {ok : List Int → Prop}, RowK X mk ok → (∀ r, AS r → ok r) → (∀ t : It, t.q = b → datOf t = mk t.w) → FnD X (k + 7) "commonprefix" [.list ((us.map It.w).map mk)] (mk (lcp2 (minRow (us.map It.w)) (maxRow (us.map It.w)))) →
          Ex X (k + 7) (fnS lawS m6) τ2 (execs (List.drop 3 (fnB lawS))) (FnOut (· = .bool true)) := by
        intro mk ok K hok hq hcall
        have e := map_kind hq all
        rw [e] at p1
        refine Ex.cons (Ex.try (Ex.last (Ex.assign (EvP.callF rfl (.cons (.local p1) .nil) hcall) ?_)))
        exact law_tail N K rne (isCp_minMax rne) (fun r hr => hok r (ras r hr)) rlen rl24 (upd_other (by decide) p1) (upd_same rfl) (upd_other (by decide) pm)
      rcases (show b = 0 ∨ b = 1 ∨ b = 2 by omega) with h | h | h
      · exact go rowK_bytes (fun r hr => as_okB hr) (fun t ht => dat0 t (by omega)) ((cp_bytes (k := k) N D1 D2 rne (fun r hr => as_okB (ras r hr)) (small _ (by omega))).le (by omega))
      · exact go rowK_list (fun r hr => as_okL hr) (fun t ht => dat1 t (by omega)) ((cp_rows (k := k) N D1 rne (fun r hr => as_okL (ras r hr)) (by omega)).le (by omega))
      · exact go rowK_tuple (fun r hr => as_okL hr) (fun t ht => dat2 t (by omega)) ((cp_tuples (k := k) N D1 rne (fun r hr => as_okL (ras r hr)) (by omega)).le (by omega))
end
end Mine

open PySem PySem.W PyProof.Rows
set_option Elab.async false
set_option maxRecDepth 100000 in
set_option maxHeartbeats 8000000 in
theorem PySem.Challenge.cw_kq0014_02_holds : PySem.Challenge.rw_kq0014_02.Holds := by
  w_on; o_law; k_head; (case hw => w_witness2)
  w_strict (
    k_fill
    intro w s₀ s₁ mg mb G Y fa o pm cd doc dV kV ho hd hcd hD hmg hg args vals as hpre hlay hrd hwl hlo
    refine Ground.open G ?_
    intro T B D TE TW
    wrow_args hpre hlay hrd hwl hlo
    rename_i ns _ _ _ _ _ _ _ l vs _ _ _ wl _ _ _ hlen _
    have free := Mine.free_of T
    have D1 := Mine.fn_of T (Str.ofString "commonprefix") (d := _) (by with_unfolding_all rfl)
    have D2 := Mine.fn_of T (Str.ofString "fspath") (d := _) (by with_unfolding_all rfl)
    have D3 := Mine.fn_of T (Str.ofString "_plain_name") (d := _) (by with_unfolding_all rfl)
    have D4 := Mine.fn_of T (Str.ofString "_abc_plain_meta") (d := _) (by with_unfolding_all rfl)
    have D5 := Mine.fn_of T (Str.ofString "_law_items") (d := _) (by with_unfolding_all rfl)
    have D6 := Mine.fn_of T (Str.ofString "law") (d := _) (by with_unfolding_all rfl)
    refine Mine.law_endsS (X := ⟨PySem.Challenge.rw_kq0014_02.row.prog, w, mg, mb, s₁.heap, T.g, T.b, T.nolimit, T.builtins⟩) (k := 95 + 8) (f := Str.ofString "law") (ns := ns) ?_ hmg rfl (Mine.rep_of_well wl) hg ⟨rfl, by decide, by decide⟩ rfl (raisesW_false ?_) ?_
    rotate_left 1
    · wrow_none_raised
    · wrow_post
    refine Mine.law_fn (k := 95) ⟨free _ (by decide +kernel), free _ (by decide +kernel), free _ (by decide +kernel), free _ (by decide +kernel), free _ (by decide +kernel), free _ (by decide +kernel), free _ (by decide +kernel), free _ (by decide +kernel), free _ (by decide +kernel), free _ (by decide +kernel), free _ (by decide +kernel), free _ (by decide +kernel), free _ (by decide +kernel), free _ (by decide +kernel), free _ (by decide +kernel), free _ (by decide +kernel), free _ (by decide +kernel), free _ (by decide +kernel), free _ (by decide +kernel)⟩ ⟨free _ (by decide +kernel), free _ (by decide +kernel), free _ (by decide +kernel), free _ (by decide +kernel), free _ (by decide +kernel), free _ (by decide +kernel), free _ (by decide +kernel)⟩ ?_ ?_ ?_ ?_ ?_ ?_ (by omega)
    · exact ⟨_, D1⟩
    · exact ⟨_, D2⟩
    · exact ⟨_, D3⟩
    · exact ⟨_, D4⟩
    · exact ⟨_, D5⟩
    · exact ⟨_, D6⟩)
