import PyProof.Rows.All
import Wide.All
import OpenK.AllK
import Wide.FinOn
import PyProof.EqAt
import KE.KSliceW
import KE.KRevSl
import PyProof.Draws
import PyProof.MinMaxWalk
import PyProof.Rows.Tup
import KE.KEqDat
import PyProof.EnumMake
import PyProof.CollectIter
import PyProof.TupleOfStr
import PyProof.Rows.RaiseClass
import PyProof.TypeOfCall
import PyProof.SliceStr2
import PyProof.FString5
import PyProof.Rows.RuleDivmod
import PyProof.WalkInts
import PyProof.StrWalks
import KE.KSortAsk
import PyProof.CallRoads
import PyProof.Rows.CountFlat
import PyProof.Rows.ListMul
import PyProof.Rows.Nodes
import Wide.Shadow
import PyProof.Rows.StrJoin2
import PyProof.Rows.Range3
import PyProof.DictStraight
import PyProof.StrLawsIn
import Lean
import PySem.Challenge.RW_kq0014_01

namespace Mine
open PySem PySem.W PyProof.Rows
set_option Elab.async false
set_option maxRecDepth 100000
set_option linter.unusedVariables false

/-- every object of g stands in h -/
abbrev Sub (g h : Heap) : Prop := ∀ b o, g.get? b = some o → h.get? b = some o
theorem Sub.rfl {g : Heap} : Sub g g := fun _ _ e => e
theorem Sub.trans {a b c : Heap} (x : Sub a b) (y : Sub b c) : Sub a c := fun p o e => y p o (x p o e)
theorem Sub.push {g h : Heap} (x : Sub g h) (o : Obj) : Sub g (h.push o) := fun b o' e => Heap.get?_push_of_some _ (x b o' e)

def PlainTup (h : Heap) (a : Addr) (items : Array Value) : Prop := ∃ n, h.get? a = some { cls := .type "tuple", data := .seq items n }
mutual
/-- the value stands for the datum in a heap -/
inductive Rep (h : Heap) : Value → Dat → Prop
  | none : Rep h .none .none
  | bool (b : Bool) : Rep h (.bool b) (.bool b)
  | int (i : Int) (t : Tok) : Rep h (.int i t) (.int i)
  | str (x : Str) (t : Tok) : Rep h (.str x t) (.str x)
  | bytes (b : Array UInt8) (t : Tok) : Rep h (.bytes b t) (.bytes b)
  | tuple {a : Addr} {vs : List Value} {ds : List Dat} : PlainTup h a vs.toArray → RepAll h vs ds → Rep h (.ref a) (.tuple ds)
  | list {a : Addr} {vs : List Value} {ds : List Dat} : h.PlainList a vs.toArray → RepAll h vs ds → Rep h (.ref a) (.list ds)
inductive RepAll (h : Heap) : List Value → List Dat → Prop
  | nil : RepAll h [] []
  | cons {v : Value} {vs : List Value} {d : Dat} {ds : List Dat} : Rep h v d → RepAll h vs ds → RepAll h (v :: vs) (d :: ds)
end

theorem isList_sub {g h : Heap} {a : Addr} {xs : Array Value} (k : Sub g h) (x : g.PlainList a xs) : h.IsList a xs := let ⟨n, ho⟩ := x; ⟨_, k a _ ho, rfl, n, rfl⟩
theorem isTup_sub {g h : Heap} {a : Addr} {xs : Array Value} (k : Sub g h) (x : PlainTup g a xs) : IsTup h a xs := let ⟨n, ho⟩ := x; ⟨_, k a _ ho, rfl, n, rfl⟩
theorem plain_sub {g h : Heap} {a : Addr} {xs : Array Value} (k : Sub g h) (x : g.PlainList a xs) : h.PlainList a xs := let ⟨n, ho⟩ := x; ⟨n, k a _ ho⟩
theorem plainT_sub {g h : Heap} {a : Addr} {xs : Array Value} (k : Sub g h) (x : PlainTup g a xs) : PlainTup h a xs := let ⟨n, ho⟩ := x; ⟨n, k a _ ho⟩

mutual
theorem Rep.sub {g h : Heap} (k : Sub g h) : ∀ {v d}, Rep g v d → Rep h v d
  | _, _, .none => .none
  | _, _, .bool b => .bool b
  | _, _, .int i t => .int i t
  | _, _, .str x t => .str x t
  | _, _, .bytes b t => .bytes b t
  | _, _, .tuple i r => .tuple (plainT_sub k i) (RepAll.sub k r)
  | _, _, .list i r => .list (plain_sub k i) (RepAll.sub k r)
theorem RepAll.sub {g h : Heap} (k : Sub g h) : ∀ {vs ds}, RepAll g vs ds → RepAll h vs ds
  | _, _, .nil => .nil
  | _, _, .cons a r => .cons (Rep.sub k a) (RepAll.sub k r)
end

theorem RepAll.length {h : Heap} : ∀ {vs ds}, RepAll h vs ds → vs.length = ds.length
  | _, _, .nil => _root_.rfl
  | _, _, .cons _ r => by rw [List.length_cons, List.length_cons, RepAll.length r]
theorem RepAll.append {h : Heap} {ws es} (k : RepAll h ws es) : ∀ {vs ds}, RepAll h vs ds → RepAll h (vs ++ ws) (ds ++ es)
  | _, _, .nil => k
  | _, _, .cons a r => .cons a (RepAll.append k r)
theorem RepAll.get {h : Heap} : ∀ {vs ds}, RepAll h vs ds → ∀ {k : Nat} {d}, ds[k]? = some d → ∃ v, vs[k]? = some v ∧ Rep h v d
  | _, _, .nil, k, d, e => by simp at e
  | _, _, .cons a r, 0, d, e => by
    simp at e; subst e; exact ⟨_, by simp, a⟩
  | _, _, .cons a r, k + 1, d, e => by
    obtain ⟨v, h1, h2⟩ := RepAll.get r (k := k) (d := d) (by simpa using e)
    exact ⟨v, by simpa using h1, h2⟩
theorem RepAll.get' {h : Heap} : ∀ {vs ds}, RepAll h vs ds → ∀ {k : Nat} {v}, vs[k]? = some v → ∃ d, ds[k]? = some d ∧ Rep h v d
  | _, _, .nil, k, d, e => by simp at e
  | _, _, .cons a r, 0, d, e => by
    simp at e; subst e; exact ⟨_, by simp, a⟩
  | _, _, .cons a r, k + 1, d, e => by
    obtain ⟨v, h1, h2⟩ := RepAll.get' r (k := k) (v := d) (by simpa using e)
    exact ⟨v, by simpa using h1, h2⟩
theorem RepAll.drop {h : Heap} : ∀ {vs ds}, RepAll h vs ds → ∀ n, RepAll h (vs.drop n) (ds.drop n)
  | _, _, .nil, n => by simp; exact .nil
  | _, _, .cons a r, 0 => .cons a r
  | _, _, .cons a r, n + 1 => by simpa using RepAll.drop r n
theorem RepAll.take {h : Heap} : ∀ {vs ds}, RepAll h vs ds → ∀ n, RepAll h (vs.take n) (ds.take n)
  | _, _, .nil, n => by simp; exact .nil
  | _, _, .cons a r, 0 => .nil
  | _, _, .cons a r, n + 1 => by simpa using .cons a (RepAll.take r n)
theorem RepAll.one {h : Heap} {v d} (x : Rep h v d) : RepAll h [v] [d] := .cons x .nil
theorem RepAll.set {h : Heap} {v d} (x : Rep h v d) : ∀ {vs ds}, RepAll h vs ds → ∀ n, RepAll h (vs.set n v) (ds.set n d)
  | _, _, .nil, _ => .nil
  | _, _, .cons _ r, 0 => .cons x r
  | _, _, .cons a r, n + 1 => .cons a (RepAll.set x r n)

/-- one step of the world: g is the part that stands still, h the whole heap -/
structure Step (g h g' h' : Heap) : Prop where
  gg : Sub g g'
  hh : Sub h h'
  gh : Sub g' h'
  new : ∀ b o, g'.get? b = some o → g.get? b = some o ∨ h.get? b = none

theorem Step.rfl {g h : Heap} (k : Sub g h) : Step g h g h := ⟨.rfl, .rfl, k, fun _ _ e => .inl e⟩
theorem Step.trans {g h g' h' g'' h'' : Heap} (x : Step g h g' h') (y : Step g' h' g'' h'') : Step g h g'' h'' :=
  ⟨x.gg.trans y.gg, x.hh.trans y.hh, y.gh, fun b o e => by
    rcases y.new b o e with q | q
    · exact x.new b o q
    · right
      cases z : h.get? b with
      | none => exact _root_.rfl
      | some o' => rw [x.hh b o' z] at q; cases q⟩
/-- what lies outside of g and in h lies outside of g' -/
theorem Step.out {g h g' h' : Heap} (x : Step g h g' h') {b : Addr} (h1 : g.get? b = none) (h2 : (h.get? b).isSome) : g'.get? b = none := by
  cases z : g'.get? b with
  | none => exact _root_.rfl
  | some o =>
    rcases x.new b o z with q | q
    · rw [h1] at q; cases q
    · rw [q] at h2; cases h2

/-- the heap h' without what h holds, but with all of g -/
def freeze (g h h' : Heap) : Heap := ⟨(Array.ofFn (n := h'.objs.size) fun i => if (g.get? i.1).isSome || (h.get? i.1).isNone then h'.objs[i] else ⟨.none, none, .freed, #[]⟩), h'.life⟩
theorem freeze_get {g h h' : Heap} (b : Addr) : (freeze g h h').get? b = if (g.get? b).isSome || (h.get? b).isNone then h'.get? b else none := by
  have sz : (freeze g h h').objs.size = h'.objs.size := by simp [freeze]
  by_cases hb : b < h'.objs.size
  · have e : (freeze g h h').objs[b]? = some (if (g.get? b).isSome || (h.get? b).isNone then h'.objs[b] else ⟨.none, none, .freed, #[]⟩) := by
      simp [freeze, hb]
    have e2 : h'.objs[b]? = some h'.objs[b] := by simp [hb]
    by_cases c : ((g.get? b).isSome || (h.get? b).isNone) = true
    · rw [if_pos c] at e ⊢
      conv => lhs; unfold Heap.get?
      conv => rhs; unfold Heap.get?
      rw [e, e2]
    · rw [if_neg c] at e ⊢
      conv => lhs; unfold Heap.get?
      rw [e]
  · have hb2 : h'.objs.size ≤ b := Nat.le_of_not_lt hb
    have e : (freeze g h h').objs[b]? = none := Array.getElem?_eq_none (sz ▸ hb2)
    have e2 : h'.objs[b]? = none := Array.getElem?_eq_none hb2
    have e3 : h'.get? b = none := by unfold Heap.get?; rw [e2]
    rw [e3]
    conv => lhs; unfold Heap.get?
    rw [e]
    simp
theorem Step.of_sub {g h h' : Heap} (k : Sub g h) (x : Sub h h') : Step g h (freeze g h h') h' where
  gg := fun b o e => by rw [freeze_get, e]; simpa using x b o (k b o e)
  hh := x
  gh := fun b o e => by
    rw [freeze_get] at e
    split at e
    · exact e
    · cases e
  new := fun b o e => by
    rw [freeze_get] at e
    split at e
    · rename_i q
      rw [Bool.or_eq_true] at q
      rcases q with q | q
      · left
        obtain ⟨o', ho⟩ := Option.isSome_iff_exists.mp q
        rw [x b o' (k b o' ho)] at e
        rw [ho]; exact e
      · right; simpa using q
    · cases e
theorem freeze_new {g h h' : Heap} {b : Addr} {o : Obj} (e : h'.get? b = some o) (n : h.get? b = none) : (freeze g h h').get? b = some o := by
  rw [freeze_get, n]; simpa using e
theorem freeze_old {g h h' : Heap} (k : Sub g h) (x : Sub h h') : Sub g (freeze g h h') := (Step.of_sub k x).gg

/-- the outcome of a piece of work that makes new things only -/
def Post (g : Heap) (s : Shared) (P : Heap → Value → Prop) (v : Value) (s' : Shared) : Prop :=
  Keeps s s' ∧ ∃ g', Step g s.heap g' s'.heap ∧ P g' v

theorem kp_refl {s : Shared} : Keeps s s := ⟨s.heap, s.toks, rfl, fun _ _ e => e⟩
theorem kp_trans {a b c : Shared} (x : Keeps a b) (y : Keeps b c) : Keeps a c := by
  obtain ⟨h1, t1, rfl, k1⟩ := x
  obtain ⟨h2, t2, rfl, k2⟩ := y
  exact ⟨h2, t2, rfl, fun b o e => k2 b o (k1 b o e)⟩
theorem kp_sub {a b : Shared} (x : Keeps a b) : Sub a.heap b.heap := by
  obtain ⟨h1, t1, rfl, k1⟩ := x; exact k1
theorem kp_tok {s : Shared} {t : Tok} : Keeps s { s with toks := t } := ⟨s.heap, t, rfl, fun _ _ e => e⟩
theorem kp_mk {s : Shared} {h' : Heap} {t : Tok} (k : Sub s.heap h') : Keeps s { s with heap := h', toks := t } := ⟨h', t, rfl, k⟩

theorem Post.here {g : Heap} {s : Shared} {P : Heap → Value → Prop} {v : Value} (k : Sub g s.heap) (h : P g v) : Post g s P v s := ⟨kp_refl, g, .rfl k, h⟩
theorem Post.tok {g : Heap} {s : Shared} {P : Heap → Value → Prop} {v : Value} {t : Tok} (k : Sub g s.heap) (h : P g v) : Post g s P v { s with toks := t } := ⟨kp_tok, g, .rfl k, h⟩
theorem Post.trans {g g' : Heap} {s s' s'' : Shared} {P : Heap → Value → Prop} {v : Value} (k : Keeps s s') (x : Step g s.heap g' s'.heap) (h : Post g' s' P v s'') : Post g s P v s'' := by
  obtain ⟨k2, g'', x2, h2⟩ := h
  exact ⟨kp_trans k k2, g'', x.trans x2, h2⟩
theorem Post.mono {g : Heap} {s s' : Shared} {P P' : Heap → Value → Prop} {v : Value} (h : Post g s P v s') (hp : ∀ g', P g' v → P' g' v) : Post g s P' v s' := by
  obtain ⟨k2, g'', x2, h2⟩ := h
  exact ⟨k2, g'', x2, hp _ h2⟩
end Mine

namespace Mine
open PySem PySem.W PyProof.Rows PySem.Calls
set_option Elab.async false
set_option maxRecDepth 100000
set_option linter.unusedVariables false

/-- the world of a law: the program, its globals and built-ins, and the heap behind the top -/
structure Cx where
  prog : Program
  w : World
  mg : Str → Option Value
  mb : Str → Option Value
  h0 : Heap
  hg : h0.Ns mainGlobals mg
  hb : h0.Ns builtinsNs mb
  hl : h0.NoLimit
  hbi : ∀ x : Str, x ≠ "__name__" → mb x = bootBuiltins x
abbrev Cx.M (X : Cx) : Model := model X.prog X.w

structure Room (A : Around) (k : Nat) : Prop where
  hh : A.handled = none
  depth : A.depth + k < recursionLimit
  units : A.units + 4 * k + 200 < cLine
theorem Room.in1 {A : Around} {k : Nat} (r : Room A (k + 1)) : Room A.in1 k := ⟨r.hh, by have := r.depth; rw [depth_in1]; omega, by have := r.units; rw [units_in1]; omega⟩
theorem Room.deeper {A : Around} {k : Nat} (r : Room A (k + 1)) (env : Env) : Room (A.deeper env) k :=
  ⟨r.hh, by have := r.depth; rw [depth_deeper]; omega, by have := r.units; rw [units_deeper]; omega⟩
theorem Room.le {A : Around} {k j : Nat} (r : Room A k) (h : j ≤ k) : Room A j := ⟨r.hh, by have := r.depth; omega, by have := r.units; omega⟩
theorem Room.un {A : Around} {k : Nat} (r : Room A k) : A.units + 200 < cLine := by have := r.units; omega
theorem Room.room {A : Around} {k : Nat} (r : Room A k) : A.depth < recursionLimit := by have := r.depth; omega

structure EnvOk (env : Env) (sc : Scope) : Prop where
  scope : env.scope = sc
  kind : sc.kind = .function
  glob : env.globals = mainGlobals
  bi : env.builtins = builtinsNs
  cells : ∀ x, sc.names.lookup x = some .cell → (env.cells.lookup x).isSome = true
theorem EnvOk.toEnvOk {env : Env} {sc : Scope} (h : EnvOk env sc) : EnvOk env sc := h
theorem EnvOk.ek {env : Env} {sc : Scope} (h : EnvOk env sc) : env.scope.kind = .function := h.scope ▸ h.kind
theorem EnvOk.kindOf {env : Env} {sc : Scope} (h : EnvOk env sc) {x : Str} {r} (e : sc.names.lookup x = r) : env.kindOf x = r := by
  show env.scope.names.lookup x = r; rw [h.scope]; exact e
theorem EnvOk.plain {env : Env} {sc : Scope} (h : EnvOk env sc) : (env.scope.kind == .class || (env.scope.kind == .module && env.locals != env.globals)) = false := by rw [h.ek]; rfl
theorem EnvOk.quiet {env : Env} {sc : Scope} (h : EnvOk env sc) : interactive env = false := by unfold interactive; rw [h.ek]; rfl

/-- a name of the frame holds a value -/
def VarIs (env : Env) (h : Heap) (x : Str) (v : Value) : Prop :=
  (env.kindOf x = some .local ∧ ∃ m, h.Ns env.locals m ∧ m x = some v) ∨
  ((env.kindOf x = some .cell ∨ env.kindOf x = some .free) ∧ ∃ c, env.cells.lookup x = some c ∧ h.IsCell c (some v))
theorem VarIs.sub {env : Env} {g h : Heap} {x : Str} {v : Value} (k : Sub g h) : VarIs env g x v → VarIs env h x v
  | .inl ⟨a, m, b, c⟩ => .inl ⟨a, m, b.keeps k, c⟩
  | .inr ⟨a, c, b, d⟩ => .inr ⟨a, c, b, d.keeps k⟩

/-- what a name holds: a datum that stands still, or an object of the frame's own that may still be turned -/
inductive LV where
  | dat (d : Dat)
  | val (u : Value)
  | obj (P : Addr → Obj → Heap → Prop) (mono : ∀ a o g g', Sub g g' → P a o g → P a o g')
abbrev Sto := List (Str × LV)
structure StoIn (σ : Sto) (env : Env) (g : Heap) (s : Shared) : Prop where
  sub : Sub g s.heap
  var : ∀ x d, σ.lookup x = some (.dat d) → ∃ v, VarIs env s.heap x v ∧ Rep g v d
  val : ∀ x u, σ.lookup x = some (.val u) → VarIs env s.heap x u
  obj : ∀ x P mp, σ.lookup x = some (.obj P mp) → ∃ a o, VarIs env s.heap x (.ref a) ∧ s.heap.get? a = some o ∧ P a o g
theorem StoIn.step {σ : Sto} {env : Env} {g g' : Heap} {s s' : Shared} (x : StoIn σ env g s) (t : Step g s.heap g' s'.heap) : StoIn σ env g' s' :=
  ⟨t.gh, fun y d e => let ⟨v, a, b⟩ := x.var y d e; ⟨v, a.sub t.hh, b.sub t.gg⟩, fun y u e => (x.val y u e).sub t.hh, fun y P mp e => let ⟨a, o, h1, h2, h3⟩ := x.obj y P mp e; ⟨a, o, h1.sub t.hh, t.hh _ _ h2, mp _ _ _ _ t.gg h3⟩⟩

/-- what an expression yields, said of its value and the heap that stands still -/
def EvP (X : Cx) (k : Nat) (sc : Scope) (σ : Sto) (e : Expr) (P : Heap → Value → Prop) : Prop :=
  ∀ (A : Around) (env : Env) (g : Heap) (s : Shared) (E : Value → Shared → Prop), Room A k → EnvOk env sc → Sub X.h0 g → StoIn σ env g s →
    wpAny X.M A (eval e env) (Post g s P) E s
abbrev Ev (X : Cx) (k : Nat) (sc : Scope) (σ : Sto) (e : Expr) (d : Dat) : Prop := EvP X k sc σ e fun g v => Rep g v d
def PostL (g : Heap) (s : Shared) (ds : List Dat) (vs : List Value) (s' : Shared) : Prop := Keeps s s' ∧ ∃ g', Step g s.heap g' s'.heap ∧ RepAll g' vs ds
def plainE : Expr → Bool
  | .Starred .. => false
  | _ => true
def EvL (X : Cx) (k : Nat) (sc : Scope) (σ : Sto) (es : List Expr) (ds : List Dat) : Prop :=
  es.all plainE = true ∧ ∀ (A : Around) (env : Env) (g : Heap) (s : Shared) (E : Value → Shared → Prop) (pos : Pos), Room A k → EnvOk env sc → Sub X.h0 g → StoIn σ env g s →
    wpAny X.M A (spliced (backTo pos (starEach es env))) (PostL g s ds) E s
/-- the truth of an expression -/
def EvT (X : Cx) (k : Nat) (sc : Scope) (σ : Sto) (e : Expr) (b : Bool) : Prop :=
  ∀ (A : Around) (env : Env) (g : Heap) (s : Shared) (E : Value → Shared → Prop), Room A k → EnvOk env sc → Sub X.h0 g → StoIn σ env g s →
    wpAny X.M A (isTrue e env (eval e env)) (fun c s' => c = b ∧ Keeps s s' ∧ ∃ g', Step g s.heap g' s'.heap) E s

/-- a piece of work that is done from values to a value -/
def Does (X : Cx) (k : Nat) (t : Sem Value) (g : Heap) (s : Shared) (P : Heap → Value → Prop) : Prop :=
  ∀ (A : Around) (E : Value → Shared → Prop), Room A k → wpAny X.M A t (Post g s P) E s

section
variable {X : Cx} {k : Nat} {sc : Scope} {σ : Sto}

theorem EvP.mono {e : Expr} {P P' : Heap → Value → Prop} (h : EvP X k sc σ e P) (hp : ∀ g v, P g v → P' g v) : EvP X k sc σ e P' :=
  fun A env g s E r o b q => wpAny_mono (h A env g s E r o b q) (fun _ _ x => x.mono fun g' => hp g' _) fun _ _ x => x
theorem Ev.to {e : Expr} {d d' : Dat} (h : Ev X k sc σ e d) (q : d = d') : Ev X k sc σ e d' := q ▸ h

/-- sequencing -/
theorem wp_seq {α : Type} {A : Around} {E : Value → Shared → Prop} {s : Shared} {t : Sem α} {Q Q' : α → Shared → Prop} (h : wpAny X.M A t Q E s) (n : ∀ v s', Q v s' → Q' v s') : wpAny X.M A t Q' E s :=
  wpAny_mono h n fun _ _ y => y
theorem wp_ev {A : Around} {E : Value → Shared → Prop} {g : Heap} {s : Shared} {t : Sem Value} {P : Heap → Value → Prop} {Q : Value → Shared → Prop} (h : wpAny X.M A t (Post g s P) E s)
    (n : ∀ v g' s', Keeps s s' → Step g s.heap g' s'.heap → P g' v → Q v s') : wpAny X.M A t Q E s :=
  wpAny_mono h (fun v s' ⟨k1, g', x1, p1⟩ => n v g' s' k1 x1 p1) fun _ _ y => y
theorem wp_evs {A : Around} {E : Value → Shared → Prop} {g : Heap} {s : Shared} {t : Sem (List Value)} {ds : List Dat} {Q : List Value → Shared → Prop} (h : wpAny X.M A t (PostL g s ds) E s)
    (n : ∀ v g' s', Keeps s s' → Step g s.heap g' s'.heap → RepAll g' v ds → Q v s') : wpAny X.M A t Q E s :=
  wpAny_mono h (fun v s' ⟨k1, g', x1, p1⟩ => n v g' s' k1 x1 p1) fun _ _ y => y
/-- the last step of a chain -/
theorem wp_fin {A : Around} {E : Value → Shared → Prop} {g g' : Heap} {s s' : Shared} {t : Sem Value} {P : Heap → Value → Prop} (k1 : Keeps s s') (x1 : Step g s.heap g' s'.heap) (h : wpAny X.M A t (Post g' s' P) E s') :
    wpAny X.M A t (Post g s P) E s' := wpAny_mono h (fun _ _ y => .trans k1 x1 y) fun _ _ y => y

theorem Ev.local {x : Str} {pos : Pos} {d : Dat} (e : σ.lookup x = some (.dat d)) (hd : (x == ("__debug__" : Str)) = false := by decide) (hn : (x == ("__classdict__" : Str)) = false := by decide) : Ev X k sc σ (.Name x pos) d := by
  intro A env g s E r o b q
  obtain ⟨v, hv, hr⟩ := q.var x d e
  rcases hv with ⟨hl, m, ns, hm⟩ | ⟨hl, c, hc, hv⟩
  · exact wpAny_Name (wpAny_loadName_local o.ek hl ns hm (Post.here q.sub hr)) hd
  · rcases hl with hl | hl
    · exact wpAny_Name (wpAny_loadName_cell o.ek hl hc hv (Post.here q.sub hr)) hd
    · exact wpAny_Name (wpAny_loadName_free o.ek hl hc hv (Post.here q.sub hr) hn) hd

/-- a name that holds a value that is no datum -/
theorem EvP.localV {x : Str} {pos : Pos} {u : Value} (e : σ.lookup x = some (.val u)) (hd : (x == ("__debug__" : Str)) = false := by decide) (hn : (x == ("__classdict__" : Str)) = false := by decide) : EvP X k sc σ (.Name x pos) fun _ v => v = u := by
  intro A env g s E r o b q
  rcases q.val x u e with ⟨hl, m, ns, hm⟩ | ⟨hl, c, hc, hv⟩
  · exact wpAny_Name (wpAny_loadName_local o.ek hl ns hm (Post.here q.sub rfl)) hd
  · rcases hl with hl | hl
    · exact wpAny_Name (wpAny_loadName_cell o.ek hl hc hv (Post.here q.sub rfl)) hd
    · exact wpAny_Name (wpAny_loadName_free o.ek hl hc hv (Post.here q.sub rfl) hn) hd

theorem EvP.global {x : Str} {pos : Pos} {v : Value} (hk : sc.names.lookup x = some .globalImplicit) (e : X.mg x = some v) (hd : (x == ("__debug__" : Str)) = false := by decide) :
    EvP X k sc σ (.Name x pos) fun _ u => u = v := by
  intro A env g s E r o b q
  refine Name_function_global o.ek (o.kindOf hk) (loadGlobal_global (o.glob ▸ X.hg.keeps (b.trans q.sub)) e (Post.here q.sub rfl)) hd
theorem EvP.builtin {x : Str} {pos : Pos} {v : Value} (hk : sc.names.lookup x = some .globalImplicit) (e : X.mg x = none) (hv : bootBuiltins x = some v) (hn : x ≠ "__name__") (hd : (x == ("__debug__" : Str)) = false := by decide) :
    EvP X k sc σ (.Name x pos) fun _ u => u = v := by
  intro A env g s E r o b q
  refine Name_function_global o.ek (o.kindOf hk) (loadGlobal_builtin (o.glob ▸ X.hg.keeps (b.trans q.sub)) e (o.bi ▸ X.hb.keeps (b.trans q.sub)) ((X.hbi x hn).trans hv) (Post.here q.sub rfl)) hd

theorem Ev.int {i : Int} {n : Nat} {pos : Pos} : Ev X k sc σ (.Constant (.int i) n pos) (.int i) := fun _ _ _ _ _ _ _ _ q => wpAny_Constant_int (Post.tok q.sub (.int _ _))
theorem Ev.str {x : Str} {n : Nat} {pos : Pos} : Ev X k sc σ (.Constant (.str x) n pos) (.str x) := fun _ _ _ _ _ _ _ _ q => wpAny_Constant_str (Post.tok q.sub (.str _ _))
theorem Ev.bool {b : Bool} {n : Nat} {pos : Pos} : Ev X k sc σ (.Constant (.bool b) n pos) (.bool b) := fun _ _ _ _ _ _ _ _ q => wpAny_Constant_bool (Post.here q.sub (.bool _))
theorem Ev.none_ {n : Nat} {pos : Pos} : Ev X k sc σ (.Constant .none n pos) .none := fun _ _ _ _ _ _ _ _ q => wpAny_Constant_none (Post.here q.sub .none)

/-- the tail of an operation on two data -/
def Op2 (X : Cx) (k : Nat) (f : Value → Value → Sem Value) (a b c : Dat) : Prop :=
  ∀ (g : Heap) (s : Shared) (u v : Value), Sub X.h0 g → Sub g s.heap → Rep g u a → Rep g v b → Does X k (f u v) g s fun g' r => Rep g' r c

theorem Ev.bin {l r : Expr} {op : Operator} {pos : Pos} {a b c : Dat} (hl : Ev X k sc σ l a) (hr : Ev X k sc σ r b) (ho : Op2 X k (binaryOp op) a b c) : Ev X k sc σ (.BinOp l op r pos) c := by
  intro A env g s E rm o bs q
  refine wpAny_BinOp (wp_ev (hl A env g s E rm o bs q) fun u g1 s1 k1 x1 p1 => wp_ev (hr A env g1 s1 E rm o (bs.trans x1.gg) (q.step x1)) fun v g2 s2 k2 x2 p2 => ?_)
  exact wp_fin (kp_trans k1 k2) (x1.trans x2) (ho g2 s2 u v ((bs.trans x1.gg).trans x2.gg) x2.gh (p1.sub x2.gg) p2 A E rm)

theorem Ev.cmp {l r : Expr} {op : CmpOp} {pos : Pos} {a b c : Dat} (hl : Ev X k sc σ l a) (hr : Ev X k sc σ r b) (ho : Op2 X k (compareOp op) a b c) (hm : behindInMarks op r = false := by with_unfolding_all rfl) : Ev X k sc σ (.Compare l [op] [r] pos) c := by
  intro A env g s E rm o bs q
  refine wpAny_Compare1 (wp_ev (hl A env g s E rm o bs q) fun u g1 s1 k1 x1 p1 => wp_ev (hr A env g1 s1 E rm o (bs.trans x1.gg) (q.step x1)) fun v g2 s2 k2 x2 p2 => ?_) hm
  exact wp_fin (kp_trans k1 k2) (x1.trans x2) (ho g2 s2 u v ((bs.trans x1.gg).trans x2.gg) x2.gh (p1.sub x2.gg) p2 A E rm)

theorem EvT.cmp {l r : Expr} {op : CmpOp} {pos : Pos} {a b : Dat} {c : Bool} (hl : Ev X k sc σ l a) (hr : Ev X k sc σ r b) (ho : Op2 X k (compareOp op) a b (.bool c)) (hm : behindInMarks op r = false := by with_unfolding_all rfl) : EvT X k sc σ (.Compare l [op] [r] pos) c := by
  intro A env g s E rm o bs q
  refine wpAny_isTrue_Compare1 (wp_ev (hl A env g s E rm o bs q) fun u g1 s1 k1 x1 p1 => wp_ev (hr A env g1 s1 E rm o (bs.trans x1.gg) (q.step x1)) fun v g2 s2 k2 x2 p2 => ?_) hm
  refine wp_ev (ho g2 s2 u v ((bs.trans x1.gg).trans x2.gg) x2.gh (p1.sub x2.gg) p2 A E rm) fun c g3 s3 k3 x3 p3 => ?_
  cases p3
  exact wpAny_truthy_bool ⟨rfl, kp_trans k1 (kp_trans k2 k3), g3, x1.trans (x2.trans x3)⟩

/-- the truth of a datum -/
def Dat.isTrue : Dat → Bool
  | .none => false
  | .bool b => b
  | .int i => i != 0
  | .str x => x.length != 0
  | .bytes b => b.size != 0
  | .tuple ds => !ds.isEmpty
  | .list ds => !ds.isEmpty
end
end Mine

namespace Mine
open PySem PySem.W PyProof.Rows PySem.Calls
set_option Elab.async false
set_option maxRecDepth 100000
set_option linter.unusedVariables false
section
variable {X : Cx} {k : Nat} {sc : Scope} {σ : Sto}

theorem Does.tok {t : Sem Value} {g : Heap} {s : Shared} {P : Heap → Value → Prop} (kk : Sub g s.heap)
    (h : ∀ (A : Around) (E : Value → Shared → Prop) (Q : Value → Shared → Prop), Room A k → (∀ v tk, P g v → Q v { s with toks := tk }) → wpAny X.M A t Q E s) : Does X k t g s P :=
  fun A E r => h A E _ r fun _ _ p => Post.tok kk p

/-- int by int -/
theorem op_add {i j : Int} : Op2 X k (binaryOp .Add) (.int i) (.int j) (.int (i + j)) := by
  intro g s u v b0 kk hu hv; cases hu; cases hv
  exact Does.tok kk fun A E Q r h => add_int (h _ _ (.int _ _))
theorem op_sub {i j : Int} : Op2 X k (binaryOp .Sub) (.int i) (.int j) (.int (i - j)) := by
  intro g s u v b0 kk hu hv; cases hu; cases hv
  exact Does.tok kk fun A E Q r h => sub_int (h _ _ (.int _ _))
theorem op_mod {i j : Int} (hj : j ≠ 0) : Op2 X k (binaryOp .Mod) (.int i) (.int j) (.int (i.fmod j)) := by
  intro g s u v b0 kk hu hv; cases hu; cases hv
  exact Does.tok kk fun A E Q r h => mod_int hj (h _ _ (.int _ _))
theorem op_eq {i j : Int} : Op2 X k (compareOp .Eq) (.int i) (.int j) (.bool (i == j)) := by
  intro g s u v b0 kk hu hv; cases hu; cases hv
  exact Does.tok kk fun A E Q r h => PyProof.Rows.eq_int (h _ _ (.bool _))
theorem op_ne {i j : Int} : Op2 X k (compareOp .NotEq) (.int i) (.int j) (.bool (i != j)) := by
  intro g s u v b0 kk hu hv; cases hu; cases hv
  exact Does.tok kk fun A E Q r h => PyProof.Rows.ne_int (h _ _ (.bool _))
theorem op_lt {i j : Int} : Op2 X k (compareOp .Lt) (.int i) (.int j) (.bool (decide (i < j))) := by
  intro g s u v b0 kk hu hv; cases hu; cases hv
  exact Does.tok kk fun A E Q r h => PyProof.Rows.lt_int (h _ _ (.bool _))
theorem op_gt {i j : Int} : Op2 X k (compareOp .Gt) (.int i) (.int j) (.bool (decide (j < i))) := by
  intro g s u v b0 kk hu hv; cases hu; cases hv
  exact Does.tok kk fun A E Q r h => PyProof.Rows.gt_int (h _ _ (.bool _))
theorem Ev.neg {e : Expr} {pos : Pos} {i : Int} (h : Ev X k sc σ e (.int i)) : Ev X k sc σ (.UnaryOp .USub e pos) (.int (-i)) := by
  intro A env g s E rm o bs q
  refine wpAny_UnaryOp (wp_ev (h A env g s E rm o bs q) fun u g1 s1 k1 x1 p1 => ?_)
  cases p1
  exact PyProof.Rows.neg_int (.trans k1 x1 (Post.tok x1.gh (.int _ _)))

/-- truth -/
def Big (d : Dat) : Prop := match d with
  | .str x => (x.length : Int) < 2 ^ 63
  | .bytes _ => False
  | .tuple ds => (ds.length : Int) < 2 ^ 63
  | .list ds => (ds.length : Int) < 2 ^ 63
  | .none => False
  | _ => True
theorem truthy_dat {A : Around} {E : Value → Shared → Prop} {Q : Bool → Shared → Prop} {s : Shared} {g : Heap} {v : Value} {d : Dat} (kk : Sub g s.heap) (r : Rep g v d) (hb : Big d)
    (h : ∀ tk, Q (Dat.isTrue d) { s with toks := tk }) : wpAny X.M A (truthy v) Q E s := by
  cases r with
  | none => exact hb.elim
  | bool b => exact wpAny_truthy_bool (h s.toks)
  | int i t => exact P.truthy_int (h s.toks)
  | str x t =>
    refine P.truthy_str (by have : (x.length : Int) < 2 ^ 63 := hb; omega) ?_
    have e : ((x.length : Int) != 0) = (x.length != 0) := by
      rcases Nat.eq_zero_or_pos x.length with h0 | h0
      · rw [h0]; rfl
      · have h1 : (x.length : Int) ≠ 0 := by omega
        have h2 : x.length ≠ 0 := by omega
        rw [bne_iff_ne.mpr h1, bne_iff_ne.mpr h2]
    rw [e]; exact h (s.toks + 1 + 1)
  | bytes b t => exact hb.elim
  | tuple i r =>
    rename_i a vs ds
    have hb' : (ds.length : Int) < 2 ^ 63 := hb
    have hl := r.length
    refine truthy_tuple (isTup_sub kk i) (by simpa [hl] using hb') ?_
    have := h (s.toks + 1 + 1)
    have e : (!vs.toArray.isEmpty) = Dat.isTrue (.tuple ds) := by
      cases vs <;> cases ds <;> simp_all [Dat.isTrue]
    rw [e]; exact this
  | list i r =>
    rename_i a vs ds
    have hb' : (ds.length : Int) < 2 ^ 63 := hb
    have hl := r.length
    refine wpAny_truthy_list (isList_sub kk i) (by simpa [hl] using hb') ?_
    have := h (s.toks + 1 + 1)
    have e : (!vs.toArray.isEmpty) = Dat.isTrue (.list ds) := by
      cases vs <;> cases ds <;> simp_all [Dat.isTrue]
    rw [e]; exact this

theorem EvT.val {e : Expr} {d : Dat} (h : Ev X k sc σ e d) (hb : Big d) (he : ∀ env whole, isTrue e env whole = (do let v ← whole; standAt e.pos; holding [v] (truthy v)) := by intro _ _; rfl) : EvT X k sc σ e (Dat.isTrue d) := by
  intro A env g s E rm o bs q
  exact wpAny_isTrue_value (wp_ev (h A env g s E rm o bs q) fun u g1 s1 k1 x1 p1 => truthy_dat x1.gh p1 hb fun tk => ⟨rfl, kp_trans k1 kp_tok, g1, x1⟩) (he _ _)
theorem EvT.not {e : Expr} {pos : Pos} {b : Bool} (h : EvT X k sc σ e b) : EvT X k sc σ (.UnaryOp .Not e pos) (!b) := by
  intro A env g s E rm o bs q
  exact wpAny_isTrue_Not (wp_seq (h A env g s E rm o bs q) fun c s' ⟨e, r⟩ => ⟨by rw [e], r⟩)
/-- and, or in a test, of two parts -/
theorem EvT.and {e f : Expr} {pos : Pos} {a b : Bool} (h : EvT X k sc σ e a) (h2 : a = true → EvT X k sc σ f b) : EvT X k sc σ (.BoolOp .And [e, f] pos) (a && b) := by
  intro A env g s E rm o bs q
  refine wpAny_isTrue_BoolOp (wpAny_allTrue_And_cons (wp_seq (h A env g s E rm o bs q) fun c s1 ⟨ec, k1, g1, x1⟩ => ?_))
  subst ec
  cases c with
  | false => simp only [Bool.false_eq_true, if_false]; exact ⟨rfl, k1, g1, x1⟩
  | true =>
    simp only [if_true]
    refine wpAny_allTrue_And_cons (wp_seq (h2 rfl A env g1 s1 E rm o (bs.trans x1.gg) (q.step x1)) fun c s2 ⟨ec, k2, g2, x2⟩ => ?_)
    subst ec
    cases c with
    | false => simp only [Bool.false_eq_true, if_false]; exact ⟨rfl, kp_trans k1 k2, g2, x1.trans x2⟩
    | true => simp only [if_true]; exact wpAny_allTrue_And_nil ⟨rfl, kp_trans k1 k2, g2, x1.trans x2⟩
theorem EvT.or {e f : Expr} {pos : Pos} {a b : Bool} (h : EvT X k sc σ e a) (h2 : a = false → EvT X k sc σ f b) : EvT X k sc σ (.BoolOp .Or [e, f] pos) (a || b) := by
  intro A env g s E rm o bs q
  refine wpAny_isTrue_BoolOp (wpAny_allTrue_Or_cons (wp_seq (h A env g s E rm o bs q) fun c s1 ⟨ec, k1, g1, x1⟩ => ?_))
  subst ec
  cases c with
  | true => simp only [if_true]; exact ⟨rfl, k1, g1, x1⟩
  | false =>
    simp only [Bool.false_eq_true, if_false]
    refine wpAny_allTrue_Or_cons (wp_seq (h2 rfl A env g1 s1 E rm o (bs.trans x1.gg) (q.step x1)) fun c s2 ⟨ec, k2, g2, x2⟩ => ?_)
    subst ec
    cases c with
    | true => simp only [if_true]; exact ⟨rfl, kp_trans k1 k2, g2, x1.trans x2⟩
    | false => simp only [Bool.false_eq_true, if_false]; exact wpAny_allTrue_Or_nil ⟨rfl, kp_trans k1 k2, g2, x1.trans x2⟩
theorem EvT.to {e : Expr} {b c : Bool} (h : EvT X k sc σ e b) (q : b = c) : EvT X k sc σ e c := q ▸ h

/-- lists of expressions -/
theorem starEach_plain {e : Expr} (h : plainE e = true) (rest : List Expr) (env : Env) : starEach (e :: rest) env = (false, eval e env) :: starEach rest env := by
  cases e <;> first | rfl | cases h
theorem plain_any (pos : Pos) (env : Env) : ∀ {es : List Expr}, es.all plainE = true → (backTo pos (starEach es env)).any (·.1) = false
  | [], _ => rfl
  | e :: es, h => by
    rw [List.all_cons, Bool.and_eq_true] at h
    rw [starEach_plain h.1]
    show (false || (backTo pos (starEach es env)).any (·.1)) = false
    rw [plain_any pos env h.2]; rfl
theorem EvL.nil : EvL X k sc σ [] [] := ⟨rfl, fun _ _ g s _ _ _ _ _ q => wpAny_items_nil ⟨kp_refl, g, .rfl q.sub, .nil⟩⟩
theorem EvL.cons {e : Expr} {es : List Expr} {d : Dat} {ds : List Dat} (h : Ev X k sc σ e d) (r : EvL X k sc σ es ds) (hp : plainE e = true := by rfl) : EvL X k sc σ (e :: es) (d :: ds) := by
  refine ⟨by rw [List.all_cons, hp, r.1]; rfl, ?_⟩
  intro A env g s E pos rm o bs q
  rw [starEach_plain hp]
  show wpAny _ _ (spliced ((false, eval e env) :: backTo pos (starEach es env))) _ _ _
  refine spliced_cons (wp_ev (h A env g s E rm o bs q) fun u g1 s1 k1 x1 p1 => wp_evs (r.2 A env g1 s1 E pos rm o (bs.trans x1.gg) (q.step x1)) fun us g2 s2 k2 x2 p2 => ?_)
  exact ⟨kp_trans k1 k2, g2, x1.trans x2, .cons (p1.sub x2.gg) p2⟩

theorem step_push {g : Heap} {s s' : Shared} {o : Obj} {g' : Heap} (x : Step g s.heap g' s'.heap) : Step g s.heap (freeze g' s'.heap (s'.heap.push o)) (s'.heap.push o) :=
  x.trans (.of_sub x.gh (Sub.push .rfl o))
theorem freeze_push {g h : Heap} {o : Obj} (hf : o.isFreed = false) : (freeze g h (h.push o)).get? h.objs.size = some o :=
  freeze_new (Heap.get?_push_size _ hf) (by
    cases z : h.get? h.objs.size with
    | none => rfl
    | some o' => exact absurd (Heap.lt_size z) (Nat.lt_irrefl _))

theorem post_newList {g g' : Heap} {s s' : Shared} {vs : List Value} {ds : List Dat} (k1 : Keeps s s') (x1 : Step g s.heap g' s'.heap) (r : RepAll g' vs ds) :
    Post g s (fun g v => Rep g v (.list ds)) (.ref s'.heap.objs.size) { s' with heap := s'.heap.push { cls := .type "list", data := .seq vs.toArray } } :=
  ⟨kp_trans k1 (kp_mk (Sub.push .rfl _)), _, step_push x1, .list ⟨_, freeze_push rfl⟩ (r.sub (freeze_old x1.gh (Sub.push .rfl _)))⟩
theorem post_newTuple {g g' : Heap} {s s' : Shared} {vs : List Value} {ds : List Dat} (k1 : Keeps s s') (x1 : Step g s.heap g' s'.heap) (r : RepAll g' vs ds) :
    Post g s (fun g v => Rep g v (.tuple ds)) (.ref s'.heap.objs.size) { s' with heap := s'.heap.push { cls := .type "tuple", data := .seq vs.toArray } } :=
  ⟨kp_trans k1 (kp_mk (Sub.push .rfl _)), _, step_push x1, .tuple ⟨_, freeze_push rfl⟩ (r.sub (freeze_old x1.gh (Sub.push .rfl _)))⟩
theorem newList_post {A : Around} {E : Value → Shared → Prop} {g : Heap} {s : Shared} {vs : List Value} {ds : List Dat} (kk : Sub g s.heap) (r : RepAll g vs ds) (hz : ds.length ≤ sizeLine) :
    wpAny X.M A (newList vs) (Post g s fun g v => Rep g v (.list ds)) E s :=
  wpAny_newObj_type (post_newList kp_refl (.rfl kk) r) (by show vs.toArray.size ≤ sizeLine; rw [List.size_toArray, r.length]; exact hz)
theorem newTuple_post {A : Around} {E : Value → Shared → Prop} {g : Heap} {s : Shared} {vs : List Value} {ds : List Dat} (kk : Sub g s.heap) (r : RepAll g vs ds) (hz : ds.length ≤ sizeLine) :
    wpAny X.M A (newTuple vs) (Post g s fun g v => Rep g v (.tuple ds)) E s :=
  wpAny_newObj_type (post_newTuple kp_refl (.rfl kk) r) (by show vs.toArray.size ≤ sizeLine; rw [List.size_toArray, r.length]; exact hz)

theorem Ev.list {es : List Expr} {ds : List Dat} {pos : Pos} (h : EvL X k sc σ es ds) (hz : ds.length ≤ sizeLine := by exact of_decide_eq_true (by rfl)) : Ev X k sc σ (.List es pos) (.list ds) := by
  intro A env g s E rm o bs q
  exact List_ (wp_evs (h.2 A env g s E pos rm o bs q) fun us g1 s1 k1 x1 p1 => wp_fin k1 x1 (newList_post x1.gh p1 hz))
theorem Ev.tuple {es : List Expr} {ds : List Dat} {n : Nat} {pos : Pos} (h : EvL X k sc σ es ds) (hz : ds.length ≤ sizeLine := by exact of_decide_eq_true (by rfl)) : Ev X k sc σ (.Tuple es n pos) (.tuple ds) := by
  intro A env g s E rm o bs q
  exact Tuple_ (wp_evs (h.2 A env g s E pos rm o bs q) fun us g1 s1 k1 x1 p1 => wp_fin k1 x1 (newTuple_post x1.gh p1 hz))

/-- an item at a place -/
theorem Ev.item {value slice : Expr} {pos : Pos} {ds : List Dat} {d : Dat} {i : Int} (hv : Ev X k sc σ value (.list ds)) (hi : Ev X k sc σ slice (.int i)) (h0 : 0 ≤ i) (h1 : i < 2 ^ 63) (hd : ds[i.toNat]? = some d)
    (hs : ∀ a i u, subscripted slice false (.ref a) (.int i u) = operate [.ref a, .int i u] (getItem (.ref a) (.int i u)) := by intro _ _ _; with_unfolding_all rfl) :
    Ev X k sc σ (.Subscript value slice pos) d := by
  intro A env g s E rm o bs q
  refine Subscript_ (wp_ev (hv A env g s E rm o bs q) fun u g1 s1 k1 x1 p1 => wp_ev (hi A env g1 s1 E rm o (bs.trans x1.gg) (q.step x1)) fun v g2 s2 k2 x2 p2 => ?_)
  cases p2
  cases p1 with
  | list il r =>
    obtain ⟨x, hx, hr⟩ := r.get hd
    have il2 := isList_sub (x1.gh.trans x2.hh) il
    refine tail_any il2.typeIs slot_list_getitem.lookup (wpAny_getItem_list il2 h0 h1 (by simpa using hx) ?_) (hs _ _ _)
    exact .trans (kp_trans k1 k2) (x1.trans x2) (Post.here x2.gh (hr.sub x2.gg))
end
end Mine

namespace Mine
open PySem PySem.W PyProof.Rows PySem.Calls
set_option Elab.async false
set_option maxRecDepth 100000
set_option linter.unusedVariables false
section
variable {X : Cx} {k : Nat} {sc : Scope} {σ : Sto}

/-- a tree over values, done on data -/
def OpN (X : Cx) (k : Nat) (t : List Value → Sem Value) (ds : List Dat) (P : Heap → Value → Prop) : Prop :=
  ∀ (g : Heap) (s : Shared) (vs : List Value), Sub X.h0 g → Sub g s.heap → RepAll g vs ds → Does X k (t vs) g s P

theorem evalArgs_evs {A : Around} {env : Env} {g : Heap} {s : Shared} {E : Value → Shared → Prop} {f : Value} {pos : Pos} {e : Expr} {es : List Expr} {ds : List Dat} {Q : Args → Shared → Prop}
    (hes : EvL X k sc σ (e :: es) ds) (rm : Room A k) (o : EnvOk env sc) (bs : Sub X.h0 g) (q : StoIn σ env g s)
    (h : ∀ vs g' s', Keeps s s' → Step g s.heap g' s'.heap → RepAll g' vs ds → Q ⟨vs, []⟩ s') :
    wpAny X.M A (evalArgs f true (backTo pos (starEach (e :: es) env)) []) Q E s := by
  have hp : plainE e = true := by have := hes.1; rw [List.all_cons, Bool.and_eq_true] at this; exact this.1
  have w := hes.2 A env g s E pos rm o bs q
  rw [starEach_plain hp] at w ⊢
  exact evalArgs_plain (wp_evs w h)

theorem callWith_seq {A : Around} {env : Env} {g : Heap} {s : Shared} {E : Value → Shared → Prop} {f : Value} {pos : Pos} {e : Expr} {es : List Expr} {ds : List Dat} {P : Heap → Value → Prop}
    (hes : EvL X k sc σ (e :: es) ds) (rm : Room A k) (o : EnvOk env sc) (bs : Sub X.h0 g) (q : StoIn σ env g s)
    (hk : ∀ h, Sub X.h0 h → ∃ kp, (kp = Keeper.frame ∨ kp = Keeper.machine ∨ kp = Keeper.boundFrame) ∧ Looks X.M h (keeperOf f) kp) (hop : OpN X k (fun vs => call f vs) ds P) :
    wpAny X.M A (callWith pos f [] (backTo pos (starEach (e :: es) env)) []) (Post g s P) E s := by
  refine callWith_of (P := fun h => Sub X.h0 h) (by rw [plain_any pos env hes.1]; rfl) hk (evalArgs_evs hes rm o bs q fun vs g1 s1 k1 x1 p1 => ?_)
  exact ⟨(bs.trans x1.gg).trans x1.gh, wp_fin k1 x1 (hop g1 s1 vs (bs.trans x1.gg) x1.gh p1 A E rm)⟩

theorem EvP.callB {f : Str} {p pos : Pos} {id : String} {e : Expr} {es : List Expr} {ds : List Dat} {P : Heap → Value → Prop} (hf : EvP X k sc σ (.Name f p) fun _ u => u = .builtin id) (hes : EvL X k sc σ (e :: es) ds)
    (hop : OpN X k (fun vs => call (.builtin id) vs) ds P) : EvP X k sc σ (.Call (.Name f p) (e :: es) [] pos) P := by
  intro A env g s E rm o bs q
  refine wpAny_Call_NameR (wp_ev (hf A env g s E rm o bs q) fun u g1 s1 k1 x1 p1 => ?_)
  subst p1
  exact wp_fin k1 x1 (callWith_seq hes rm o (bs.trans x1.gg) (q.step x1) (fun h _ => ⟨.machine, .inr (.inl rfl), Looks.of_pure rfl⟩) hop)
theorem EvP.callT {f : Str} {p pos : Pos} {T : String} {e : Expr} {es : List Expr} {ds : List Dat} {P : Heap → Value → Prop} (hf : EvP X k sc σ (.Name f p) fun _ u => u = .type T) (hes : EvL X k sc σ (e :: es) ds)
    (hop : OpN X k (fun vs => call (.type T) vs) ds P) : EvP X k sc σ (.Call (.Name f p) (e :: es) [] pos) P := by
  intro A env g s E rm o bs q
  refine wpAny_Call_NameR (wp_ev (hf A env g s E rm o bs q) fun u g1 s1 k1 x1 p1 => ?_)
  subst p1
  exact wp_fin k1 x1 (callWith_seq hes rm o (bs.trans x1.gg) (q.step x1) (fun h _ => ⟨.machine, .inr (.inl rfl), Looks.of_pure rfl⟩) hop)

/-- a def of the text's: what its call yields -/
def Fn (X : Cx) (k : Nat) (f : Str) (ds : List Dat) (P : Heap → Value → Prop) : Prop :=
  ∃ a o fd, X.mg f = some (.ref a) ∧ X.h0.get? a = some o ∧ o.data = .func fd ∧ OpN X k (fun vs => call (.ref a) vs) ds P
theorem EvP.callF {f : Str} {p pos : Pos} {e : Expr} {es : List Expr} {ds : List Dat} {P : Heap → Value → Prop} (hk : sc.names.lookup f = some .globalImplicit) (hes : EvL X k sc σ (e :: es) ds) (hf : Fn X k f ds P)
    (hd : (f == ("__debug__" : Str)) = false := by decide) : EvP X k sc σ (.Call (.Name f p) (e :: es) [] pos) P := by
  obtain ⟨a, o, fd, h1, h2, h3, hop⟩ := hf
  intro A env g s E rm oe bs q
  refine wpAny_Call_NameR (wp_ev (EvP.global hk h1 hd A env g s E rm oe bs q) fun u g1 s1 k1 x1 p1 => ?_)
  subst p1
  refine wp_fin k1 x1 (callWith_seq hes rm oe (bs.trans x1.gg) (q.step x1) (fun h hs => ⟨.frame, .inl rfl, ?_⟩) hop)
  exact (Looks.ld (part := none) (hs a o h2)).andThen (by rw [h3]; exact Looks.of_pure rfl)

/-- len -/
theorem op_len {d : Dat} {n : Nat} (hn : (match d with | .str x => x.length = n | .list ds => ds.length = n | _ => False)) (hz : (n : Int) < 2 ^ 63) : OpN X k (fun vs => call (.builtin "len") vs) [d] fun g v => Rep g v (.int n) := by
  intro g s vs b0 kk r
  cases r with
  | cons a r =>
    cases r
    cases a with
    | str x t =>
      have hn' : x.length = n := hn
      subst hn'
      exact Does.tok kk fun A E Q rm h => P.len_str (by omega) (h _ _ (.int _ _))
    | list il r =>
      rename_i l us ds
      have hn' : ds.length = n := hn
      have hl := r.length
      refine Does.tok kk fun A E Q rm h => call_len_list (isList_sub kk il) (by simp; omega) ?_
      have e : (us.toArray.size : Int) = n := by simp; omega
      rw [e]; exact h _ _ (.int _ _)
    | _ => exact hn.elim
end
end Mine

namespace Mine
open PySem PySem.W PyProof.Rows PySem.Calls
set_option Elab.async false
set_option maxRecDepth 100000
set_option linter.unusedVariables false
open PySem.SeqAt PySem.MeetsSeq PySem.MeetsSeq2 PySem.MeetsSeq3 PySem.SeqRoads2
open PySem.AutoSeq1 (wpAny_loadPart')

end Mine

namespace Mine
open PySem PySem.W PyProof.Rows PySem.Calls
set_option Elab.async false
set_option maxRecDepth 100000
set_option linter.unusedVariables false

/-- Python's cut of a row by ones -/
def cut {α : Type} (l : List α) (lo hi : Option Int) : List α := (l.drop (kms_lo lo l.length)).take (kms_hi hi l.length - kms_lo lo l.length)
theorem kms_cut (l : List Value) (lo hi : Option Int) : kms_pick l lo hi = cut l lo hi := rfl
theorem RepAll.cut {h : Heap} {vs : List Value} {ds : List Dat} (r : RepAll h vs ds) (lo hi : Option Int) : RepAll h (cut vs lo hi) (cut ds lo hi) := by
  unfold Mine.cut
  rw [r.length]
  exact (r.drop _).take _
theorem cut_length_le {α : Type} (l : List α) (lo hi : Option Int) : (cut l lo hi).length ≤ l.length := by
  unfold cut; rw [List.length_take, List.length_drop]; omega
theorem cut_from {α : Type} (l : List α) (i : Nat) : cut l (some (i : Int)) none = l.drop i := by
  unfold cut kms_lo kms_hi
  have h : ¬ ((i : Int) < 0) := by omega
  simp only [if_neg h, Int.toNat_natCast]
  rcases Nat.le_total i l.length with h1 | h1
  · rw [Nat.min_eq_left h1, List.take_of_length_le]; rw [List.length_drop]; exact Nat.le_refl _
  · rw [Nat.min_eq_right h1, List.drop_of_length_le (Nat.le_refl _), List.drop_of_length_le h1]; simp
theorem cut_upto {α : Type} (l : List α) (j : Nat) : cut l none (some (j : Int)) = l.take j := by
  unfold cut kms_lo kms_hi
  have h : ¬ ((j : Int) < 0) := by omega
  simp only [if_neg h, Int.toNat_natCast, List.drop_zero, Nat.sub_zero]
  rcases Nat.le_total j l.length with h1 | h1
  · rw [Nat.min_eq_left h1]
  · rw [Nat.min_eq_right h1, List.take_of_length_le (Nat.le_refl _), List.take_of_length_le h1]
theorem cut_mid {α : Type} (l : List α) (i j : Nat) : cut l (some (i : Int)) (some (j : Int)) = (l.drop i).take (j - i) := by
  unfold cut kms_lo kms_hi
  have h : ¬ ((i : Int) < 0) := by omega
  have h' : ¬ ((j : Int) < 0) := by omega
  simp only [if_neg h, if_neg h', Int.toNat_natCast]
  rcases Nat.le_total i l.length with h1 | h1
  · rw [Nat.min_eq_left h1]
    rcases Nat.le_total j l.length with h2 | h2
    · rw [Nat.min_eq_left h2]
    · rw [Nat.min_eq_right h2, List.take_of_length_le (by rw [List.length_drop]; exact Nat.le_refl _), List.take_of_length_le (by rw [List.length_drop]; omega)]
  · rw [Nat.min_eq_right h1, List.drop_of_length_le (Nat.le_refl _), List.drop_of_length_le h1]; simp

section
variable {X : Cx} {k : Nat} {sc : Scope} {σ : Sto}

/-- an end of a cut -/
def EvO (X : Cx) (k : Nat) (sc : Scope) (σ : Sto) (e : Option Expr) (i : Option Int) : Prop :=
  ∀ (A : Around) (env : Env) (g : Heap) (s : Shared) (E : Value → Shared → Prop), Room A k → EnvOk env sc → Sub X.h0 g → StoIn σ env g s →
    wpAny X.M A (evalPart e env) (Post g s fun _ v => IsPart v i) E s
theorem EvO.none : EvO X k sc σ Option.none Option.none := fun _ _ _ _ _ _ _ _ q => wpAny_pure (Post.here q.sub .none)
theorem EvO.some {e : Expr} {i : Int} (h : Ev X k sc σ e (.int i)) : EvO X k sc σ (Option.some e) (Option.some i) := by
  intro A env g s E rm o bs q
  rw [evalPart_some]
  exact wpAny_mono (h A env g s E rm o bs q) (fun v s' y => y.mono fun g' r => by cases r; exact .int _ _) fun _ _ y => y

theorem Ev.slice {value : Expr} {lower upper : Option Expr} {p pos : Pos} {ds : List Dat} {lo hi : Option Int} (hv : Ev X k sc σ value (.list ds)) (hl : EvO X k sc σ lower lo) (hu : EvO X k sc σ upper hi) (hz : ds.length ≤ sizeLine) :
    Ev X k sc σ (.Subscript value (.Slice lower upper Option.none p) pos) (.list (cut ds lo hi)) := by
  intro A env g s E rm o bs q
  refine Subscript_ (wp_ev (hv A env g s E rm o bs q) fun u g1 s1 k1 x1 p1 => wpAny_Slice (wp_ev (hl A env g1 s1 E rm o (bs.trans x1.gg) (q.step x1)) fun vl g2 s2 k2 x2 p2 =>
    wp_ev (hu A env g2 s2 E rm o ((bs.trans x1.gg).trans x2.gg) ((q.step x1).step x2)) fun vu g3 s3 k3 x3 p3 => ?_))
  rw [evalPart_none]
  refine wpAny_pure ?_
  cases p1 with
  | list il r =>
    rename_i a vs
    have il3 : s3.heap.IsList a vs.toArray := isList_sub (x1.gh.trans (x2.hh.trans x3.hh)) il
    have x4 := step_push (o := { cls := .type "slice", data := .fields #[vl, vu, .none] }) (x1.trans (x2.trans x3))
    refine tail_any (Heap.IsList.typeIs (il3.push _)) slot_list_getitem.lookup (wpAny_getItem_list_slice (il3.push _) (Heap.IsSliceOf.new ..) p2 p3 .none (by simp) ?_ (by simp; rw [r.length]; exact hz)) (by with_unfolding_all rfl)
    rw [kms_pick_eq, kms_cut]
    have r4 : RepAll (freeze g3 s3.heap (s3.heap.push { cls := .type "slice", data := .fields #[vl, vu, .none] })) (cut vs lo hi) (cut ds lo hi) := (r.cut lo hi).sub ((x2.gg.trans x3.gg).trans (freeze_old x3.gh (Sub.push .rfl _)))
    exact post_newList (s' := { s3 with heap := s3.heap.push { cls := .type "slice", data := .fields #[vl, vu, .none] } }) (kp_trans k1 (kp_trans k2 (kp_trans k3 (kp_mk (Sub.push .rfl _))))) x4 r4

end
end Mine

namespace Mine
open PySem PySem.W PyProof.Rows PySem.Calls
set_option Elab.async false
set_option maxRecDepth 100000
set_option linter.unusedVariables false

def ownedNames : List String := ["enumerate", "zip", "dict_itemiterator", "dict_reverseitemiterator", "odict_iterator", "itertools.zip_longest", "itertools.pairwise"]
theorem letOwned_ok {prog : Program} {w : World} {A : Around} {E : Value → Shared → Prop} {s : Shared} {target : Expr} {I : Addr} {v : Value} {o : Obj} {n : String} {Q : Unit → Shared → Prop} (ho : s.heap.get? I = some o) (hc : o.cls = .type n) (hn : ownedNames.contains n = false) (h : Q () s) :
    wpAny (model prog w) A (letOwnedTupleGo target (.ref I) v) Q E s := by
  have key : ∀ a, v = .ref a → wpAny (model prog w) A (do
      let o ← load I
      match o.cls, o.data with
      | .type n, .fields vs =>
        if ["enumerate", "zip", "dict_itemiterator", "dict_reverseitemiterator", "odict_iterator", "itertools.zip_longest", "itertools.pairwise"].contains n && vs[0]? == some (rawInt a) then
          rule "for.unpacks-the-owned-tuple"
          updateField I 0 .none
      | _, _ => pure () : Sem Unit) Q E s := by
    intro a _
    refine wpAny_bind (wpAny_load ho ?_)
    rw [hc]
    cases hd : o.data with
    | fields vs =>
      show wpAny _ A (if (["enumerate", "zip", "dict_itemiterator", "dict_reverseitemiterator", "odict_iterator", "itertools.zip_longest", "itertools.pairwise"].contains n && vs[0]? == some (rawInt a)) = true then _ else _) Q E s
      have hn' : (["enumerate", "zip", "dict_itemiterator", "dict_reverseitemiterator", "odict_iterator", "itertools.zip_longest", "itertools.pairwise"] : List String).contains n = false := hn
      rw [hn', Bool.false_and, if_neg Bool.false_ne_true]
      exact wpAny_pure h
    | _ => exact wpAny_pure h
  unfold letOwnedTupleGo
  cases target <;> first
    | exact wpAny_pure h
    | (cases v <;> first
        | exact wpAny_pure h
        | exact key _ rfl)

/-- a value that a loop goes over, and what it hands out -/
structure Iter (X : Cx) (g : Heap) (s₂ : Shared) (old : Heap) (I : Addr) (ds : List Dat) (fp wr : List Addr) (P : Nat → Value → Prop) (St : Nat → Heap → Prop) : Prop where
  walks : ∀ A', A'.handled = none → Walks X.prog X.w A' I fp wr ds.length P St
  start : St 0 s₂.heap
  low : ∀ b ∈ fp, b < s₂.heap.objs.size
  fresh : ∀ b ∈ wr, old.get? b = none
  live : ∀ i h, St i h → ∀ b ∈ wr, (h.get? b).isSome
  foot : ∀ b ∈ fp, b ∈ wr ∨ (g.get? b).isSome
  item : ∀ i v, P i v → ∃ d, ds[i]? = some d ∧ Rep g v d
  own : ∀ i A E target v (s : Shared) (Q : Unit → Shared → Prop), St i s.heap → Q () s → wpAny X.M A (letOwnedTupleGo target (.ref I) v) Q E s
def IterOf (X : Cx) (k : Nat) (g : Heap) (s : Shared) (xv : Value) (ds : List Dat) : Prop :=
  ∀ (A : Around) (E : Value → Shared → Prop), Room A k → wpAny X.M A (pyIter xv) (fun it s₂ => Keeps s s₂ ∧ ∃ I fp wr P St, it = .ref I ∧ Iter X g s₂ s.heap I ds fp wr P St) E s
/-- an expression that is gone over -/
def Its (X : Cx) (k : Nat) (sc : Scope) (σ : Sto) (e : Expr) (ds : List Dat) : Prop :=
  EvP X k sc σ e (fun g v => ∀ s, Sub g s.heap → IterOf X k g s v ds) ∧ ∀ env x, foldedSetIterable e env x = pure x

theorem fresh_size {h : Heap} : h.get? h.objs.size = none := by
  cases z : h.get? h.objs.size with
  | none => rfl
  | some o' => exact absurd (Heap.lt_size z) (Nat.lt_irrefl _)

section
variable {X : Cx} {k : Nat} {sc : Scope} {σ : Sto}

theorem iterOf_list {g : Heap} {s : Shared} {a : Addr} {vs : List Value} {ds : List Dat} (kk : Sub g s.heap) (il : g.PlainList a vs.toArray) (r : RepAll g vs ds) : IterOf X k g s (.ref a) ds := by
  intro A E rm
  have il' := isList_sub kk il
  have hlt : a < s.heap.objs.size := let ⟨_, e, _⟩ := il'; Heap.lt_size e
  have hn : vs.toArray.size = ds.length := by rw [List.size_toArray, r.length]
  refine wpAny_pyIter_list il' ⟨kp_mk (Sub.push .rfl _), s.heap.objs.size, [s.heap.objs.size, a], [s.heap.objs.size], (fun i v => vs.toArray[i]? = some v), (fun i h => h.IsListIter s.heap.objs.size a i ∧ h.IsList a vs.toArray), rfl, ?_⟩
  exact {
    walks := fun A' hA => hn ▸ Walks.list hA s.heap.objs.size a (Nat.ne_of_lt hlt) vs.toArray
    start := ⟨⟨_, Heap.get?_push_size _ rfl, rfl, rfl⟩, il'.push _⟩
    low := fun b hb => by
      show b < (s.heap.push _).objs.size
      rw [Heap.size_push]
      rcases List.mem_cons.mp hb with rfl | hb
      · exact Nat.lt_succ_self _
      · rcases List.mem_cons.mp hb with rfl | hb
        · exact Nat.lt_succ_of_lt hlt
        · cases hb
    fresh := fun b hb => by rw [List.mem_singleton.mp hb]; exact fresh_size
    live := fun i h st b hb => by
      obtain ⟨⟨o, ho, _⟩, _⟩ := st
      rw [List.mem_singleton.mp hb, ho]; rfl
    foot := fun b hb => by
      rcases List.mem_cons.mp hb with rfl | hb
      · exact .inl (List.mem_singleton.mpr rfl)
      · rw [List.mem_singleton.mp hb]
        obtain ⟨n, ho⟩ := il
        exact .inr (by rw [ho]; rfl)
    item := fun i v hv => r.get' (by simpa using hv)
    own := fun i A' E' target v s' Q st q => by
      obtain ⟨⟨o, ho, hc, _⟩, _⟩ := st
      exact letOwned_ok ho hc (by decide) q }
theorem iterOf_tuple {g : Heap} {s : Shared} {a : Addr} {vs : List Value} {ds : List Dat} (kk : Sub g s.heap) (il : PlainTup g a vs.toArray) (r : RepAll g vs ds) : IterOf X k g s (.ref a) ds := by
  intro A E rm
  have il' := isTup_sub kk il
  have hlt : a < s.heap.objs.size := let ⟨_, e, _⟩ := il'; Heap.lt_size e
  have hn : vs.toArray.size = ds.length := by rw [List.size_toArray, r.length]
  refine wpAny_pyIter_tuple il' ⟨kp_mk (Sub.push .rfl _), s.heap.objs.size, [s.heap.objs.size, a], [s.heap.objs.size], (fun i v => vs.toArray[i]? = some v), (fun i h => h.IsTupleIter s.heap.objs.size a i ∧ h.IsTuple a vs.toArray), rfl, ?_⟩
  exact {
    walks := fun A' hA => hn ▸ Walks.tuple hA s.heap.objs.size a (Nat.ne_of_lt hlt) vs.toArray
    start := ⟨⟨_, Heap.get?_push_size _ rfl, rfl, rfl⟩, let ⟨o, ho, rr⟩ := il'; ⟨o, Heap.get?_push_of_some _ ho, rr⟩⟩
    low := fun b hb => by
      show b < (s.heap.push _).objs.size
      rw [Heap.size_push]
      rcases List.mem_cons.mp hb with rfl | hb
      · exact Nat.lt_succ_self _
      · rcases List.mem_cons.mp hb with rfl | hb
        · exact Nat.lt_succ_of_lt hlt
        · cases hb
    fresh := fun b hb => by rw [List.mem_singleton.mp hb]; exact fresh_size
    live := fun i h st b hb => by
      obtain ⟨⟨o, ho, _⟩, _⟩ := st
      rw [List.mem_singleton.mp hb, ho]; rfl
    foot := fun b hb => by
      rcases List.mem_cons.mp hb with rfl | hb
      · exact .inl (List.mem_singleton.mpr rfl)
      · rw [List.mem_singleton.mp hb]
        obtain ⟨n, ho⟩ := il
        exact .inr (by rw [ho]; rfl)
    item := fun i v hv => r.get' (by simpa using hv)
    own := fun i A' E' target v s' Q st q => by
      obtain ⟨⟨o, ho, hc, _⟩, _⟩ := st
      exact letOwned_ok ho hc (by decide) q }
theorem iterOf_dat {g : Heap} {s : Shared} {v : Value} {d : Dat} {ds : List Dat} (kk : Sub g s.heap) (r : Rep g v d) (hd : d = .list ds ∨ d = .tuple ds) : IterOf X k g s v ds := by
  rcases hd with rfl | rfl
  · cases r with | list il r => exact iterOf_list kk il r
  · cases r with | tuple il r => exact iterOf_tuple kk il r
theorem Its.list {e : Expr} {ds : List Dat} (h : Ev X k sc σ e (.list ds)) (hs : ∀ env x, foldedSetIterable e env x = pure x := by intro _ _; rfl) : Its X k sc σ e ds :=
  ⟨h.mono fun g v r s kk => iterOf_dat kk r (.inl rfl), hs⟩
theorem Its.tuple {e : Expr} {ds : List Dat} (h : Ev X k sc σ e (.tuple ds)) (hs : ∀ env x, foldedSetIterable e env x = pure x := by intro _ _; rfl) : Its X k sc σ e ds :=
  ⟨h.mono fun g v r s kk => iterOf_dat kk r (.inr rfl), hs⟩

/-- the ints of a range by ones, up or down -/
def rangeD (a : Int) (c : Int) (n : Nat) : List Dat := (List.range n).map fun (i : Nat) => Dat.int (a + (i : Int) * c)
theorem rangeD_length {a c : Int} {n : Nat} : (rangeD a c n).length = n := by simp [rangeD]
theorem rangeD_get {a c : Int} {n i : Nat} (h : i < n) : (rangeD a c n)[i]? = some (.int (a + (i : Int) * c)) := by simp [rangeD, h]
/-- a range object -/
def IsRg (g : Heap) (v : Value) (a b c : Int) : Prop := ∃ r t u w, v = .ref r ∧ IsRange g r a b c t u w
theorem iterOf_range {g : Heap} {s : Shared} {v : Value} {a b c : Int} {n : Nat} (kk : Sub g s.heap) (h : IsRg g v a b c) (hs : Builtin.Range.small a b c = true) (hn : Builtin.Range.rangeSize a b c = n) : IterOf X k g s v (rangeD a c n) := by
  intro A E rm
  obtain ⟨r, t, u, w, rfl, hr⟩ := h
  have hr' : IsRange s.heap r a b c t u w := kk _ _ hr
  refine wpAny_pyIter_range hr' hs ⟨kp_mk (Sub.push .rfl _), s.heap.objs.size, [s.heap.objs.size], [s.heap.objs.size], (fun i v => i < n ∧ ∃ t, v = .int (a + i * c) t), (fun i h => IsRangeIter h s.heap.objs.size (a + (i : Nat) * c) ((n : Int) - (i : Nat)) c), rfl, ?_⟩
  exact {
    walks := fun A' hA => by rw [rangeD_length]; exact (Walks.range hA s.heap.objs.size a c n).bound
    start := by
      show IsRangeIter _ _ _ _ _
      rw [hn]
      simpa using Heap.get?_push_size _ rfl
    low := fun b hb => by
      show b < (s.heap.push _).objs.size
      rw [Heap.size_push, List.mem_singleton.mp hb]
      exact Nat.lt_succ_self _
    fresh := fun b hb => by rw [List.mem_singleton.mp hb]; exact fresh_size
    live := fun i h st b hb => by
      have st' : h.get? s.heap.objs.size = _ := st
      rw [List.mem_singleton.mp hb, st']; rfl
    foot := fun b hb => .inl hb
    item := fun i v hv => by
      obtain ⟨hi, t, rfl⟩ := hv
      exact ⟨_, rangeD_get hi, .int _ _⟩
    own := fun i A' E' target v s' Q st q => letOwned_ok (n := "range_iterator") st rfl (by decide) q }

theorem op_range1 {n : Int} : OpN X k (fun vs => call (.type "range") vs) [.int n] fun g v => IsRg g v 0 n 1 := by
  intro g s vs b0 kk r A E rm
  cases r with
  | cons a r =>
    cases r; cases a
    refine call_range_1 ⟨kp_mk (Sub.push .rfl _), _, Step.of_sub kk (Sub.push .rfl _), ?_⟩
    exact ⟨_, _, _, _, rfl, freeze_new (IsRange.new ..) fresh_size⟩
theorem op_range2 {a b : Int} : OpN X k (fun vs => call (.type "range") vs) [.int a, .int b] fun g v => IsRg g v a b 1 := by
  intro g s vs b0 kk r A E rm
  cases r with
  | cons a r =>
    cases r with
    | cons b r =>
      cases r; cases a; cases b
      refine call_range_2 ⟨kp_mk (Sub.push .rfl _), _, Step.of_sub kk (Sub.push .rfl _), ?_⟩
      exact ⟨_, _, _, _, rfl, freeze_new (IsRange.new ..) fresh_size⟩
theorem Its.range1 {f : Str} {p pos : Pos} {e : Expr} {n : Int} (hf : EvP X k sc σ (.Name f p) fun _ u => u = .type "range") (h : Ev X k sc σ e (.int n)) (h0 : -(2 ^ 62) ≤ n) (hb : n < 2 ^ 62) (hp : plainE e = true := by rfl)
    (hs : ∀ env x, foldedSetIterable (.Call (.Name f p) [e] [] pos) env x = pure x := by intro _ _; rfl) : Its X k sc σ (.Call (.Name f p) [e] [] pos) (rangeD 0 1 n.toNat) := by
  refine ⟨(EvP.callT hf (.cons h .nil hp) op_range1).mono fun g v r s kk => iterOf_range kk r (PySem.small_one (by omega) (by omega) h0 hb) ?_, hs⟩
  rw [rangeSize_one]; split <;> omega
theorem Its.range2 {f : Str} {p pos : Pos} {e₁ e₂ : Expr} {a b : Int} (hf : EvP X k sc σ (.Name f p) fun _ u => u = .type "range") (h : Ev X k sc σ e₁ (.int a)) (h2 : Ev X k sc σ e₂ (.int b)) (ha : -(2 ^ 62) ≤ a) (ha' : a < 2 ^ 62) (hb : -(2 ^ 62) ≤ b) (hb' : b < 2 ^ 62)
    (hp : plainE e₁ = true := by rfl) (hp2 : plainE e₂ = true := by rfl)
    (hs : ∀ env x, foldedSetIterable (.Call (.Name f p) [e₁, e₂] [] pos) env x = pure x := by intro _ _; rfl) : Its X k sc σ (.Call (.Name f p) [e₁, e₂] [] pos) (rangeD a 1 (b - a).toNat) := by
  refine ⟨(EvP.callT hf (.cons h (.cons h2 .nil hp2) hp) op_range2).mono fun g v r s kk => iterOf_range kk r (PySem.small_one ha ha' hb hb') ?_, hs⟩
  rw [rangeSize_one]; split <;> omega
end
end Mine

namespace Mine
open PySem PySem.W PyProof.Rows PySem.Calls
set_option Elab.async false
set_option maxRecDepth 100000
set_option linter.unusedVariables false

def upd (x : Str) (lv : LV) : Sto → Sto
  | [] => [(x, lv)]
  | (y, l) :: r => if x == y then (y, lv) :: r else (y, l) :: upd x lv r
theorem lookup_upd (x : Str) (lv : LV) (z : Str) : ∀ τ : Sto, (upd x lv τ).lookup z = if z = x then some lv else τ.lookup z
  | [] => by
    unfold upd
    rw [List.lookup_cons]
    by_cases h : z = x
    · subst h; simp
    · have : (z == x) = false := by simpa using h
      rw [this, if_neg h]
  | (y, l) :: r => by
    unfold upd
    by_cases hxy : x = y
    · subst hxy
      simp only [beq_self_eq_true, if_true, List.lookup_cons]
      by_cases h : z = x
      · subst h; simp
      · have : (z == x) = false := by simpa using h
        rw [this, if_neg h]
    · have e : (x == y) = false := by simpa using hxy
      rw [e]
      simp only [Bool.false_eq_true, if_false, List.lookup_cons]
      by_cases h : z = y
      · subst h
        have : ¬ z = x := fun q => hxy q.symm
        simp [this]
      · have : (z == y) = false := by simpa using h
        rw [this, lookup_upd x lv z r]

/-- a part of a heap -/
def keepOnly (p : Addr → Bool) (h : Heap) : Heap := ⟨(Array.ofFn (n := h.objs.size) fun i => if p i.1 then h.objs[i] else ⟨.none, none, .freed, #[]⟩), h.life⟩
theorem keepOnly_get (p : Addr → Bool) (h : Heap) (b : Addr) : (keepOnly p h).get? b = if p b then h.get? b else none := by
  have sz : (keepOnly p h).objs.size = h.objs.size := by simp [keepOnly]
  by_cases hb : b < h.objs.size
  · have e : (keepOnly p h).objs[b]? = some (if p b then h.objs[b] else ⟨.none, none, .freed, #[]⟩) := by
      simp [keepOnly, hb]
    have e2 : h.objs[b]? = some h.objs[b] := by simp [hb]
    by_cases c : p b = true
    · rw [if_pos c] at e ⊢
      conv => lhs; unfold Heap.get?
      conv => rhs; unfold Heap.get?
      rw [e, e2]
    · rw [if_neg c] at e ⊢
      conv => lhs; unfold Heap.get?
      rw [e]
  · have hb2 : h.objs.size ≤ b := Nat.le_of_not_lt hb
    have e : (keepOnly p h).objs[b]? = none := Array.getElem?_eq_none (sz ▸ hb2)
    have e2 : h.objs[b]? = none := Array.getElem?_eq_none hb2
    have e3 : h.get? b = none := by unfold Heap.get?; rw [e2]
    rw [e3]
    conv => lhs; unfold Heap.get?
    rw [e]
    simp
/-- g and one more object of h -/
def withObj (g h : Heap) (a : Addr) : Heap := keepOnly (fun b => (g.get? b).isSome || b == a) h
theorem withObj_sub {g h : Heap} {a : Addr} (k : Sub g h) : Sub g (withObj g h a) := fun b o e => by
  unfold withObj; rw [keepOnly_get]; simp only [e, Option.isSome_some, Bool.true_or, if_true]; exact k b o e
theorem withObj_in {g h : Heap} {a : Addr} : Sub (withObj g h a) h := fun b o e => by
  unfold withObj at e; rw [keepOnly_get] at e
  split at e
  · exact e
  · cases e
theorem withObj_self {g h : Heap} {a : Addr} {o : Obj} (e : h.get? a = some o) : (withObj g h a).get? a = some o := by
  unfold withObj; rw [keepOnly_get]; simpa using e
theorem withObj_other {g h : Heap} {a b : Addr} (hg : g.get? b = none) (hb : b ≠ a) : (withObj g h a).get? b = none := by
  unfold withObj; rw [keepOnly_get, hg]
  have : (b == a) = false := by simpa using hb
  simp [this]

def Holds (env : Env) (m cm : Str → Option Value) (x : Str) (v : Value) : Prop :=
  (env.kindOf x = some .local ∧ m x = some v) ∨ (env.kindOf x = some .cell ∧ (env.cells.lookup x).isSome = true ∧ cm x = some v)
def LvIn (s₀ : Shared) (env : Env) (H : List (Addr × Obj)) (g : Heap) (s : Shared) (v : Value) : LV → Prop
  | .dat d => Rep g v d
  | .val u => v = u
  | .obj P _ => ∃ a o, v = .ref a ∧ s.heap.get? a = some o ∧ P a o g ∧ g.get? a = none ∧ s₀.heap.get? a = none ∧ a ≠ env.locals ∧ (∀ n c, env.cells.lookup n = some c → c ≠ a) ∧ ∀ p ∈ H, p.1 ≠ a

/-- the state of a call of a def: what its names hold; g stands still, H is what a loop around holds -/
structure FS (s₀ : Shared) (g₀ : Heap) (env : Env) (H : List (Addr × Obj)) (τ : Sto) (g : Heap) (m cm : Str → Option Value) (s : Shared) : Prop where
  call : InCallC s₀ env.locals m env.cells cm s
  st : Step g₀ s₀.heap g s.heap
  gL : g.get? env.locals = none
  gC : ∀ n c, env.cells.lookup n = some c → g.get? c = none
  hold : ∀ p ∈ H, s.heap.get? p.1 = some p.2 ∧ p.1 ≠ env.locals ∧ (∀ n c, env.cells.lookup n = some c → c ≠ p.1) ∧ g.get? p.1 = none ∧ s₀.heap.get? p.1 = none
  var : ∀ x lv, τ.lookup x = some lv → ∃ v, Holds env m cm x v ∧ LvIn s₀ env H g s v lv
  sep : ∀ x y a P mp Q mq, x ≠ y → τ.lookup x = some (.obj P mp) → τ.lookup y = some (.obj Q mq) → Holds env m cm x (.ref a) → ¬ Holds env m cm y (.ref a)

section
variable {s₀ s s' : Shared} {g₀ g g' : Heap} {env : Env} {H : List (Addr × Obj)} {τ : Sto} {m cm : Str → Option Value}

theorem Holds.fun {x : Str} {v u : Value} (h1 : Holds env m cm x v) (h2 : Holds env m cm x u) : v = u := by
  rcases h1 with ⟨a, b⟩ | ⟨a, _, b⟩ <;> rcases h2 with ⟨c, d⟩ | ⟨c, _, d⟩
  · rw [b] at d; exact Option.some.inj d
  · rw [a] at c; cases c
  · rw [a] at c; cases c
  · rw [b] at d; exact Option.some.inj d
theorem FS.sto (F : FS s₀ g₀ env H τ g m cm s) : StoIn τ env g s where
  sub := F.st.gh
  var := fun x d e => by
    obtain ⟨v, hv, lv⟩ := F.var x _ e
    refine ⟨v, ?_, lv⟩
    rcases hv with ⟨a, b⟩ | ⟨a, b, c⟩
    · exact .inl ⟨a, m, F.call.toInCall.ns, b⟩
    · obtain ⟨ad, hc⟩ := Option.isSome_iff_exists.mp b
      exact .inr ⟨.inl a, ad, hc, c ▸ F.call.cell x ad hc⟩
  val := fun x u e => by
    obtain ⟨v, hv, lv⟩ := F.var x _ e
    have lv' : v = u := lv
    subst lv'
    rcases hv with ⟨a, b⟩ | ⟨a, b, c⟩
    · exact .inl ⟨a, m, F.call.toInCall.ns, b⟩
    · obtain ⟨ad, hc⟩ := Option.isSome_iff_exists.mp b
      exact .inr ⟨.inl a, ad, hc, c ▸ F.call.cell x ad hc⟩
  obj := fun x P mp e => by
    obtain ⟨v, hv, lv⟩ := F.var x _ e
    obtain ⟨ad, o, rfl, h1, h2, _⟩ := lv
    refine ⟨ad, o, ?_, h1, h2⟩
    rcases hv with ⟨a, b⟩ | ⟨a, b, c⟩
    · exact .inl ⟨a, m, F.call.toInCall.ns, b⟩
    · obtain ⟨ca, hc⟩ := Option.isSome_iff_exists.mp b
      exact .inr ⟨.inl a, ca, hc, c ▸ F.call.cell x ca hc⟩
theorem LvIn.step {v : Value} {lv : LV} (x : Step g s.heap g' s'.heap) (h : LvIn s₀ env H g s v lv) : LvIn s₀ env H g' s' v lv := by
  cases lv with
  | dat d => exact Rep.sub x.gg h
  | val u => exact h
  | obj P mp =>
    obtain ⟨a, o, rfl, h1, h2, h3, h4, h5⟩ := h
    exact ⟨a, o, rfl, x.hh _ _ h1, mp _ _ _ _ x.gg h2, x.out h3 (by rw [h1]; rfl), h4, h5⟩
theorem FS.ev (F : FS s₀ g₀ env H τ g m cm s) (kk : Keeps s s') (x : Step g s.heap g' s'.heap) : FS s₀ g₀ env H τ g' m cm s' where
  call := by
    obtain ⟨h', tk, rfl, kp⟩ := kk
    exact F.call.kept kp
  st := F.st.trans x
  gL := x.out F.gL (by obtain ⟨o, _, _, ho, _⟩ := F.call.toInCall.ns; rw [ho]; rfl)
  gC := fun n c hc => x.out (F.gC n c hc) (by obtain ⟨o, ho, _⟩ := F.call.cell n c hc; rw [ho]; rfl)
  hold := fun p hp => by
    obtain ⟨h1, h2, h3, h4, h5⟩ := F.hold p hp
    exact ⟨x.hh _ _ h1, h2, h3, x.out h4 (by rw [h1]; rfl), h5⟩
  var := fun y lv e => let ⟨v, a, b⟩ := F.var y lv e; ⟨v, a, b.step x⟩
  sep := F.sep
theorem FS.tok (F : FS s₀ g₀ env H τ g m cm s) {t : Tok} : FS s₀ g₀ env H τ g m cm { s with toks := t } := F.ev kp_tok (.rfl F.st.gh)
theorem FS.done (F : FS s₀ g₀ env H τ g m cm s) : Keeps s₀ s := by
  obtain ⟨h, tk, e, kp⟩ := F.call.done
  exact ⟨h, tk, e, kp⟩

/-- what a new thing must be to be bound to a name -/
def NewLv (env : Env) (τ : Sto) (m cm : Str → Option Value) (x : Str) (v : Value) : LV → Prop
  | .dat _ => True
  | .val _ => True
  | .obj _ _ => ∀ y P mp, y ≠ x → τ.lookup y = some (.obj P mp) → ¬ Holds env m cm y v

theorem FS.bind (F : FS s₀ g₀ env H τ g m cm s) {x : Str} {v : Value} {lv : LV} {m' cm' : Str → Option Value} (call : InCallC s₀ env.locals m' env.cells cm' s')
    (hk : ∀ b o, b ≠ env.locals → (∀ n c, env.cells.lookup n = some c → b ≠ c) → s.heap.get? b = some o → s'.heap.get? b = some o)
    (hx : Holds env m' cm' x v) (hy : ∀ y u, y ≠ x → (Holds env m' cm' y u ↔ Holds env m cm y u)) (hl : LvIn s₀ env H g s v lv) (hn : NewLv env τ m cm x v lv) :
    FS s₀ g₀ env H (upd x lv τ) g m' cm' s' := by
  have gh : Sub g s'.heap := fun b o e => hk b o (fun q => by rw [q, F.gL] at e; cases e) (fun n c hc q => by rw [q, F.gC n c hc] at e; cases e) (F.st.gh b o e)
  have up : ∀ v lv, LvIn s₀ env H g s v lv → LvIn s₀ env H g s' v lv := by
    intro v lv h
    cases lv with
    | dat d => exact h
    | val u => exact h
    | obj P mp =>
      obtain ⟨a, o, rfl, h1, h2, h3, h4, h5, h6, h7⟩ := h
      exact ⟨a, o, rfl, hk a o h5 (fun n c hc q => h6 n c hc q.symm) h1, h2, h3, h4, h5, h6, h7⟩
  refine ⟨call, ⟨F.st.gg, call.toInCall.keep, gh, F.st.new⟩, F.gL, F.gC, fun p hp => ?_, fun y l e => ?_, fun y z a P mp Q mq hyz e1 e2 h1 h2 => ?_⟩
  · obtain ⟨h1, h2, h3, h4, h5⟩ := F.hold p hp
    exact ⟨hk _ _ h2 (fun n c hc q => h3 n c hc q.symm) h1, h2, h3, h4, h5⟩
  · rw [lookup_upd] at e
    by_cases q : y = x
    · rw [if_pos q] at e
      cases e
      subst q
      exact ⟨v, hx, up _ _ hl⟩
    · rw [if_neg q] at e
      obtain ⟨u, h1, h2⟩ := F.var y l e
      exact ⟨u, (hy y u q).mpr h1, up _ _ h2⟩
  · rw [lookup_upd] at e1 e2
    by_cases q : y = x
    · subst q
      rw [if_pos rfl] at e1
      cases e1
      have hz : ¬ z = y := fun t => hyz t.symm
      rw [if_neg hz] at e2
      have := hx.fun h1
      subst this
      exact hn z Q mq hz e2 ((hy z _ hz).mp h2)
    · rw [if_neg q] at e1
      by_cases q2 : z = x
      · subst q2
        rw [if_pos rfl] at e2
        cases e2
        have := hx.fun h2
        subst this
        exact hn y P mp q e1 ((hy y _ q).mp h1)
      · rw [if_neg q2] at e2
        exact F.sep y z a P mp Q mq hyz e1 e2 ((hy y _ q).mp h1) ((hy z _ q2).mp h2)
end

section
variable {X : Cx} {k : Nat} {sc : Scope} {τ : Sto} {s₀ s : Shared} {g₀ g : Heap} {env : Env} {H : List (Addr × Obj)} {m cm : Str → Option Value}

/-- a name is a place to store at -/
def canStore (sc : Scope) (x : Str) : Bool := sc.names.lookup x == some .local || sc.names.lookup x == some .cell

theorem wp_store {A : Around} {E : Value → Shared → Prop} {x : Str} {v : Value} {lv : LV} {Q : Unit → Shared → Prop} (F : FS s₀ g₀ env H τ g m cm s) (o : EnvOk env sc) (hx : canStore sc x = true) (hc : sc.names.lookup x = some .cell → (env.cells.lookup x).isSome = true)
    (hl : LvIn s₀ env H g s v lv) (hn : NewLv env τ m cm x v lv) (h : ∀ m' cm' s', FS s₀ g₀ env H (upd x lv τ) g m' cm' s' → Q () s') : wpAny X.M A (storeName env x v) Q E s := by
  unfold canStore at hx
  rw [Bool.or_eq_true] at hx
  rcases hx with hx | hx
  · have hk := o.kindOf (beq_iff_eq.mp hx)
    refine wpAny_storeName_local hk F.call.toInCall.ns (fun h' hns hs => h _ cm _ (F.bind (x := x) (v := v) ⟨⟨?_, hns, fun b ob e => ?_, F.call.toInCall.fresh⟩, fun n c hc => ?_, F.call.apart, F.call.above⟩ (fun b ob hb _ e => hs.extBut b ob hb e) ?_ (fun y u hy => ?_) hl hn)) o.plain
    · obtain ⟨h₁, tk, e⟩ := F.call.toInCall.same
      subst e
      exact ⟨h', _, rfl⟩
    · exact hs.extBut b ob (Nat.ne_of_lt (Nat.lt_of_lt_of_le (Heap.lt_size e) F.call.toInCall.fresh)) (F.call.toInCall.keep b ob e)
    · exact (F.call.cell n c hc).sameBut hs (Nat.ne_of_gt (F.call.above n c (mem_of_lookup hc)))
    · exact .inl ⟨hk, if_pos rfl⟩
    · unfold Holds
      simp only [if_neg hy]
  · have hk := o.kindOf (beq_iff_eq.mp hx)
    obtain ⟨c, hcl⟩ := Option.isSome_iff_exists.mp (hc (beq_iff_eq.mp hx))
    have hLc := F.call.above x c (mem_of_lookup hcl)
    refine wpAny_storeName_cell o.ek hk hcl (F.call.cell x c hcl) fun h' hce hs => h m (fun y => if y = x then some v else cm y) _ (F.bind (x := x) (v := v) ⟨⟨?_, F.call.toInCall.ns.sameBut hs (Nat.ne_of_lt hLc), fun b ob e => ?_, F.call.toInCall.fresh⟩, fun n c' hk' => ?_, F.call.apart, F.call.above⟩
      (fun b ob _ hb e => hs.extBut b ob (hb x c hcl) e) ?_ (fun y u hy => ?_) hl hn)
    · obtain ⟨h₁, tk, e⟩ := F.call.toInCall.same
      subst e
      exact ⟨h', _, rfl⟩
    · exact hs.extBut b ob (Nat.ne_of_lt (Nat.lt_trans (Nat.lt_of_lt_of_le (Heap.lt_size e) F.call.toInCall.fresh) hLc)) (F.call.toInCall.keep b ob e)
    · by_cases hkn : n = x
      · subst hkn
        rw [hcl] at hk'; cases hk'
        simpa using hce
      · rw [if_neg hkn]
        exact (F.call.cell n c' hk').sameBut hs fun e => hkn (name_of_addr F.call.apart (mem_of_lookup hk') (e ▸ mem_of_lookup hcl))
    · exact .inr ⟨hk, hc (beq_iff_eq.mp hx), if_pos rfl⟩
    · unfold Holds
      simp only [if_neg hy]

/-- how a piece of a def's body may end -/
inductive Out where
  | next (τ : Sto)
  | brk (τ : Sto)
  | cont (τ : Sto)
  | ret (d : Dat)
def OutIs (s₀ : Shared) (g₀ : Heap) (env : Env) (H : List (Addr × Obj)) (R : Out → Prop) (f : Flow) (s' : Shared) : Prop :=
  match f with
  | .next => ∃ τ g m cm, R (.next τ) ∧ FS s₀ g₀ env H τ g m cm s'
  | .brk => ∃ τ g m cm, R (.brk τ) ∧ FS s₀ g₀ env H τ g m cm s'
  | .cont => ∃ τ g m cm, R (.cont τ) ∧ FS s₀ g₀ env H τ g m cm s'
  | .ret v => ∃ d g, R (.ret d) ∧ Keeps s₀ s' ∧ Step g₀ s₀.heap g s'.heap ∧ Rep g v d
abbrev DefEnv (env : Env) (sc : Scope) : Prop := EnvOk env sc
def Ex (X : Cx) (k : Nat) (sc : Scope) (τ : Sto) (t : Env → Sem Flow) (R : Out → Prop) : Prop :=
  ∀ (A : Around) (env : Env) (s₀ : Shared) (g₀ : Heap) (H : List (Addr × Obj)) (g : Heap) (m cm : Str → Option Value) (s : Shared) (E : Value → Shared → Prop),
    Room A k → DefEnv env sc → Sub X.h0 g₀ → FS s₀ g₀ env H τ g m cm s → wpAny X.M A (t env) (OutIs s₀ g₀ env H R) E s

theorem OutIs.mono {R R' : Out → Prop} {f : Flow} {s' : Shared} (h : OutIs s₀ g₀ env H R f s') (hr : ∀ o, R o → R' o) : OutIs s₀ g₀ env H R' f s' := by
  cases f with
  | next => obtain ⟨τ, g, m, cm, r, F⟩ := h; exact ⟨τ, g, m, cm, hr _ r, F⟩
  | brk => obtain ⟨τ, g, m, cm, r, F⟩ := h; exact ⟨τ, g, m, cm, hr _ r, F⟩
  | cont => obtain ⟨τ, g, m, cm, r, F⟩ := h; exact ⟨τ, g, m, cm, hr _ r, F⟩
  | ret v => obtain ⟨d, g, r, F⟩ := h; exact ⟨d, g, hr _ r, F⟩
theorem Ex.mono {t : Env → Sem Flow} {R R' : Out → Prop} (h : Ex X k sc τ t R) (hr : ∀ o, R o → R' o) : Ex X k sc τ t R' :=
  fun A env s₀ g₀ H g m cm s E r o b F => wpAny_mono (h A env s₀ g₀ H g m cm s E r o b F) (fun _ _ x => x.mono hr) fun _ _ y => y

theorem Ex.nil {R : Out → Prop} (h : R (.next τ)) : Ex X k sc τ (execs []) R := fun A env s₀ g₀ H g m cm s E r o b F => wpAny_execs_nil ⟨τ, g, m, cm, h, F⟩
/-- a statement, then the rest -/
def Then (X : Cx) (k : Nat) (sc : Scope) (rest : List Stmt) (R : Out → Prop) : Out → Prop
  | .next τ => Ex X k sc τ (execs rest) R
  | o => R o
theorem Ex.cons {st : Stmt} {rest : List Stmt} {R : Out → Prop} (h : Ex X k sc τ (exec st) (Then X k sc rest R)) : Ex X k sc τ (execs (st :: rest)) R := by
  intro A env s₀ g₀ H g m cm s E r o b F
  refine wpAny_execs_cons (wpAny_mono (h A env s₀ g₀ H g m cm s E r o b F) (fun f s' x => ?_) fun _ _ y => y)
  cases f with
  | next => obtain ⟨τ', g', m', cm', rr, F'⟩ := x; exact rr A env s₀ g₀ H g' m' cm' s' E r o b F'
  | brk => exact x
  | cont => exact x
  | ret v => exact x
theorem Ex.last {st : Stmt} {R : Out → Prop} (h : Ex X k sc τ (exec st) R) : Ex X k sc τ (execs [st]) R :=
  Ex.cons (h.mono fun o r => by cases o with
    | next τ' => exact Ex.nil r
    | _ => exact r)

theorem Ex.return {e : Expr} {pos : Pos} {d : Dat} {R : Out → Prop} (h : Ev X k sc τ e d) (hr : R (.ret d)) : Ex X k sc τ (exec (.Return (some e) pos)) R := by
  intro A env s₀ g₀ H g m cm s E r o b F
  refine wpAny_Return_some (wp_ev (h A env g s E r o.toEnvOk (b.trans F.st.gg) F.sto) fun v g' s' k1 x1 p1 => ?_)
  exact ⟨d, g', hr, kp_trans F.done k1, F.st.trans x1, p1⟩
theorem Ex.if {test : Expr} {body orelse : List Stmt} {pos : Pos} {c : Bool} {R : Out → Prop} (h : EvT X k sc τ test c) (h1 : c = true → Ex X k sc τ (execs body) R) (h2 : c = false → Ex X k sc τ (execs orelse) R) : Ex X k sc τ (exec (.If test body orelse pos)) R := by
  intro A env s₀ g₀ H g m cm s E r o b F
  refine wpAny_If (wp_seq (h A env g s E r o.toEnvOk (b.trans F.st.gg) F.sto) fun c' s' ⟨e, k1, g', x1⟩ => ?_)
  subst e
  cases c' with
  | true => simp only [if_true]; exact h1 rfl A env s₀ g₀ H g' m cm s' E r o b (F.ev k1 x1)
  | false => simp only [Bool.false_eq_true, if_false]; exact h2 rfl A env s₀ g₀ H g' m cm s' E r o b (F.ev k1 x1)
/-- x = e -/
theorem Ex.assign {x : Str} {px pos : Pos} {e : Expr} {d : Dat} {R : Out → Prop} (h : Ev X k sc τ e d) (hr : R (.next (upd x (.dat d) τ))) (hx : canStore sc x = true := by rfl)
    (hs : ∀ env, swapsWith e (some (.Name x px)) pos.line env = pure false := by intro _; rfl) : Ex X k sc τ (exec (.Assign [.Name x px] e pos)) R := by
  intro A env s₀ g₀ H g m cm s E r o b F
  refine wpAny_Assign_Name (wp_ev (h A env g s E r o.toEnvOk (b.trans F.st.gg) F.sto) fun v g' s' k1 x1 p1 => ?_) (hs env)
  exact wp_store (lv := .dat d) (F.ev k1 x1) o.toEnvOk hx (o.cells x) p1 trivial fun m' cm' s'' F' => ⟨_, g', m', cm', hr, F'⟩
/-- x = e, e no datum -/
theorem Ex.assignV {x : Str} {px pos : Pos} {e : Expr} {u : Value} {R : Out → Prop} (h : EvP X k sc τ e fun _ v => v = u) (hr : R (.next (upd x (.val u) τ))) (hx : canStore sc x = true := by rfl)
    (hs : ∀ env, swapsWith e (some (.Name x px)) pos.line env = pure false := by intro _; rfl) : Ex X k sc τ (exec (.Assign [.Name x px] e pos)) R := by
  intro A env s₀ g₀ H g m cm s E r o b F
  refine wpAny_Assign_Name (wp_ev (h A env g s E r o.toEnvOk (b.trans F.st.gg) F.sto) fun v g' s' k1 x1 p1 => ?_) (hs env)
  exact wp_store (lv := .val u) (F.ev k1 x1) o.toEnvOk hx (o.cells x) p1 trivial fun m' cm' s'' F' => ⟨_, g', m', cm', hr, F'⟩
end
end Mine

namespace Mine
open PySem PySem.W PyProof.Rows PySem.Calls
set_option Elab.async false
set_option maxRecDepth 100000
set_option linter.unusedVariables false

/-- what stands at some addresses -/
def objsAt (wr : List Addr) (h : Heap) : List (Addr × Obj) := wr.filterMap fun b => (h.get? b).map fun o => (b, o)
theorem mem_objsAt {wr : List Addr} {h : Heap} {p : Addr × Obj} : p ∈ objsAt wr h ↔ p.1 ∈ wr ∧ h.get? p.1 = some p.2 := by
  obtain ⟨a, o⟩ := p
  unfold objsAt
  rw [List.mem_filterMap]
  constructor
  · rintro ⟨b, hb, e⟩
    cases z : h.get? b with
    | none => rw [z] at e; cases e
    | some q => rw [z] at e; cases e; exact ⟨hb, z⟩
  · rintro ⟨h1, h2⟩
    exact ⟨a, h1, by rw [show h.get? a = some o from h2]; rfl⟩

section
variable {s₀ s : Shared} {g₀ g : Heap} {env : Env} {H : List (Addr × Obj)} {τ : Sto} {m cm : Str → Option Value}

theorem LvIn.hold {H' : List (Addr × Obj)} {v : Value} {lv : LV} (h : LvIn s₀ env H g s v lv) (hh : ∀ a, (s.heap.get? a).isSome → g.get? a = none → a ≠ env.locals → (∀ n c, env.cells.lookup n = some c → c ≠ a) → (∀ p ∈ H, p.1 ≠ a) → ∀ p ∈ H', p.1 ≠ a) : LvIn s₀ env H' g s v lv := by
  cases lv with
  | dat d => exact h
  | val u => exact h
  | obj P mp =>
    obtain ⟨a, o, rfl, h1, h2, h3, h4, h5, h6, h7⟩ := h
    exact ⟨a, o, rfl, h1, h2, h3, h4, h5, h6, hh a (by rw [h1]; rfl) h3 h5 h6 h7⟩
/-- fewer things are held -/
theorem FS.less (F : FS s₀ g₀ env H τ g m cm s) {H' : List (Addr × Obj)} (h : ∀ p ∈ H', p ∈ H) : FS s₀ g₀ env H' τ g m cm s :=
  ⟨F.call, F.st, F.gL, F.gC, fun p hp => F.hold p (h p hp), fun x lv e => let ⟨v, a, b⟩ := F.var x lv e; ⟨v, a, b.hold fun a _ _ _ _ q p hp => q p (h p hp)⟩, F.sep⟩
/-- new things are held -/
theorem FS.more (F : FS s₀ g₀ env H τ g m cm s) {old g' : Heap} {wr : List Addr} (F0 : FS s₀ g₀ env H τ g' m cm { s with heap := old }) (hw : ∀ b ∈ wr, old.get? b = none) (hg : ∀ b ∈ wr, g.get? b = none) : FS s₀ g₀ env (objsAt wr s.heap ++ H) τ g m cm s := by
  have none_of : ∀ {k : Heap} {b}, Sub k old → b ∈ wr → k.get? b = none := by
    intro k b hs hb
    cases z : k.get? b with
    | none => rfl
    | some o => have := hs _ _ z; rw [hw b hb] at this; cases this
  refine ⟨F.call, F.st, F.gL, F.gC, fun p hp => ?_, fun x lv e => ?_, F.sep⟩
  · rcases List.mem_append.mp hp with hp | hp
    · obtain ⟨h1, h2⟩ := mem_objsAt.mp hp
      refine ⟨h2, fun q => ?_, fun n c hc q => ?_, hg _ h1, none_of F0.st.hh h1⟩
      · obtain ⟨o, _, _, ho, _⟩ := F0.call.toInCall.ns
        have := hw _ h1
        rw [q] at this
        have ho' : old.get? env.locals = some o := ho
        rw [ho'] at this; cases this
      · obtain ⟨o, ho, _⟩ := F0.call.cell n c hc
        have := hw _ h1
        rw [← q] at this
        have ho' : old.get? c = some o := ho
        rw [ho'] at this; cases this
    · exact F.hold p hp
  · obtain ⟨v, a, b⟩ := F.var x lv e
    obtain ⟨v0, a0, b0⟩ := F0.var x lv e
    have hv := a.fun a0
    subst hv
    refine ⟨v, a, ?_⟩
    cases lv with
    | dat d => exact b
    | val u => exact b
    | obj P mp =>
      obtain ⟨ad, o, rfl, h1, h2, h3, h4, h5, h6, h7⟩ := b
      obtain ⟨ad', o', e', k1, _⟩ := b0
      cases e'
      refine ⟨ad, o, rfl, h1, h2, h3, h4, h5, h6, fun p hp => ?_⟩
      rcases List.mem_append.mp hp with hp | hp
      · obtain ⟨q1, q2⟩ := mem_objsAt.mp hp
        intro q
        have := hw _ q1
        rw [q] at this
        have k1' : old.get? ad = some o' := k1
        rw [k1'] at this; cases this
      · exact h7 p hp
/-- the held things have been turned -/
theorem FS.wrote {wr : List Addr} (F : FS s₀ g₀ env (objsAt wr s.heap ++ H) τ g m cm s) {h' : Heap} {tk : Tok} (hd : ∀ p ∈ H, p.1 ∉ wr) (hl : ∀ b ∈ wr, (s.heap.get? b).isSome) (hk : ∀ b o, b ∉ wr → s.heap.get? b = some o → h'.get? b = some o) :
    FS s₀ g₀ env (objsAt wr h' ++ H) τ g m cm { s with heap := h', toks := tk } := by
  have at_ : ∀ b ∈ wr, b ≠ env.locals ∧ (∀ n c, env.cells.lookup n = some c → c ≠ b) ∧ g.get? b = none ∧ s₀.heap.get? b = none := by
    intro b hb
    obtain ⟨o, ho⟩ := Option.isSome_iff_exists.mp (hl b hb)
    obtain ⟨_, h2, h3, h4, h5⟩ := F.hold (b, o) (List.mem_append_left _ (mem_objsAt.mpr ⟨hb, ho⟩))
    exact ⟨h2, h3, h4, h5⟩
  have ns := F.call.toInCall.ns
  have keep0 : Sub s₀.heap h' := fun b o e => hk b o (fun q => by have := (at_ b q).2.2.2; rw [this] at e; cases e) (F.call.toInCall.keep b o e)
  have keepg : Sub g h' := fun b o e => hk b o (fun q => by have := (at_ b q).2.2.1; rw [this] at e; cases e) (F.st.gh b o e)
  refine ⟨⟨⟨?_, ?_, keep0, F.call.toInCall.fresh⟩, fun n c hc => ?_, F.call.apart, F.call.above⟩, ⟨F.st.gg, keep0, keepg, F.st.new⟩, F.gL, F.gC, fun p hp => ?_, fun x lv e => ?_, F.sep⟩
  · obtain ⟨h₁, t, e⟩ := F.call.toInCall.same
    subst e
    exact ⟨h', tk, rfl⟩
  · obtain ⟨o, es, ep, ho, r⟩ := ns
    exact ⟨o, es, ep, hk _ _ (fun q => (at_ _ q).1 rfl) ho, r⟩
  · obtain ⟨o, ho, hd⟩ := F.call.cell n c hc
    exact ⟨o, hk _ _ (fun q => (at_ _ q).2.1 n c hc rfl) ho, hd⟩
  · rcases List.mem_append.mp hp with hp | hp
    · obtain ⟨h1, h2⟩ := mem_objsAt.mp hp
      obtain ⟨a1, a2, a3, a4⟩ := at_ _ h1
      exact ⟨h2, a1, a2, a3, a4⟩
    · obtain ⟨h1, h2, h3, h4, h5⟩ := F.hold p (List.mem_append_right _ hp)
      exact ⟨hk _ _ (hd p hp) h1, h2, h3, h4, h5⟩
  · obtain ⟨v, a, b⟩ := F.var x lv e
    refine ⟨v, a, ?_⟩
    cases lv with
    | dat d => exact b
    | val u => exact b
    | obj P mp =>
      obtain ⟨ad, o, rfl, h1, h2, h3, h4, h5, h6, h7⟩ := b
      have hadw : ad ∉ wr := fun q => by
        obtain ⟨o', ho'⟩ := Option.isSome_iff_exists.mp (hl ad q)
        exact h7 (ad, o') (List.mem_append_left _ (mem_objsAt.mpr ⟨q, ho'⟩)) rfl
      refine ⟨ad, o, rfl, hk _ _ hadw h1, h2, h3, h4, h5, h6, fun p hp => ?_⟩
      rcases List.mem_append.mp hp with hp | hp
      · exact fun q => hadw (q ▸ (mem_objsAt.mp hp).1)
      · exact h7 p (List.mem_append_right _ hp)
end

section
variable {X : Cx} {k : Nat} {sc : Scope} {τ : Sto} {s₀ s : Shared} {g₀ g : Heap} {env : Env} {H : List (Addr × Obj)} {m cm : Str → Option Value}

theorem FS.base (F : FS s₀ g₀ env H τ g m cm s) : FS s₀ g env H τ g m cm s := ⟨F.call, ⟨.rfl, F.st.hh, F.st.gh, fun _ _ e => .inl e⟩, F.gL, F.gC, F.hold, F.var, F.sep⟩
theorem step_base {g₀ g g2 h0 h h2 : Heap} (x : Step g₀ h0 g h) (y : Step g h0 g2 h2) : Step g₀ h0 g2 h2 :=
  ⟨x.gg.trans y.gg, y.hh, y.gh, fun b o e => by
    rcases y.new b o e with q | q
    · exact x.new b o q
    · exact .inr q⟩
theorem FS.unbase {g2 : Heap} {h : Heap} (x : Step g₀ s₀.heap g h) (F : FS s₀ g env H τ g2 m cm s) : FS s₀ g₀ env H τ g2 m cm s := ⟨F.call, step_base x F.st, F.gL, F.gC, F.hold, F.var, F.sep⟩

/-- what a loop's turn is to bring -/
def Turn (Inv : Sto → Prop) (R : Out → Prop) : Out → Prop
  | .next τ => Inv τ
  | .cont τ => Inv τ
  | .brk τ => R (.next τ)
  | .ret d => R (.ret d)

theorem Ex.forG {tg : Expr} {bd : Dat → Sto → Sto} {pos : Pos} {iter : Expr} {body : List Stmt} {ds : List Dat} {R : Out → Prop} (hit : Its X k sc τ iter ds) (Inv : Nat → Sto → Prop) (h0 : Inv 0 τ)
    (turn : ∀ i τ' d, ds[i]? = some d → Inv i τ' → Ex X k sc (bd d τ') (execs body) (Turn (Inv (i + 1)) R)) (done : ∀ τ', Inv ds.length τ' → R (.next τ')) 
    (asg : ∀ (A : Around) (E : Value → Shared → Prop) (env : Env) (s₀ : Shared) (g₀ : Heap) (H : List (Addr × Obj)) (g : Heap) (m cm : Str → Option Value) (s : Shared) (τ' : Sto) (v : Value) (d : Dat) (Q : Unit → Shared → Prop), Room A k → EnvOk env sc → FS s₀ g₀ env H τ' g m cm s → Rep g v d → d ∈ ds →
      (∀ m' cm' s', FS s₀ g₀ env H (bd d τ') g m' cm' s' → Q () s') → wpAny X.M A (PySem.assign tg env v) Q E s) :
    Ex X k sc τ (exec (.For tg iter body [] pos)) R := by
  intro A env s₀ g₀ H g m cm s E r o b F
  refine wpAny_For (wp_ev (hit.1 A env g s E r o.toEnvOk (b.trans F.st.gg) F.sto) fun xv g1 s1 k1 x1 p1 => ?_) (hit.2 env)
  have F1 := F.ev k1 x1
  refine wpAny_mono (p1 s1 x1.gh A E r) (fun it s2 ⟨k2, I, fp, wr, P, St, e, W⟩ => ?_) fun _ _ y => y
  subst e
  have x2 : Step g1 s1.heap g1 s2.heap := ⟨.rfl, kp_sub k2, x1.gh.trans (kp_sub k2), fun _ _ e => .inl e⟩
  have F2' := F1.ev k2 x2
  have hd : ∀ p ∈ H, p.1 ∉ wr := fun p hp q => by
    have := (F1.hold p hp).1
    rw [W.fresh _ q] at this; cases this
  have F1' : FS s₀ g₀ env H τ g1 m cm { s2 with heap := s1.heap } := by
    obtain ⟨h', tk, rfl, kp⟩ := k2
    exact F1.tok
  have F2 := F2'.more F1' W.fresh fun b hb => by
    cases z : g1.get? b with
    | none => rfl
    | some o' => have := x1.gh _ _ z; rw [W.fresh b hb] at this; cases this
  refine codeAny_forLoop_any (fun n s' => ∃ i τ' g' m' cm', n = ds.length - i ∧ i ≤ ds.length ∧ Inv i τ' ∧ FS s₀ g₀ env (objsAt wr s'.heap ++ H) τ' g' m' cm' s' ∧ St i s'.heap ∧ Sub g1 g') ?_ ds.length ⟨0, τ, g1, m, cm, rfl, Nat.zero_le _, h0, F2, W.start, .rfl⟩
  rintro n s3 ⟨i, τ', g', m', cm', rfl, hi, hI, F3, hst, hg1⟩
  have hlv := W.live i _ hst
  rcases Nat.lt_or_ge i ds.length with hlt | hge
  · refine (W.walks A r.hh).item i s3 _ _ hlt hst fun v h' tk hP hst' hk' => ?_
    have F4 := F3.wrote (tk := tk) hd hlv hk'
    obtain ⟨d, hd1, hr⟩ := W.item i v hP
    refine W.own (i + 1) A _ _ v { s3 with heap := h', toks := tk } _ hst' ?_
    refine asg A _ env s₀ g₀ _ _ _ _ _ _ v d _ r o F4 (hr.sub hg1) (List.mem_of_getElem? hd1) fun m5 cm5 s5 F5 => ?_
    have hst5 : St (i + 1) s5.heap := (W.walks A r.hh).frame _ _ _ hst' fun c hc ob e => by
      rcases W.foot c hc with hw | hg
      · exact (F5.hold (c, ob) (List.mem_append_left _ (mem_objsAt.mpr ⟨hw, e⟩))).1
      · obtain ⟨ob', hg⟩ := Option.isSome_iff_exists.mp hg
        have e1 := F4.st.gh _ _ (hg1 _ _ hg)
        have e1' : h'.get? c = some ob' := e1
        rw [e] at e1'; cases e1'
        exact F5.st.gh _ _ (hg1 _ _ hg)
    have same : ∀ {s6 : Shared} {τ6 g6 m6 cm6}, FS s₀ g₀ env (objsAt wr h' ++ H) τ6 g6 m6 cm6 s6 → Sub g1 g6 → FS s₀ g₀ env (objsAt wr s6.heap ++ H) τ6 g6 m6 cm6 s6 ∧ St (i + 1) s6.heap := by
      intro s6 τ6 g6 m6 cm6 F6 hg6
      have hat : ∀ c ∈ wr, s6.heap.get? c = h'.get? c := by
        intro c hc
        obtain ⟨ob, hob⟩ := Option.isSome_iff_exists.mp (W.live _ _ hst' c hc)
        rw [hob]
        exact (F6.hold (c, ob) (List.mem_append_left _ (mem_objsAt.mpr ⟨hc, hob⟩))).1
      refine ⟨F6.less fun p hp => ?_, (W.walks A r.hh).frame _ _ _ hst' fun c hc ob e => ?_⟩
      · rcases List.mem_append.mp hp with hp | hp
        · obtain ⟨q1, q2⟩ := mem_objsAt.mp hp
          exact List.mem_append_left _ (mem_objsAt.mpr ⟨q1, by rw [← hat _ q1]; exact q2⟩)
        · exact List.mem_append_right _ hp
      · rcases W.foot c hc with hw | hg
        · rw [hat c hw]; exact e
        · obtain ⟨ob', hg⟩ := Option.isSome_iff_exists.mp hg
          have e1 : h'.get? c = some ob' := F4.st.gh _ _ (hg1 _ _ hg)
          rw [e] at e1; cases e1
          exact F6.st.gh _ _ (hg6 _ _ hg)
    have F5b := F5.base
    refine wpAny_mono (turn i τ' d hd1 hI A env s₀ _ (objsAt wr h' ++ H) _ m5 cm5 s5 _ r o (b.trans F5.st.gg) F5b) (fun f s6 x => ?_) fun _ _ y => y
    cases f with
    | next =>
      obtain ⟨τ6, g6, m6, cm6, rr, F6⟩ := x
      obtain ⟨a1, a2⟩ := same (F6.unbase F5.st) (hg1.trans F6.st.gg)
      exact ⟨ds.length - (i + 1), by omega, i + 1, τ6, g6, m6, cm6, rfl, hlt, rr, a1, a2, hg1.trans F6.st.gg⟩
    | cont =>
      obtain ⟨τ6, g6, m6, cm6, rr, F6⟩ := x
      obtain ⟨a1, a2⟩ := same (F6.unbase F5.st) (hg1.trans F6.st.gg)
      exact ⟨ds.length - (i + 1), by omega, i + 1, τ6, g6, m6, cm6, rfl, hlt, rr, a1, a2, hg1.trans F6.st.gg⟩
    | brk =>
      obtain ⟨τ6, g6, m6, cm6, rr, F6⟩ := x
      exact ⟨τ6, g6, m6, cm6, rr, (F6.unbase F5.st).less fun p hp => List.mem_append_right _ hp⟩
    | ret v =>
      obtain ⟨d6, g6, rr, k6, x6, r6⟩ := x
      exact ⟨d6, g6, rr, k6, step_base F5.st x6, r6⟩
  · have hin : i = ds.length := by omega
    subst hin
    refine (W.walks A r.hh).done s3 _ _ hst fun h' tk hk' => ?_
    have F4 := F3.wrote (tk := tk) hd hlv hk'
    exact wpAny_execs_nil ⟨τ', g', m', cm', done τ' hI, F4.less fun p hp => List.mem_append_right _ hp⟩
theorem Ex.for_ {x : Str} {px pos : Pos} {iter : Expr} {body : List Stmt} {ds : List Dat} {R : Out → Prop} (hit : Its X k sc τ iter ds) (Inv : Nat → Sto → Prop) (h0 : Inv 0 τ)
    (turn : ∀ i τ' d, ds[i]? = some d → Inv i τ' → Ex X k sc (upd x (.dat d) τ') (execs body) (Turn (Inv (i + 1)) R)) (done : ∀ τ', Inv ds.length τ' → R (.next τ')) (hx : canStore sc x = true := by rfl) :
    Ex X k sc τ (exec (.For (.Name x px) iter body [] pos)) R :=
  Ex.forG (bd := fun d τ' => upd x (.dat d) τ') hit Inv h0 turn done fun A E env s₀ g₀ H g m cm s τ' v d Q r o F hr _ h => wpAny_assign_Name (wp_store (lv := .dat d) F o.toEnvOk hx (o.cells x) hr trivial h)

theorem Ex.while_ {test : Expr} {body : List Stmt} {pos : Pos} {R : Out → Prop} (Inv : Nat → Sto → Prop) (n : Nat) (h0 : Inv n τ)
    (turn : ∀ n τ', Inv n τ' → ∃ c, EvT X k sc τ' test c ∧ (c = true → Ex X k sc τ' (execs body) (Turn (fun τ => ∃ j, j < n ∧ Inv j τ) R)) ∧ (c = false → R (.next τ'))) :
    Ex X k sc τ (exec (.While test body [] pos)) R := by
  intro A env s₀ g₀ H g m cm s E r o b F
  refine wpAny_While ?_
  refine codeAny_whileLoop (fun n s' => ∃ τ' g' m' cm', Inv n τ' ∧ FS s₀ g₀ env H τ' g' m' cm' s') ?_ n ⟨τ, g, m, cm, h0, F⟩
  rintro n s1 ⟨τ', g', m', cm', hI, F1⟩
  obtain ⟨c, ht, h1, h2⟩ := turn n τ' hI
  refine wp_seq (ht A env g' s1 _ r o.toEnvOk (b.trans F1.st.gg) F1.sto) fun c' s2 ⟨e, k1, g2, x1⟩ => ?_
  subst e
  have F2 := F1.ev k1 x1
  cases c' with
  | false =>
    simp only [Bool.false_eq_true, if_false]
    exact wpAny_execs_nil ⟨τ', g2, m', cm', h2 rfl, F2⟩
  | true =>
    simp only [if_true]
    refine wpAny_mono (h1 rfl A env s₀ g₀ H g2 m' cm' s2 _ r o b F2) (fun f s6 x => ?_) fun _ _ y => y
    cases f with
    | next =>
      obtain ⟨τ6, g6, m6, cm6, ⟨j, hj, hI6⟩, F6⟩ := x
      exact ⟨j, hj, τ6, g6, m6, cm6, hI6, F6⟩
    | cont =>
      obtain ⟨τ6, g6, m6, cm6, ⟨j, hj, hI6⟩, F6⟩ := x
      exact ⟨j, hj, τ6, g6, m6, cm6, hI6, F6⟩
    | brk => exact x
    | ret v => exact x

/-- a list of the frame's own -/
def listP (ds : List Dat) (_ : Addr) (o : Obj) (g : Heap) : Prop := ∃ vs n, o = { cls := .type "list", data := .seq (List.toArray vs) n } ∧ RepAll g vs ds
def LV.list (ds : List Dat) : LV := .obj (listP ds) fun _ _ _ _ k ⟨vs, n, e, r⟩ => ⟨vs, n, e, r.sub k⟩

/-- x = [] -/
theorem Ex.assignNil {x : Str} {px pos pl : Pos} {R : Out → Prop} (hr : R (.next (upd x (LV.list []) τ))) (hx : canStore sc x = true := by rfl)
    (hs : ∀ env, swapsWith (.List [] pl) (some (.Name x px)) pos.line env = pure false := by intro _; rfl) : Ex X k sc τ (exec (.Assign [.Name x px] (.List [] pl) pos)) R := by
  intro A env s₀ g₀ H g m cm s E r o b F
  refine wpAny_Assign_Name (List_ (wpAny_items_nil (wpAny_newObj_type ?_))) (hs env)
  have k1 : Keeps s { s with heap := s.heap.push { cls := .type "list", data := .seq (List.toArray []) } } := kp_mk (Sub.push .rfl _)
  have x1 : Step g s.heap g (s.heap.push { cls := .type "list", data := .seq (List.toArray []) }) := ⟨.rfl, Sub.push .rfl _, F.st.gh.trans (Sub.push .rfl _), fun _ _ e => .inl e⟩
  have none_of : ∀ {h : Heap}, Sub h s.heap → h.get? s.heap.objs.size = none := by
    intro h hs
    cases z : h.get? s.heap.objs.size with
    | none => rfl
    | some o => have := hs _ _ z; rw [fresh_size] at this; cases this
  have ne_of : ∀ {a : Addr} {ob : Obj}, s.heap.get? a = some ob → a ≠ s.heap.objs.size := fun e q => by rw [q, fresh_size] at e; cases e
  refine wp_store (lv := LV.list []) (F.ev k1 x1) o.toEnvOk hx (o.cells x) ?_ ?_ fun m' cm' s'' F' => ⟨_, g, m', cm', hr, F'⟩
  · refine ⟨_, _, rfl, Heap.get?_push_size _ rfl, ⟨[], 0, rfl, .nil⟩, none_of F.st.gh, none_of F.st.hh, ?_, ?_, ?_⟩
    · obtain ⟨ob, _, _, ho, _⟩ := F.call.toInCall.ns
      exact (ne_of ho).symm
    · intro n c hc
      obtain ⟨ob, ho, _⟩ := F.call.cell n c hc
      exact ne_of ho
    · intro p hp
      exact ne_of (F.hold p hp).1
  · intro y P mp hy e hh
    obtain ⟨v, hv, lv⟩ := F.var y _ e
    obtain ⟨a, ob, rfl, ho, _⟩ := lv
    have := hv.fun hh
    cases this
    rw [fresh_size] at ho; cases ho

/-- the object of a name is turned -/
theorem FS.mutate {x : Str} {a : Addr} {P : Addr → Obj → Heap → Prop} {mp} {lv : LV} {P' : Addr → Obj → Heap → Prop} {mp'} {h' : Heap} {tk : Tok} (F : FS s₀ g₀ env H τ g m cm s) (hx : τ.lookup x = some (.obj P mp)) (hh : Holds env m cm x (.ref a))
    (hk : Heap.ExtBut a s.heap h') (ho : ∃ o', h'.get? a = some o' ∧ P' a o' g) : FS s₀ g₀ env H (upd x (.obj P' mp') τ) g m cm { s with heap := h', toks := tk } := by
  obtain ⟨v, hv, ad, o, e, h1, h2, h3, h4, h5, h6, h7⟩ := F.var x _ hx
  subst e
  have := hv.fun hh
  cases this
  have keep0 : Sub s₀.heap h' := fun b ob e => hk b ob (fun q => by rw [q, h4] at e; cases e) (F.call.toInCall.keep b ob e)
  have keepg : Sub g h' := fun b ob e => hk b ob (fun q => by rw [q, h3] at e; cases e) (F.st.gh b ob e)
  refine ⟨⟨⟨?_, ?_, keep0, F.call.toInCall.fresh⟩, fun n c hc => ?_, F.call.apart, F.call.above⟩, ⟨F.st.gg, keep0, keepg, F.st.new⟩, F.gL, F.gC, fun p hp => ?_, fun y l e => ?_, fun y z b P1 m1 Q1 m2 hyz e1 e2 q1 q2 => ?_⟩
  · obtain ⟨h₁, t, e⟩ := F.call.toInCall.same
    subst e
    exact ⟨h', tk, rfl⟩
  · obtain ⟨ob, es, ep, ho, r⟩ := F.call.toInCall.ns
    exact ⟨ob, es, ep, hk _ _ (fun q => h5 q.symm) ho, r⟩
  · obtain ⟨ob, ho, hd⟩ := F.call.cell n c hc
    exact ⟨ob, hk _ _ (h6 n c hc) ho, hd⟩
  · obtain ⟨k1, k2, k3, k4, k5⟩ := F.hold p hp
    exact ⟨hk _ _ (h7 p hp) k1, k2, k3, k4, k5⟩
  · rw [lookup_upd] at e
    by_cases q : y = x
    · rw [if_pos q] at e
      cases e
      subst q
      obtain ⟨o', ho', hp'⟩ := ho
      exact ⟨_, hh, a, o', rfl, ho', hp', h3, h4, h5, h6, h7⟩
    · rw [if_neg q] at e
      obtain ⟨u, hu, lu⟩ := F.var y l e
      refine ⟨u, hu, ?_⟩
      cases l with
      | dat d => exact lu
      | val u => exact lu
      | obj P2 mp2 =>
        obtain ⟨b, ob, rfl, k1, k2, k3⟩ := lu
        exact ⟨b, ob, rfl, hk _ _ (fun w => F.sep y x b P2 mp2 P mp q e hx hu (by rw [w]; exact hh)) k1, k2, k3⟩
  · rw [lookup_upd] at e1 e2
    by_cases qy : y = x
    · subst qy
      have qz : ¬ z = y := fun t => hyz t.symm
      rw [if_neg qz] at e2
      exact F.sep y z b P mp Q1 m2 hyz hx e2 q1 q2
    · rw [if_neg qy] at e1
      by_cases qz : z = x
      · subst qz
        exact F.sep y z b P1 m1 P mp hyz e1 hx q1 q2
      · rw [if_neg qz] at e2
        exact F.sep y z b P1 m1 Q1 m2 hyz e1 e2 q1 q2

/-- an object that is turned no more stands still from here on -/
theorem Ex.freezeObj {x : Str} {P : Addr → Obj → Heap → Prop} {mp} {d : Dat} {t : Env → Sem Flow} {R : Out → Prop} (hx : τ.lookup x = some (.obj P mp)) (hd : ∀ a o g g', P a o g → Sub g g' → g'.get? a = some o → Rep g' (.ref a) d)
    (h : Ex X k sc (upd x (.dat d) τ) t R) : Ex X k sc τ t R := by
  intro A env s₀ g₀ H g m cm s E r o b F
  obtain ⟨v, hv, ad, ob, e, h1, h2, h3, h4, h5, h6, h7⟩ := F.var x _ hx
  subst e
  have sg : Sub g (withObj g s.heap ad) := withObj_sub F.st.gh
  refine h A env s₀ g₀ H (withObj g s.heap ad) m cm s E r o b ⟨F.call, ⟨F.st.gg.trans sg, F.st.hh, withObj_in, fun c oc e => ?_⟩, withObj_other F.gL (fun q => h5 q.symm), fun n c hc => withObj_other (F.gC n c hc) (h6 n c hc), fun p hp => ?_, fun y l e => ?_, fun y z b P1 m1 Q1 m2 hyz e1 e2 q1 q2 => ?_⟩
  · by_cases q : c = ad
    · subst q; exact .inr h4
    · cases z : g.get? c with
      | some o' =>
        have h1 := sg _ _ z
        rw [e] at h1; cases h1
        exact F.st.new c oc z
      | none => rw [withObj_other z q] at e; cases e
  · obtain ⟨k1, k2, k3, k4, k5⟩ := F.hold p hp
    exact ⟨k1, k2, k3, withObj_other k4 (h7 p hp), k5⟩
  · rw [lookup_upd] at e
    by_cases q : y = x
    · rw [if_pos q] at e
      cases e
      subst q
      exact ⟨_, hv, hd ad ob g _ h2 sg (withObj_self h1)⟩
    · rw [if_neg q] at e
      obtain ⟨u, hu, lu⟩ := F.var y l e
      refine ⟨u, hu, ?_⟩
      cases l with
      | dat d => exact Rep.sub sg lu
      | val u => exact lu
      | obj P2 mp2 =>
        obtain ⟨c, oc, rfl, k1, k2, k3, k4⟩ := lu
        exact ⟨c, oc, rfl, k1, mp2 _ _ _ _ sg k2, withObj_other k3 (fun w => F.sep y x c P2 mp2 P mp q e hx hu (by rw [w]; exact hv)), k4⟩
  · rw [lookup_upd] at e1 e2
    by_cases qy : y = x
    · rw [if_pos qy] at e1; cases e1
    · rw [if_neg qy] at e1
      by_cases qz : z = x
      · rw [if_pos qz] at e2; cases e2
      · rw [if_neg qz] at e2
        exact F.sep y z b P1 m1 Q1 m2 hyz e1 e2 q1 q2
theorem Ex.freeze {x : Str} {ds : List Dat} {t : Env → Sem Flow} {R : Out → Prop} (hx : τ.lookup x = some (LV.list ds)) (h : Ex X k sc (upd x (.dat (.list ds)) τ) t R) : Ex X k sc τ t R :=
  Ex.freezeObj hx (fun a o g g' ⟨vs, n, e, r⟩ hs hg => by subst e; exact .list ⟨n, hg⟩ (r.sub hs)) h

theorem holds_name {A : Around} {E : Value → Shared → Prop} {x : Str} {pos : Pos} {v : Value} {Q : Value → Shared → Prop} (F : FS s₀ g₀ env H τ g m cm s) (o : DefEnv env sc) (hh : Holds env m cm x v) (h : Q v s) (hd : (x == ("__debug__" : Str)) = false := by decide) :
    wpAny X.M A (eval (.Name x pos) env) Q E s := by
  rcases hh with ⟨a, b⟩ | ⟨a, b, c⟩
  · exact wpAny_Name (wpAny_loadName_local o.ek a F.call.toInCall.ns b h) hd
  · obtain ⟨ad, hc⟩ := Option.isSome_iff_exists.mp b
    exact wpAny_Name (wpAny_loadName_cell o.ek a hc (c ▸ F.call.cell x ad hc) h) hd

/-- x.append(e) -/
theorem Ex.append {x : Str} {px apos cpos pos : Pos} {e : Expr} {ds : List Dat} {d : Dat} {R : Out → Prop} (hx : τ.lookup x = some (LV.list ds)) (h : Ev X k sc τ e d) (hr : R (.next (upd x (LV.list (ds ++ [d])) τ))) (hz : ds.length ≤ sizeLine)
    (hp : plainE e = true := by rfl) (hline : (apos.endLine == cpos.line) = true := by decide) (hd : (x == ("__debug__" : Str)) = false := by decide)
    (hs : ∀ env, swapsWith (.Call (.Attribute (.Name x px) "append" apos) [e] [] cpos) none pos.line env = pure false := by intro _; rfl) :
    Ex X k sc τ (exec (.Expr (.Call (.Attribute (.Name x px) "append" apos) [e] [] cpos) pos)) R := by
  intro A env s₀ g₀ H g m cm s E r o b F
  obtain ⟨v, hv, ad, ob, ev, h1, ⟨vs, n, eo, rp⟩, h3, h4, h5, h6, h7⟩ := F.var x _ hx
  subst ev; subst eo
  refine wpAny_Expr ?_ o.quiet (hs env)
  refine wpAny_Call_append (by rfl) (by rw [starEach_plain hp]; rfl) hline (by rw [starEach_plain hp]; rfl) (holds_name F o hv ⟨ad, vs.toArray, rfl, ⟨_, n, h1, rfl, rfl, rfl⟩, ?_⟩ hd)
  refine wp_ev (h A env g s E r o.toEnvOk (b.trans F.st.gg) F.sto) fun y g1 s1 k1 x1 p1 => ?_
  have F1 := F.ev k1 x1
  refine wpAny_list_append_plain (items := vs.toArray) ⟨n, x1.hh _ _ h1⟩ (fun h' hl hs' => ?_) (by rw [List.size_toArray, rp.length]; exact hz)
  refine ⟨_, g1, m, cm, hr, F1.mutate (lv := LV.list ds) hx hv hs'.extBut ?_⟩
  obtain ⟨n', hn'⟩ := hl
  exact ⟨_, hn', vs ++ [y], n', by simp, (RepAll.append (.one p1) (rp.sub x1.gg))⟩
end
end Mine

namespace Mine
open PySem PySem.W PyProof.Rows PySem.Calls
set_option Elab.async false
set_option maxRecDepth 100000
set_option linter.unusedVariables false

theorem bindL_off {kindOf : Str → Option NameKind} {n : Str} : ∀ (binds : List (Str × Value)) (m : Str → Option Value), n ∉ binds.map (·.1) → bindL kindOf binds m n = m n
  | [], _, _ => rfl
  | (y, v) :: r, m, h => by
    have h1 : n ≠ y := fun q => h (by simp [q])
    have h2 : n ∉ r.map (·.1) := fun q => h (by simp only [List.map_cons]; exact List.mem_cons_of_mem _ q)
    unfold bindL
    rw [bindL_off r _ h2]
    split
    · simp [h1]
    · rfl
theorem bindC_off {kindOf : Str → Option NameKind} {n : Str} : ∀ (binds : List (Str × Value)) (m : Str → Option Value), n ∉ binds.map (·.1) → bindC kindOf binds m n = m n
  | [], _, _ => rfl
  | (y, v) :: r, m, h => by
    have h1 : n ≠ y := fun q => h (by simp [q])
    have h2 : n ∉ r.map (·.1) := fun q => h (by simp only [List.map_cons]; exact List.mem_cons_of_mem _ q)
    unfold bindC
    rw [bindC_off r _ h2]
    split
    · rfl
    · simp [h1]
theorem bindL_at {kindOf : Str → Option NameKind} {n : Str} {v : Value} (hk : kindOf n = some .local) : ∀ (binds : List (Str × Value)) (m : Str → Option Value), (binds.map (·.1)).Nodup → (n, v) ∈ binds → bindL kindOf binds m n = some v
  | [], _, _, h => by cases h
  | (y, u) :: r, m, nd, h => by
    rw [List.map_cons, List.nodup_cons] at nd
    unfold bindL
    rcases List.mem_cons.mp h with e | h
    · cases e
      rw [bindL_off r _ nd.1, if_pos hk]
      simp
    · exact bindL_at hk r _ nd.2 h
theorem bindC_at {kindOf : Str → Option NameKind} {n : Str} {v : Value} (hk : kindOf n = some .cell) : ∀ (binds : List (Str × Value)) (m : Str → Option Value), (binds.map (·.1)).Nodup → (n, v) ∈ binds → bindC kindOf binds m n = some v
  | [], _, _, h => by cases h
  | (y, u) :: r, m, nd, h => by
    rw [List.map_cons, List.nodup_cons] at nd
    unfold bindC
    rcases List.mem_cons.mp h with e | h
    · cases e
      have : ¬ kindOf n = some .local := by rw [hk]; decide
      rw [bindC_off r _ nd.1, if_neg this]
      simp
    · exact bindC_at hk r _ nd.2 h

/-- a def stands in the module under its name -/
def IsDef (X : Cx) (f : Str) (params : Arguments) (body : List Stmt) (scope : Scope) : Prop :=
  ∃ a o pm code doc, X.mg f = some (.ref a) ∧ X.h0.get? a = some o ∧ o.data = .func (docDef f params body scope pm code doc) ∧ X.h0.CodeRec code f

def FnOut (P : Dat → Prop) : Out → Prop
  | .ret d => P d
  | .next _ => P .none
  | _ => False

def sto0 : List Str → List Dat → Sto
  | p :: ps, d :: ds => (p, .dat d) :: sto0 ps ds
  | _, _ => []
theorem sto0_at {g : Heap} : ∀ {ps : List Str} {ds : List Dat} {vs : List Value}, RepAll g vs ds → ∀ {x : Str} {lv : LV}, (sto0 ps ds).lookup x = some lv → ∃ v d, (x, v) ∈ ps.zip vs ∧ lv = .dat d ∧ Rep g v d
  | [], _, _, _, x, lv, e => by simp [sto0] at e
  | _ :: _, [], _, _, x, lv, e => by simp [sto0] at e
  | p :: ps, d :: ds, _, .cons (v := v) (vs := vs) a r, x, lv, e => by
    unfold sto0 at e
    rw [List.lookup_cons] at e
    by_cases h : x = p
    · subst h
      simp only [beq_self_eq_true] at e
      cases e
      exact ⟨v, d, by simp, rfl, a⟩
    · have : (x == p) = false := by simpa using h
      rw [this] at e
      obtain ⟨v', d', h1, h2, h3⟩ := sto0_at r e
      exact ⟨v', d', by rw [List.zip_cons_cons]; exact List.mem_cons_of_mem _ h1, h2, h3⟩

theorem Fn.intro {X : Cx} {k : Nat} {f : Str} {params : Arguments} {body : List Stmt} {scope : Scope} {ds : List Dat} {P : Dat → Prop} (D : IsDef X f params body scope) (ps : List Str) (hlen : ps.length = ds.length)
    (hbind : ∀ pm code doc (vs : List Value), vs.length = ds.length → bindArgs (docDef f params body scope pm code doc) ⟨vs, []⟩ = pure (ps.zip vs))
    (hnd : ps.Nodup) (hkinds : (ps.all fun y => scope.names.lookup y == some .local || scope.names.lookup y == some .cell) = true)
    (h : Ex X k scope (sto0 ps ds) (execs body) (FnOut P)) (hk : scope.kind = .function := by rfl) (hco : scope.isCoroutine = false := by rfl) (hgen : scope.isGenerator = false := by rfl) :
    Fn X (k + 1) f ds fun g v => ∃ d, P d ∧ Rep g v d := by
  obtain ⟨a, o, pm, code, doc, h1, h2, h3, h4⟩ := D
  refine ⟨a, o, _, h1, h2, h3, ?_⟩
  intro g s vs b0 kk r A E rm
  have hl : vs.length = ds.length := r.length
  have hz : (ps.zip vs).map (·.1) = ps := by
    rw [List.map_fst_zip]; omega
  have hkk : ∀ n, ∀ x ∈ ps.zip vs, scope.names.lookup x.1 = some .local ∨ (scope.names.lookup x.1 = some .cell ∧ ((cellsFrom n scope.names []).lookup x.1).isSome = true) := by
    refine kindsX ?_
    rw [List.all_eq_true]
    intro y hy
    exact List.all_eq_true.mp hkinds y.1 (List.of_mem_zip hy).1
  refine wpAny_call (codeAny_call_cells (a := a) rm.room (kk _ _ (b0 _ _ h2)) h3 (X.hl.keeps (b0.trans kk)) (h4.keeps (b0.trans kk)) rfl (hbind pm code doc vs hl) rfl (hkk _) (fun s₁ C => ?_) hco hgen hk)
  have o : DefEnv (callEnvC (docDef f params body scope pm code doc) s.heap.objs.size a) scope := ⟨rfl, hk, rfl, rfl, fun x hx => cellsFrom_some _ _ _ (.inl hx)⟩
  have none_of : ∀ {b}, s.heap.objs.size ≤ b → g.get? b = none := by
    intro b hb
    cases z : g.get? b with
    | none => rfl
    | some o => exact absurd (Heap.lt_size (kk _ _ z)) (Nat.not_lt.mpr hb)
  have F : FS s g (callEnvC (docDef f params body scope pm code doc) s.heap.objs.size a) [] (sto0 ps ds) g (bindL (callEnvC (docDef f params body scope pm code doc) s.heap.objs.size a).kindOf (ps.zip vs) fun _ => none) (bindC (callEnvC (docDef f params body scope pm code doc) s.heap.objs.size a).kindOf (ps.zip vs) fun _ => none) s₁ := by
    refine ⟨C, ⟨.rfl, C.toInCall.keep, kk.trans C.toInCall.keep, fun _ _ e => .inl e⟩, none_of C.toInCall.fresh, fun n c hc => none_of (Nat.le_of_lt (Nat.lt_of_le_of_lt C.toInCall.fresh (C.above n c (mem_of_lookup hc)))), fun p hp => (nomatch hp), fun x lv e => ?_, fun x y a P mp Q mq _ e1 _ _ => ?_⟩
    · obtain ⟨v, d, hm, rfl, hr⟩ := sto0_at r e
      refine ⟨v, ?_, hr⟩
      rcases hkk (s.heap.objs.size + 1) _ hm with hq | ⟨hq, hq2⟩
      · exact .inl ⟨hq, bindL_at hq _ _ (hz.symm ▸ hnd) hm⟩
      · exact .inr ⟨hq, hq2, bindC_at hq _ _ (hz.symm ▸ hnd) hm⟩
    · obtain ⟨v, d, hm, e', hr⟩ := sto0_at r e1
      cases e'
  refine wpAny_mono (h (A.deeper _) _ s g [] g _ _ s₁ _ (rm.deeper _) o b0 F) (fun fl s' x => ?_) fun _ _ y => y
  cases fl with
  | next =>
    obtain ⟨τ', g', m', cm', rr, F'⟩ := x
    exact ⟨F'.done, g', F'.st, .none, rr, .none⟩
  | brk => obtain ⟨_, _, _, _, rr, _⟩ := x; exact rr.elim
  | cont => obtain ⟨_, _, _, _, rr, _⟩ := x; exact rr.elim
  | ret v =>
    obtain ⟨d, g', rr, k1, x1, r1⟩ := x
    exact ⟨k1, g', x1, d, rr, r1⟩
theorem Fn.mono {X : Cx} {k : Nat} {f : Str} {ds : List Dat} {P P' : Heap → Value → Prop} (h : Fn X k f ds P) (hp : ∀ g v, P g v → P' g v) : Fn X k f ds P' := by
  obtain ⟨a, o, fd, h1, h2, h3, hop⟩ := h
  exact ⟨a, o, fd, h1, h2, h3, fun g s vs b0 kk r A E rm => wpAny_mono (hop g s vs b0 kk r A E rm) (fun _ _ x => x.mono fun g' => hp g' _) fun _ _ y => y⟩
theorem Fn.le {X : Cx} {k j : Nat} {f : Str} {ds : List Dat} {P : Heap → Value → Prop} (h : Fn X k f ds P) (hj : k ≤ j) : Fn X j f ds P := by
  obtain ⟨a, o, fd, h1, h2, h3, hop⟩ := h
  exact ⟨a, o, fd, h1, h2, h3, fun g s vs b0 kk r A E rm => hop g s vs b0 kk r A E (rm.le hj)⟩
/-- a def that yields one datum -/
abbrev FnD (X : Cx) (k : Nat) (f : Str) (ds : List Dat) (d : Dat) : Prop := Fn X k f ds fun g v => Rep g v d
theorem FnD.intro {X : Cx} {k : Nat} {f : Str} {params : Arguments} {body : List Stmt} {scope : Scope} {ds : List Dat} {d : Dat} (D : IsDef X f params body scope) (ps : List Str) (hlen : ps.length = ds.length)
    (hbind : ∀ pm code doc (vs : List Value), vs.length = ds.length → bindArgs (docDef f params body scope pm code doc) ⟨vs, []⟩ = pure (ps.zip vs))
    (hnd : ps.Nodup) (hkinds : (ps.all fun y => scope.names.lookup y == some .local || scope.names.lookup y == some .cell) = true)
    (h : Ex X k scope (sto0 ps ds) (execs body) (FnOut (· = d))) (hk : scope.kind = .function := by rfl) (hco : scope.isCoroutine = false := by rfl) (hgen : scope.isGenerator = false := by rfl) : FnD X (k + 1) f ds d :=
  (Fn.intro D ps hlen hbind hnd hkinds h hk hco hgen).mono fun g v ⟨d', e, r⟩ => e ▸ r
end Mine

namespace Mine
open PySem PySem.W PyProof.Rows PySem.Calls
set_option Elab.async false
set_option maxRecDepth 100000
set_option linter.unusedVariables false

theorem closure_of {env : Env} : ∀ (names : List (Str × NameKind)) (acc : List (Str × Addr)), (∀ y ∈ names, y.2 = .free → (env.cells.lookup y.1).isSome = true) →
    ∃ cl, (forIn names acc fun (x : Str × NameKind) (r : List (Str × Addr)) => (if (x.2 == .free) = true then do let a ← cellOf env x.1; pure (ForInStep.yield ((x.1, a) :: r)) else pure (ForInStep.yield r) : Sem _)) = pure cl ∧
      (∀ n, (n, NameKind.free) ∈ names → cl.lookup n = env.cells.lookup n ∨ ∃ c, env.cells.lookup n = some c ∧ cl.lookup n = some c) ∧ (∀ n, (n, NameKind.free) ∉ names → cl.lookup n = acc.lookup n)
  | [], acc, _ => ⟨acc, rfl, fun _ h => (nomatch h), fun _ _ => rfl⟩
  | (y, kd) :: r, acc, h => by
    by_cases hk : kd = .free
    · subst hk
      obtain ⟨c, hc⟩ := Option.isSome_iff_exists.mp (h (y, .free) (.head _) rfl)
      obtain ⟨cl, h1, h2, h3⟩ := closure_of r ((y, c) :: acc) fun z hz => h z (.tail _ hz)
      refine ⟨cl, ?_, fun n hn => ?_, fun n hn => ?_⟩
      · rw [List.forIn_cons]
        have : cellOf env y = pure c := by unfold cellOf; rw [hc]
        simp only [beq_self_eq_true, if_true, this, pure_bind]
        exact h1
      · by_cases hr : (n, NameKind.free) ∈ r
        · exact h2 n hr
        · rcases List.mem_cons.mp hn with e | e
          · cases e
            refine .inr ⟨c, hc, ?_⟩
            rw [h3 _ hr]; simp
          · exact absurd e hr
      · have hne : ¬ n = y := fun q => hn (q ▸ .head _)
        rw [h3 n fun q => hn (.tail _ q), List.lookup_cons]
        have : (n == y) = false := by simpa using hne
        rw [this]
    · obtain ⟨cl, h1, h2, h3⟩ := closure_of r acc fun z hz => h z (.tail _ hz)
      have hkb : (kd == NameKind.free) = false := by simpa using hk
      refine ⟨cl, ?_, fun n hn => ?_, fun n hn => h3 n fun q => hn (.tail _ q)⟩
      · rw [List.forIn_cons]
        simp only [hkb, Bool.false_eq_true, if_false, pure_bind]
        exact h1
      · rcases List.mem_cons.mp hn with e | e
        · cases e; exact absurd rfl hk
        · exact h2 n e
theorem closureFor_of {env : Env} {scope : Scope} (h : ∀ y ∈ scope.names, y.2 = .free → (env.cells.lookup y.1).isSome = true) : ∃ cl, closureFor scope env = pure cl ∧ ∀ n, (n, NameKind.free) ∈ scope.names → cl.lookup n = env.cells.lookup n := by
  obtain ⟨cl, h1, h2, _⟩ := closure_of (env := env) scope.names [] h
  refine ⟨cl, ?_, fun n hn => ?_⟩
  · unfold closureFor
    show (forIn scope.names [] _ >>= fun r => pure r) = _
    rw [show (forIn scope.names ([] : List (Str × Addr)) fun (x : Str × NameKind) (r : List (Str × Addr)) => (match x with | (name, kind) => do
        if (kind == .free) = true then do let a ← cellOf env name; pure (ForInStep.yield ((name, a) :: r)) else pure (ForInStep.yield r) : Sem _)) = pure cl from h1]
    rfl
  · rcases h2 n hn with e | ⟨c, e1, e2⟩
    · exact e
    · rw [e1, e2]

/-- the scope of a comprehension, as it is read within a def -/
def relab (sc : Scope) (p : Str × NameKind) : Str × NameKind := if (p.2 == .free && sc.names.lookup p.1 == some .cell) = true then (p.1, .cell) else p
def relabelS (scope sc : Scope) : Scope := { scope with names := scope.names.map (relab sc) }
theorem relabel_eq {env : Env} {scope sc : Scope} (o : EnvOk env sc) : relabel scope env = relabelS scope sc := by
  unfold relabel relabelS
  have e : env.kindOf = fun n => sc.names.lookup n := by funext n; exact o.kindOf rfl
  have e2 : (fun (x : Str × NameKind) => match x with | (n, k) => if (k == .free && env.scope.kind == .function && env.kindOf n == some .cell) = true then (n, NameKind.cell) else (n, k)) = relab sc := by
    funext x
    obtain ⟨n, k⟩ := x
    unfold relab
    rw [o.ek, e]
    simp
  rw [e2]
theorem lookup_relabelS {sc : Scope} {y : Str} {kd : NameKind} : ∀ {names : List (Str × NameKind)}, names.lookup y = some kd → (names.map (relab sc)).lookup y = some (if (kd == .free && sc.names.lookup y == some .cell) = true then .cell else kd)
  | [], h => by simp at h
  | (n, k) :: r, h => by
    have e1 : (relab sc (n, k)).1 = n := by unfold relab; split <;> rfl
    rw [List.map_cons]
    cases hr : relab sc (n, k) with | mk a b =>
    rw [hr] at e1
    have e1' : a = n := e1
    subst e1'
    rw [List.lookup_cons] at h ⊢
    cases hx : y == a with
    | true =>
      rw [hx] at h
      dsimp only at h ⊢
      cases h
      have := beq_iff_eq.mp hx
      subst this
      unfold relab at hr
      dsimp only at hr
      split at hr
      · rename_i q; rw [if_pos q]; cases hr; rfl
      · rename_i q; rw [if_neg q]; cases hr; rfl
    | false =>
      rw [hx] at h
      exact lookup_relabelS (sc := sc) (names := r) h

/-- a comprehension's tests -/
def Tests (X : Cx) (k : Nat) (sc : Scope) (σ : Sto) (ifs : List Expr) (b : Bool) : Prop := (ifs = [] ∧ b = true) ∨ ∃ c, ifs = [c] ∧ EvT X k sc σ c b

/-- what stands around a comprehension, as it is read within -/
structure Caps (sc scope : Scope) (τ cap : Sto) : Prop where
  sub : ∀ y d, cap.lookup y = some (.dat d) → τ.lookup y = some (.dat d) ∧ (y, NameKind.free) ∈ scope.names ∧ scope.names.lookup y = some .free ∧ sc.names.lookup y = some .cell
  noval : ∀ y u, cap.lookup y ≠ some (.val u)
  obj : ∀ y P mp, cap.lookup y = some (.obj P mp) → τ.lookup y = some (.obj P mp) ∧ (y, NameKind.free) ∈ scope.names ∧ scope.names.lookup y = some .free ∧ sc.names.lookup y = some .cell
structure CompOk (sc scope : Scope) : Prop where
  kind : scope.kind = .function
  nocell : ∀ y ∈ scope.names, y.2 ≠ .cell
  free : ∀ y ∈ scope.names, y.2 = .free → sc.names.lookup y.1 = some .cell
  names : ∀ y ∈ scope.names, y.2 = .local → scope.names.lookup y.1 = some .local
  frees : ∀ y ∈ scope.names, y.2 = .free → scope.names.lookup y.1 = some .free

section
variable {X : Cx} {k : Nat} {sc scope : Scope} {τ cap : Sto}

theorem compEnv_ok {env : Env} {cl : List (Str × Addr)} {C : Addr} (o : EnvOk env sc) (c : CompOk sc scope) (hcl : ∀ n, (n, NameKind.free) ∈ scope.names → cl.lookup n = env.cells.lookup n) : EnvOk (compEnvC scope cl C env) (relabelS scope sc) where
  scope := relabel_eq o
  kind := c.kind
  glob := o.glob
  bi := o.bi
  cells := fun x hx => by
    have : ∃ kd, (x, kd) ∈ scope.names ∧ (kd = .cell ∨ (kd = .free)) := by
      have hm := mem_of_lookup hx
      obtain ⟨⟨n, kd⟩, h1, h2⟩ := List.mem_map.mp hm
      unfold relab at h2
      dsimp only at h2
      split at h2
      · rename_i hq
        cases h2
        exact ⟨kd, h1, .inr (by simpa using (Bool.and_eq_true_iff.mp hq).1)⟩
      · cases h2
        exact ⟨_, h1, .inl rfl⟩
    obtain ⟨kd, h1, h2⟩ := this
    rcases h2 with rfl | rfl
    · exact absurd rfl (c.nocell _ h1)
    · show (cl.lookup x).isSome = true
      rw [hcl x h1]
      exact o.cells x (c.free _ h1 rfl)

/-- the turns of a comprehension; bd tells what its names hold of an item -/
structure EltsG (X : Cx) (k : Nat) (sc scope : Scope) (cap : Sto) (bd : Dat → Sto) (ifs : List Expr) (elt : Expr) (ds : List Dat) (fz : List (Option Dat)) : Prop where
  len : fz.length = ds.length
  some_ : ∀ (i : Nat) (d y : Dat), ds[i]? = some d → fz[i]? = some (some y) → Tests X k (relabelS scope sc) (bd d ++ cap) ifs true ∧ Ev X k (relabelS scope sc) (bd d ++ cap) elt y
  none_ : ∀ (i : Nat) (d : Dat), ds[i]? = some d → fz[i]? = some (none : Option Dat) → Tests X k (relabelS scope sc) (bd d ++ cap) ifs false
abbrev Elts (X : Cx) (k : Nat) (sc scope : Scope) (cap : Sto) (x : Str) (ifs : List Expr) (elt : Expr) (ds : List Dat) (fz : List (Option Dat)) : Prop := EltsG X k sc scope cap (fun d => [(x, .dat d)]) ifs elt ds fz

/-- the binding of a comprehension's names -/
def AsgOk (X : Cx) (k : Nat) (sc scope : Scope) (τ cap : Sto) (tg : Expr) (bd : Dat → Sto) (ds : List Dat) : Prop :=
  ∀ (A : Around) (E : Value → Shared → Prop) (env : Env) (cl : List (Str × Addr)) (C : Addr) (g g' : Heap) (s s' : Shared) (v : Value) (d : Dat) (m : Str → Option Value) (Q : Unit → Shared → Prop), Room A k → EnvOk env sc → CompOk sc scope → Caps sc scope τ cap →
    (∀ n, (n, NameKind.free) ∈ scope.names → cl.lookup n = env.cells.lookup n) → StoIn τ env g s → Step g s.heap g' s'.heap → s'.heap.Ns C m → g'.get? C = none → s.heap.get? C = none → Rep g' v d → d ∈ ds →
    (∀ m2 h2 tk, (∀ b o, b ≠ C → s'.heap.get? b = some o → h2.get? b = some o) → h2.Ns C m2 → StoIn (bd d ++ cap) (compEnvC scope cl C env) g' { s' with heap := h2, toks := tk } → Q () { s' with heap := h2, toks := tk }) →
    wpAny X.M A (PySem.assign tg (compEnvC scope cl C env) v) Q E s'
theorem comp_stoG {env : Env} {cl : List (Str × Addr)} {C : Addr} {g g' : Heap} {s s' : Shared} {bs : Sto} {m : Str → Option Value} (o : EnvOk env sc) (c : CompOk sc scope) (cp : Caps sc scope τ cap) (hcl : ∀ n, (n, NameKind.free) ∈ scope.names → cl.lookup n = env.cells.lookup n)
    (hb : ∀ y lv, bs.lookup y = some lv → ∃ v d, lv = .dat d ∧ scope.names.lookup y = some .local ∧ m y = some v ∧ Rep g' v d) (q : StoIn τ env g s) (t : Step g s.heap g' s'.heap) (ns : s'.heap.Ns C m) : StoIn (bs ++ cap) (compEnvC scope cl C env) g' s' where
  sub := t.gh
  var := fun y e he => by
    rw [List.lookup_append] at he
    cases hy : bs.lookup y with
    | some lv =>
      rw [hy] at he
      obtain ⟨v, d, e1, e2, e3, e4⟩ := hb y lv hy
      subst e1
      simp at he
      subst he
      refine ⟨v, .inl ⟨?_, m, ns, e3⟩, e4⟩
      show (relabel scope env).names.lookup y = _
      rw [relabel_eq o]
      exact (lookup_relabelS (sc := sc) e2).trans (by rfl)
    | none =>
      rw [hy] at he
      simp at he
      obtain ⟨h1, h2, h3, h4⟩ := cp.sub y e he
      obtain ⟨u, hu, hr⟩ := q.var y e h1
      refine ⟨u, .inr ?_, hr.sub t.gg⟩
      rcases hu with ⟨a, _⟩ | ⟨a, ad, hc, hcell⟩
      · rw [o.kindOf h4] at a; cases a
      · refine ⟨.inl ?_, ad, ?_, hcell.keeps t.hh⟩
        · show (relabel scope env).names.lookup y = _
          rw [relabel_eq o]
          refine (lookup_relabelS (sc := sc) h3).trans ?_
          rw [h4]; rfl
        · show cl.lookup y = some ad
          rw [hcl y h2]; exact hc
  val := fun y u he => by
    rw [List.lookup_append] at he
    cases hy : bs.lookup y with
    | some lv =>
      rw [hy] at he
      obtain ⟨v, d, e1, _⟩ := hb y lv hy
      subst e1
      simp at he
    | none =>
      rw [hy] at he
      simp at he
      exact absurd he (cp.noval y u)
  obj := fun y P mp he => by
    rw [List.lookup_append] at he
    cases hy : bs.lookup y with
    | some lv =>
      rw [hy] at he
      obtain ⟨v, d, e1, _⟩ := hb y lv hy
      subst e1
      simp at he
    | none =>
      rw [hy] at he
      simp at he
      obtain ⟨h1, h2, h3, h4⟩ := cp.obj y P mp he
      obtain ⟨oa, ob, hu, ho, hp⟩ := q.obj y P mp h1
      refine ⟨oa, ob, .inr ?_, t.hh _ _ ho, mp _ _ _ _ t.gg hp⟩
      rcases hu with ⟨a, _⟩ | ⟨a, ad, hc, hcell⟩
      · rw [o.kindOf h4] at a; cases a
      · refine ⟨.inl ?_, ad, ?_, hcell.keeps t.hh⟩
        · show (relabel scope env).names.lookup y = _
          rw [relabel_eq o]
          refine (lookup_relabelS (sc := sc) h3).trans ?_
          rw [h4]; rfl
        · show cl.lookup y = some ad
          rw [hcl y h2]; exact hc

theorem asg_name {x : Str} {px : Pos} {ds : List Dat} (hx : scope.names.lookup x = some .local) : AsgOk X k sc scope τ cap (.Name x px) (fun d => [(x, .dat d)]) ds := by
  intro A E env cl C g g' s s' v d m Q r o c cp hcl q t ns gC sC hv hd h
  have oc : EnvOk (compEnvC scope cl C env) (relabelS scope sc) := compEnv_ok o c hcl
  refine wpAny_assign_Name (wpAny_storeName_local (m := m) (oc.kindOf ((lookup_relabelS (sc := sc) hx).trans (by rfl))) ns (fun h₂ hn₂ hs₂ => ?_) oc.plain)
  have up2 : ∀ b ob, b ≠ C → s'.heap.get? b = some ob → h₂.get? b = some ob := fun b ob hb e => hs₂.extBut b ob hb e
  have x3 : Step g s.heap g' h₂ := ⟨t.gg, fun b ob e => up2 b ob (fun z => by rw [z, sC] at e; cases e) (t.hh _ _ e), fun b ob e => up2 b ob (fun z => by rw [z, gC] at e; cases e) (t.gh _ _ e), t.new⟩
  refine h _ h₂ _ up2 hn₂ (comp_stoG (s' := { s' with heap := h₂, toks := s'.toks + 1 }) (m := fun y => if y = x then some v else m y) o c cp hcl (fun y lv hy => ?_) q x3 hn₂)
  rw [List.lookup_cons] at hy
  by_cases e : y = x
  · subst e
    simp at hy
    exact ⟨v, d, hy.symm, hx, by simp, hv⟩
  · have : (y == x) = false := by simpa using e
    rw [this] at hy
    simp at hy
/-- a comprehension's loop, whatever its target -/
theorem compLoop_any {prog : Program} {w : World} {A : Around} {R : Result → Shared → Prop} {s : Shared} {elt target iter : Expr} {ifs : List Expr} {scope : Scope} {pos : Pos} {it acc : Value} {env : Env} (I : Nat → Shared → Prop)
    (turn : ∀ n s, I n s → wpAny (model prog w) A (pyNext it) (fun r s₁ => match r with
      | none => R (.ok .next) s₁
      | some v => wpAny (model prog w) A (letOwnedTupleGo target it v) (fun _ s₁' => wpAny (model prog w) A (PySem.assign target env v) (fun _ s₂ =>
          wpAny (model prog w) A (forIn ifs true fun c r => if r = true then do let ok ← isTrue c env (eval c env); pure (ForInStep.yield ok) else pure (ForInStep.yield r)) (fun ok s₃ =>
            if ok = true then wpAny (model prog w) A (eval elt env) (fun x s₄ =>
              wpAny (model prog w) A (call (.builtin "list.append") [acc, x]) (fun _ s₅ => ∃ m, m < n ∧ I m s₅) (notedBy (model prog w) A env fun e s' => R (.error e) s') s₄) (notedBy (model prog w) A env fun e s' => R (.error e) s') s₃
            else ∃ m, m < n ∧ I m s₃) (notedBy (model prog w) A env fun e s' => R (.error e) s') s₂) (notedBy (model prog w) A env fun e s' => R (.error e) s') s₁') (notedBy (model prog w) A env fun e s' => R (.error e) s') s₁) (notedBy (model prog w) A env fun e s' => R (.error e) s') s)
    (n : Nat) (h : I n s) : codeAny (model prog w) A (.compLoop (.ListComp elt [⟨target, iter, ifs, 0⟩] scope pos) 0 it acc env) R s := by
  refine codeAny_loop rfl I (fun n s hI => ?_) n h
  show wpAny _ A ((compTurn (.ListComp elt [⟨target, iter, ifs, 0⟩] scope pos) 0 it acc env).onRaise (fun x => do noteFrame x env; theTreesLotGoes x)) _ _ s
  refine wpAny_noted ?_
  rw [compTurn_list]
  refine wpAny_bind (wpAny_standAt (wpAny_bind (wpAny_mono (turn n s hI) (fun r s₁ h₁ => ?_) fun _ _ h' => h')))
  cases r with
  | none => exact wpAny_pure h₁
  | some v =>
    refine wpAny_bind (wpAny_mono h₁ (fun _ s₁' h₁' => ?_) fun _ _ h' => h')
    refine wpAny_bind (wpAny_mono h₁' (fun _ s₂ h₂ => wpAny_bind (wpAny_mono h₂ (fun ok s₃ h₃ => ?_) fun _ _ h' => h')) fun _ _ h' => h')
    cases ok with
    | false => exact wpAny_pure ⟨rfl, h₃⟩
    | true => exact wpAny_bind (wpAny_bind (wpAny_mono h₃ (fun x s₄ h₄ => wpAny_bind (wpAny_mono h₄ (fun _ s₅ h₅ => wpAny_pure (wpAny_pure ⟨rfl, h₅⟩)) fun _ _ h' => h')) fun _ _ h' => h'))

theorem wp_tests {A : Around} {env : Env} {g : Heap} {s : Shared} {E : Value → Shared → Prop} {σ : Sto} {ifs : List Expr} {b : Bool} (h : Tests X k sc σ ifs b) (r : Room A k) (o : EnvOk env sc) (bs : Sub X.h0 g) (q : StoIn σ env g s) :
    wpAny X.M A (forIn ifs true fun c r => if r = true then do let ok ← isTrue c env (eval c env); pure (ForInStep.yield ok) else pure (ForInStep.yield r)) (fun c s' => c = b ∧ Keeps s s' ∧ ∃ g', Step g s.heap g' s'.heap) E s := by
  rcases h with ⟨rfl, rfl⟩ | ⟨c, rfl, h⟩
  · exact wpAny_tests_nil ⟨rfl, kp_refl, g, .rfl q.sub⟩
  · exact wpAny_tests_one (h A env g s E r o bs q)

theorem comp_core {A : Around} {env : Env} {g1 : Heap} {s1 : Shared} {E : Value → Shared → Prop} {tg : Expr} {bd : Dat → Sto} {pos : Pos} {elt iter : Expr} {ifs : List Expr} {cl : List (Str × Addr)} {xv : Value} {ds : List Dat} {fz : List (Option Dat)} {RR : Value → Addr → Result → Shared → Prop}
    (r : Room A k) (o : EnvOk env sc) (c : CompOk sc scope) (cp : Caps sc scope τ cap) (hcl : ∀ n, (n, NameKind.free) ∈ scope.names → cl.lookup n = env.cells.lookup n) (asg : AsgOk X k sc scope τ cap tg bd ds)
    (bs : Sub X.h0 g1) (q : StoIn τ env g1 s1) (hit : IterOf X k g1 s1 xv ds) (el : EltsG X k sc scope cap bd ifs elt ds fz) (hz : ds.length ≤ sizeLine)
    (hRR : ∀ D C s' g' m' ws n, Keeps s1 s' → Step g1 s1.heap g' s'.heap → s1.heap.get? D = none → s1.heap.get? C = none → D ≠ C → s'.heap.Ns C m' → s'.heap.get? D = some { cls := .type "list", data := .seq (List.toArray ws) n } → RepAll g' ws (fz.filterMap id) →
      g'.get? D = none → g'.get? C = none → RR (.ref D) C (.ok .next) s') :
    wpAny X.M A (pyIter xv) (fun it s₂ => wpAny X.M A (newList []) (fun acc s₃ => wpAny X.M A (newFunctionEnv scope env.globals cl [] env.qual none .none (some env)) (fun cenv s₄ =>
      codeAny X.M A (.compStart (.ListComp elt [⟨tg, iter, ifs, 0⟩] scope pos) 0 it acc { cenv with scope := relabel scope env }) (RR acc cenv.locals) s₄) E s₃) E s₂) E s1 := by
  refine wpAny_mono (hit A E r) (fun it s2 ⟨k2, I, fp, wr, P, St, e, W⟩ => ?_) fun _ _ y => y
  subst e
  have sub12 := kp_sub k2
  refine wpAny_newObj_type (wpAny_newFunctionEnv c.nocell (by intro y hy; simp at hy) (fun h₁ hns₁ hsb₁ => ?_) c.kind)
  dsimp only at hns₁ hsb₁ ⊢
  generalize hH2 : s2.heap.push { cls := .type "list", dict := none, data := .seq ([] : List Value).toArray } = H2 at hns₁ hsb₁ ⊢
  have hC : H2.objs.size = s2.heap.objs.size + 1 := by rw [← hH2, Heap.size_push]
  generalize hD' : s2.heap.objs.size = D at *
  generalize hC' : H2.objs.size = C at *
  have hDC : D ≠ C := by omega
  have below : ∀ b, b < D → b ≠ C ∧ b ≠ D := fun b hb => ⟨by rw [hC]; exact Nat.ne_of_lt (Nat.lt_succ_of_lt hb), Nat.ne_of_lt hb⟩
  have hDf : D ∉ fp := fun hm => Nat.lt_irrefl _ (hD' ▸ W.low _ hm)
  have hCf : C ∉ fp := fun hm => by have := W.low _ hm; rw [hD', hC] at this; exact Nat.lt_irrefl _ (Nat.lt_of_succ_lt this)
  have old : Sub s2.heap h₁ := fun b ob e => hsb₁.extBut b ob (below b (hD' ▸ Heap.lt_size e)).1 (Heap.get?_push_of_some _ (hH2 ▸ Heap.get?_push_of_some _ e))
  have hacc : h₁.get? D = some { cls := .type "list", data := .seq (List.toArray []) 0 } := hsb₁.extBut _ _ hDC (Heap.get?_push_of_some _ (hH2 ▸ hD' ▸ Heap.get?_push_size _ rfl))
  have fresh2 : ∀ a, D ≤ a → s2.heap.get? a = none := fun a ha => by
    cases e : s2.heap.get? a with
    | none => rfl
    | some o' => exact absurd (Heap.lt_size e) (Nat.not_lt.mpr (hD' ▸ ha))
  have fresh1 : ∀ a, D ≤ a → s1.heap.get? a = none := fun a ha => by
    cases e : s1.heap.get? a with
    | none => rfl
    | some o' => have := sub12 _ _ e; rw [fresh2 a ha] at this; cases this
  have hst₁ : St 0 h₁ := (W.walks A r.hh).frame _ _ _ W.start fun b _ ob e => old b ob e
  have oc : EnvOk (compEnvC scope cl C env) (relabelS scope sc) := compEnv_ok o c hcl
  have none1 : ∀ {g' : Heap}, (∀ b ob, g'.get? b = some ob → g1.get? b = some ob ∨ s1.heap.get? b = none) → True := fun _ => trivial
  have g1none : ∀ a, s1.heap.get? a = none → g1.get? a = none := fun a ha => by
    cases e : g1.get? a with
    | none => rfl
    | some o' => have := q.sub _ _ e; rw [ha] at this; cases this
  obtain ⟨h2', t2, e2, kp2⟩ := k2
  have loop : ∀ s₃ : Shared, (∃ tk, s₃ = { s2 with heap := h₁, toks := tk }) →
      codeAny X.M A (.compLoop (.ListComp elt [⟨tg, iter, ifs, 0⟩] scope pos) 0 (.ref I) (.ref D) (compEnvC scope cl C env)) (RR (.ref D) C) s₃ := by
    rintro s₃ ⟨tk₃, rfl⟩
    refine compLoop_any (fun n s' => ∃ i ws ep g' m', n = ds.length - i ∧ i ≤ ds.length ∧ ws.length ≤ i ∧ Keeps s1 s' ∧ Step g1 s1.heap g' s'.heap ∧ s'.heap.Ns C m' ∧ s'.heap.get? D = some { cls := .type "list", data := .seq (List.toArray ws) ep } ∧
      RepAll g' ws ((fz.take i).filterMap id) ∧ g'.get? D = none ∧ g'.get? C = none ∧ (∀ b ∈ wr, g'.get? b = none) ∧ St i s'.heap) ?_ ds.length
      ⟨0, [], 0, g1, _, rfl, Nat.zero_le _, Nat.le_refl _, ?_, ⟨.rfl, sub12.trans old, q.sub.trans (sub12.trans old), fun _ _ e => .inl e⟩, hns₁, hacc, .nil, g1none D (fresh1 D (Nat.le_refl _)), g1none C (fresh1 C (by omega)), fun b hb => g1none b (W.fresh b hb), hst₁⟩
    · rintro n s' ⟨i, ws, ep, g', m', rfl, hi, hwl, ks, x1, ns, hD1, hr, gD, gC, gw, hst⟩
      have hCw : C ∉ wr := fun h => hCf ((W.walks A r.hh).sub _ h)
      have hDw : D ∉ wr := fun h => hDf ((W.walks A r.hh).sub _ h)
      rcases Nat.lt_or_ge i ds.length with hlt | hge
      · refine (W.walks A r.hh).item i s' _ _ hlt hst fun v h' tk hP hst' hk' => ?_
        obtain ⟨d, hd1, hrv⟩ := W.item i v hP
        have x2 : Step g1 s1.heap g' h' := ⟨x1.gg, fun b ob e => hk' b ob (fun z => by rw [W.fresh b z] at e; cases e) (x1.hh _ _ e), fun b ob e => hk' b ob (fun z => by rw [gw b z] at e; cases e) (x1.gh _ _ e), x1.new⟩
        refine W.own (i + 1) A _ tg v { s' with heap := h', toks := tk } _ hst' ?_
        have C1 : s1.heap.get? C = none := fresh1 C (by omega)
        refine asg A _ env cl C g1 g' s1 { s' with heap := h', toks := tk } v d m' _ r o c cp hcl q x2 (ns.at' fun ob e => hk' _ ob hCw e) gC C1 (hrv.sub x1.gg) (List.mem_of_getElem? hd1) fun m₂ h₂ tk₂ up2 hn₂ q3 => ?_
        have x3 : Step g1 s1.heap g' h₂ := ⟨x2.gg, fun b ob e => up2 b ob (fun z => by rw [z, C1] at e; cases e) (x2.hh _ _ e), fun b ob e => up2 b ob (fun z => by rw [z, gC] at e; cases e) (x2.gh _ _ e), x2.new⟩
        have ks3 : Keeps s1 { s' with heap := h₂, toks := tk₂ } := by
          obtain ⟨ha, ta, rfl, _⟩ := ks
          exact ⟨h₂, _, rfl, x3.hh⟩
        have hst₂ : St (i + 1) h₂ := (W.walks A r.hh).frame _ _ _ hst' fun b hb ob e => up2 b ob (fun z => hCf (z ▸ hb)) e
        have hD2 : h₂.get? D = some { cls := .type "list", data := .seq (List.toArray ws) ep } := up2 _ _ hDC (hk' _ _ hDw hD1)
        have hfi : i < fz.length := by rw [el.len]; exact hlt
        cases hfz : fz[i]? with
        | none => rw [List.getElem?_eq_none_iff] at hfz; omega
        | some f =>
          have htake : (fz.take (i + 1)).filterMap id = (fz.take i).filterMap id ++ f.toList := by
            rw [List.take_add_one, hfz, List.filterMap_append]
            cases f <;> simp
          cases f with
          | none =>
            refine wp_seq (wp_tests (el.none_ i d hd1 hfz) r oc (bs.trans x1.gg) q3) fun ok s4 ⟨e, k4, g4, x4⟩ => ?_
            subst e
            simp only [Bool.false_eq_true, if_false]
            refine ⟨ds.length - (i + 1), by omega, i + 1, ws, ep, g4, _, rfl, hlt, by omega, kp_trans ks3 k4, x3.trans x4, hn₂.keeps (kp_sub k4), kp_sub k4 _ _ hD2, ?_, x4.out gD (by rw [hD2]; rfl), x4.out gC ?_, fun b hb => x4.out (gw b hb) ?_, ?_⟩
            · rw [htake]; simpa using hr.sub x4.gg
            · obtain ⟨ob, _, _, ho, _⟩ := hn₂; have ho' : h₂.get? C = some ob := ho; show (h₂.get? C).isSome = true; rw [ho']; rfl
            · exact W.live _ _ hst₂ b hb
            · exact (W.walks A r.hh).frame _ _ _ hst₂ fun b _ ob e => kp_sub k4 _ _ e
          | some y =>
            obtain ⟨t1, t2⟩ := el.some_ i d y hd1 hfz
            refine wp_seq (wp_tests t1 r oc (bs.trans x1.gg) q3) fun ok s4 ⟨e, k4, g4, x4⟩ => ?_
            subst e
            simp only [if_true]
            refine wp_ev (t2 A _ g4 s4 _ r oc ((bs.trans x1.gg).trans x4.gg) (q3.step x4)) fun u g5 s5 k5 x5 r5 => ?_
            have x45 := x4.trans x5
            have hD5 : s5.heap.get? D = some { cls := .type "list", data := .seq (List.toArray ws) ep } := x45.hh _ _ hD2
            refine wpAny_list_append_plain (items := ws.toArray) ⟨ep, hD5⟩ (fun h₆ hl₆ hs₆ => ?_) (by rw [List.size_toArray]; omega)
            have up6 : ∀ b ob, b ≠ D → s5.heap.get? b = some ob → h₆.get? b = some ob := fun b ob hb e => hs₆.extBut b ob hb e
            have gD5 : g5.get? D = none := x45.out gD (by rw [hD2]; rfl)
            have D1 : s1.heap.get? D = none := fresh1 D (Nat.le_refl _)
            have x6 : Step g1 s1.heap g5 h₆ := ⟨(x3.trans x45).gg, fun b ob e => up6 b ob (fun z => by rw [z, D1] at e; cases e) ((x3.trans x45).hh _ _ e), fun b ob e => up6 b ob (fun z => by rw [z, gD5] at e; cases e) (x45.gh _ _ e), (x3.trans x45).new⟩
            obtain ⟨ep', hl₆'⟩ := hl₆
            refine ⟨ds.length - (i + 1), by omega, i + 1, ws ++ [u], ep', g5, _, rfl, hlt, by rw [List.length_append, List.length_singleton]; omega, ?_, x6, ((hn₂.keeps (kp_sub k4)).keeps (kp_sub k5)).at' fun ob e => up6 _ _ (Ne.symm hDC) e, by simpa using hl₆', ?_, gD5, x45.out gC ?_, fun b hb => x45.out (gw b hb) ?_, ?_⟩
            · obtain ⟨ha, ta, e5, _⟩ := kp_trans ks3 (kp_trans k4 k5)
              exact ⟨h₆, ta, by rw [e5], x6.hh⟩
            · rw [htake]
              exact (RepAll.one r5).append (hr.sub x45.gg)
            · obtain ⟨ob, _, _, ho, _⟩ := hn₂; have ho' : h₂.get? C = some ob := ho; show (h₂.get? C).isSome = true; rw [ho']; rfl
            · exact W.live _ _ hst₂ b hb
            · exact (W.walks A r.hh).frame _ _ _ hst₂ fun b hb ob e => up6 b ob (fun z => hDf (z ▸ hb)) (x45.hh _ _ e)
      · have hin : i = ds.length := by omega
        subst hin
        refine (W.walks A r.hh).done s' _ _ hst fun h' tk hk' => ?_
        have hfull : (fz.take ds.length).filterMap id = fz.filterMap id := by rw [← el.len, List.take_length]
        rw [hfull] at hr
        refine hRR D C _ g' m' ws ep ?_ ⟨x1.gg, fun b ob e => hk' b ob (fun z => by rw [W.fresh b z] at e; cases e) (x1.hh _ _ e), fun b ob e => hk' b ob (fun z => by rw [gw b z] at e; cases e) (x1.gh _ _ e), x1.new⟩ (fresh1 D (Nat.le_refl _)) (fresh1 C (by omega)) hDC (ns.at' fun ob e => hk' _ ob hCw e) (hk' _ _ hDw hD1) hr gD gC
        obtain ⟨ha, ta, rfl, _⟩ := ks
        exact ⟨h', tk, rfl, fun b ob e => hk' b ob (fun z => by rw [W.fresh b z] at e; cases e) (x1.hh _ _ e)⟩
    · subst e2
      exact ⟨h₁, tk₃, rfl, fun b ob e => old _ _ (kp2 b ob e)⟩
  exact codeAny_compStart_list (loop _ ⟨_, rfl⟩) ((W.walks A r.hh).self 0 _ _ _ hst₁ (loop _ ⟨_, rfl⟩))
end
end Mine

namespace Mine
open PySem PySem.W PyProof.Rows PySem.Calls
set_option Elab.async false
set_option maxRecDepth 100000
set_option linter.unusedVariables false
section
variable {X : Cx} {k : Nat} {sc scope : Scope} {τ cap : Sto}

theorem closure_ok {env : Env} (o : EnvOk env sc) (c : CompOk sc scope) : ∃ cl, closureFor scope env = pure cl ∧ ∀ n, (n, NameKind.free) ∈ scope.names → cl.lookup n = env.cells.lookup n :=
  closureFor_of fun y hy hf => o.cells _ (c.free y hy hf)

theorem plain_rep {g h : Heap} {D : Addr} {ws : List Value} {ds : List Dat} {n : Nat} (e : h.get? D = some { cls := .type "list", data := .seq (List.toArray ws) n }) (r : RepAll g ws ds) (k : Sub g h) : Rep (withObj g h D) (.ref D) (.list ds) :=
  .list ⟨n, withObj_self e⟩ (r.sub (withObj_sub k))
theorem step_with {g1 h1 g h : Heap} {D : Addr} (x : Step g1 h1 g h) (d : h1.get? D = none) : Step g1 h1 (withObj g h D) h :=
  ⟨x.gg.trans (withObj_sub x.gh), x.hh, withObj_in, fun b o e => by
    by_cases q : b = D
    · subst q; exact .inr d
    · cases z : g.get? b with
      | some o' =>
        have h1 := withObj_sub (a := D) x.gh _ _ z
        rw [e] at h1; cases h1
        exact x.new b o z
      | none => rw [withObj_other z q] at e; cases e⟩
theorem step_but {g1 h1 g h h' : Heap} {C : Addr} (x : Step g1 h1 g h) (c : h1.get? C = none) (gc : g.get? C = none) (s : Heap.SameBut C h h') : Step g1 h1 g h' :=
  ⟨x.gg, fun b o e => s.extBut b o (fun z => by rw [z, c] at e; cases e) (x.hh b o e), fun b o e => s.extBut b o (fun z => by rw [z, gc] at e; cases e) (x.gh b o e), x.new⟩

theorem Ev.compG {tg : Expr} {bd : Dat → Sto} {pos : Pos} {elt iter : Expr} {ifs : List Expr} {ds : List Dat} {fz : List (Option Dat)} (hit : Its X k sc τ iter ds) (cap : Sto) (c : CompOk sc scope) (cp : Caps sc scope τ cap) (asg : AsgOk X k sc scope τ cap tg bd ds)
    (el : EltsG X k sc scope cap bd ifs elt ds fz) (hz : ds.length ≤ sizeLine) : Ev X k sc τ (.ListComp elt [⟨tg, iter, ifs, 0⟩] scope pos) (.list (fz.filterMap id)) := by
  intro A env g s E r o b q
  obtain ⟨cl, hcl, hcl2⟩ := closure_ok o c
  rw [eval_ListComp]
  refine wpAny_comprehension_free (use := none) rfl (hit.2 env) hcl c.kind c.names (wp_ev (hit.1 A env g s E r o b q) fun xv g1 s1 k1 x1 p1 => ?_)
  refine comp_core (RR := fun acc C => compPost X.M A E none (Post g s fun g v => Rep g v (.list (fz.filterMap id))) acc C) r o c cp hcl2 asg (b.trans x1.gg) (q.step x1) (p1 s1 x1.gh) el hz ?_
  intro D C s' g' m' ws n k2 x2 hD hC hDC ns eD rp gD gC
  refine ⟨m', ns, fun h' hs => ?_⟩
  have eD' : h'.get? D = some { cls := .type "list", data := .seq (List.toArray ws) n } := hs.extBut _ _ hDC eD
  have x3 : Step g1 s1.heap g' h' := step_but x2 hC gC hs
  have x4 := step_with x3 hD
  refine ⟨?_, withObj g' h' D, x1.trans x4, plain_rep eD' rp x3.gh⟩
  obtain ⟨ha, ta, rfl, _⟩ := kp_trans k1 k2
  exact ⟨h', ta, rfl, (x1.trans x4).hh⟩

theorem Ev.comp {x : Str} {px pos : Pos} {elt iter : Expr} {ifs : List Expr} {ds : List Dat} {fz : List (Option Dat)} (hit : Its X k sc τ iter ds) (cap : Sto) (c : CompOk sc scope) (cp : Caps sc scope τ cap) (hx : scope.names.lookup x = some .local)
    (el : Elts X k sc scope cap x ifs elt ds fz) (hz : ds.length ≤ sizeLine) : Ev X k sc τ (.ListComp elt [⟨.Name x px, iter, ifs, 0⟩] scope pos) (.list (fz.filterMap id)) := Ev.compG hit cap c cp (asg_name hx) el hz

theorem exec_Assign_comp {env : Env} {x y : Str} {px py : Pos} {elt iter : Expr} {ifs : List Expr} {pos spos : Pos} {A : Around} {Q : Flow → Shared → Prop} {E : Value → Shared → Prop} {s : Shared}
    (hsw : swapsWith (.ListComp elt [⟨.Name x px, iter, ifs, 0⟩] scope pos) (some (.Name y py)) spos.line env = pure true)
    (h : wpAny X.M A (comprehension (.ListComp elt [⟨.Name x px, iter, ifs, 0⟩] scope pos) scope env (firstIterPos [⟨.Name x px, iter, ifs, 0⟩] pos) (newList []) false (eval iter env) (some (PySem.assign (.Name y py) env))) (fun _ s' => Q .next s') E s) :
    wpAny X.M A (exec (.Assign [.Name y py] (.ListComp elt [⟨.Name x px, iter, ifs, 0⟩] scope pos) spos) env) Q E s := by
  rw [exec_Assign_Name_used _ _ _ _ hsw]
  refine wpAny_bind (wpAny_standAt (wpAny_bind ?_))
  show wpAny _ A (do let _ ← comprehension (.ListComp elt [⟨.Name x px, iter, ifs, 0⟩] scope pos) scope env _ (newList []) false (eval iter env) (some (PySem.assign (.Name y py) env))) _ _ s
  exact wpAny_bind (wpAny_mono h (fun _ s' hq => wpAny_pure (wpAny_pure hq)) fun _ _ e => e)

/-- y = [.. for x in ..], y a local name on the comprehension's own line -/
theorem Ex.assignComp {x y : Str} {px py pos spos : Pos} {elt iter : Expr} {ifs : List Expr} {ds : List Dat} {fz : List (Option Dat)} {R : Out → Prop} (hit : Its X k sc τ iter ds) (cap : Sto) (c : CompOk sc scope) (cp : Caps sc scope τ cap) (hx : scope.names.lookup x = some .local)
    (el : Elts X k sc scope cap x ifs elt ds fz) (hz : ds.length ≤ sizeLine) (hr : R (.next (upd y (.dat (.list (fz.filterMap id))) τ))) (hy : sc.names.lookup y = some .local)
    (hsw : ∀ env : Env, env.scope.kind = .function → env.scope.names.lookup y = some .local → swapsWith (.ListComp elt [⟨.Name x px, iter, ifs, 0⟩] scope pos) (some (.Name y py)) spos.line env = pure true) :
    Ex X k sc τ (exec (.Assign [.Name y py] (.ListComp elt [⟨.Name x px, iter, ifs, 0⟩] scope pos) spos)) R := by
  intro A env s₀ g₀ H g m cm s E r o b F
  obtain ⟨cl, hcl, hcl2⟩ := closure_ok o c
  refine exec_Assign_comp (hsw env o.ek (o.scope ▸ hy)) (wpAny_mono (wpAny_comprehension_free (Q := fun _ s' => OutIs s₀ g₀ env H R .next s') (use := some (PySem.assign (.Name y py) env)) rfl (hit.2 env) hcl c.kind c.names
    (wp_ev (hit.1 A env g s E r o (b.trans F.st.gg) F.sto) fun xv g1 s1 k1 x1 p1 => ?_)) (fun _ _ q => q) fun _ _ e => e)
  have F1 := F.ev k1 x1
  refine comp_core (RR := fun acc C => compPost X.M A E (some (PySem.assign (.Name y py) env)) (fun _ s' => OutIs s₀ g₀ env H R .next s') acc C) r o c cp hcl2 (asg_name hx) ((b.trans F.st.gg).trans x1.gg) F1.sto (p1 s1 x1.gh) el hz ?_
  intro D C s' g' m' ws n k2 x2 hD hC hDC ns eD rp gD gC
  have x3 := step_with x2 hD
  have F2 := (F1.ev k2 x3).more (wr := [C]) (old := s1.heap) ?_ (fun b hb => by rw [List.mem_singleton.mp hb]; exact hC) (fun b hb => by rw [List.mem_singleton.mp hb]; exact withObj_other gC (Ne.symm hDC)) (g' := g1)
  · show wpAny X.M A (PySem.assign (.Name y py) env (.ref D)) _ _ _
    have hLC : env.locals ≠ C := by
      obtain ⟨ob, _, _, ho, _⟩ := F1.call.toInCall.ns
      intro e; rw [e, hC] at ho; cases ho
    refine wpAny_assign_Name (wp_store (lv := .dat (.list (fz.filterMap id))) F2 o (by unfold canStore; rw [hy]; rfl) (o.cells y) (plain_rep eD rp x2.gh) trivial fun m2 cm2 s2 F3 => ?_)
    have live : ∀ b ∈ [C], (s2.heap.get? b).isSome := by
      intro b hb
      rw [List.mem_singleton.mp hb]
      obtain ⟨ob, _, _, ho, _⟩ := ns
      rw [(F3.hold (C, ob) (List.mem_append_left _ (mem_objsAt.mpr ⟨by simp, ho⟩))).1]; rfl
    have F3' : FS s₀ g₀ env (objsAt [C] s2.heap ++ H) (upd y (.dat (.list (fz.filterMap id))) τ) (withObj g' s'.heap D) m2 cm2 s2 := by
      refine F3.less fun p hp => ?_
      rcases List.mem_append.mp hp with hp | hp
      · obtain ⟨q1, q2⟩ := mem_objsAt.mp hp
        refine List.mem_append_left _ (mem_objsAt.mpr ⟨q1, ?_⟩)
        obtain ⟨ob, _, _, ho, _⟩ := ns
        have hC1 := List.mem_singleton.mp q1
        have := (F3.hold (C, ob) (List.mem_append_left _ (mem_objsAt.mpr ⟨by simp, ho⟩))).1
        rw [hC1] at q2
        have hq : some p.2 = some ob := q2.symm.trans this
        rw [hC1, hq]; exact ho
      · exact List.mem_append_right _ hp
    refine ⟨m', ?_, fun h' hs => ?_⟩
    · obtain ⟨ob, es, ep, ho, rr⟩ := ns
      exact ⟨ob, es, ep, (F3.hold (C, ob) (List.mem_append_left _ (mem_objsAt.mpr ⟨by simp, ho⟩))).1, rr⟩
    · have F4 := F3'.wrote (h' := h') (tk := s2.toks) (fun p hp q => by
        have := (F1.hold p hp).1
        rw [List.mem_singleton.mp q, hC] at this; cases this) live (fun b ob hb e => hs.extBut b ob (fun z => hb (by rw [z]; simp)) e)
      exact ⟨_, _, m2, cm2, hr, F4.less fun p hp => List.mem_append_right _ hp⟩
  · obtain ⟨ha, ta, rfl, _⟩ := k2
    exact F1.tok
end
end Mine

namespace Mine
open PySem PySem.W PyProof.Rows PySem.Calls
set_option Elab.async false
set_option maxRecDepth 100000
set_option linter.unusedVariables false

def chars (x : Str) : List Dat := x.cps.toList.map fun c => .str ⟨#[c]⟩

section
variable {X : Cx} {k : Nat} {sc : Scope} {τ : Sto} {s₀ s : Shared} {g₀ g : Heap} {env : Env} {H : List (Addr × Obj)} {m cm : Str → Option Value}

/-- a, b = (u, v) out of a tuple -/
theorem wp_assign2 {A : Around} {E : Value → Shared → Prop} {a b : Str} {pa pb pos : Pos} {n : Nat} {T : Addr} {u v : Value} {d e : Dat} {Q : Unit → Shared → Prop} (F : FS s₀ g₀ env H τ g m cm s) (o : EnvOk env sc) (r : Room A k) (ht : s.heap.IsTuple T #[u, v])
    (hu : Rep g u d) (hv : Rep g v e) (ha : canStore sc a = true) (hb : canStore sc b = true) (h : ∀ m' cm' s', FS s₀ g₀ env H (upd b (.dat e) (upd a (.dat d) τ)) g m' cm' s' → Q () s') :
    wpAny X.M A (PySem.assign (.Tuple [.Name a pa, .Name b pb] n pos) env (.ref T)) Q E s := by
  refine wpAny_assign_Tuple r.hh ht (by rfl) (by rfl) fun h' hx => ?_
  have k1 : Keeps s { s with heap := h' } := ⟨h', s.toks, rfl, fun b ob e => hx b ob (Nat.ne_of_lt (Heap.lt_size e)) e⟩
  have F1 := F.ev k1 ⟨.rfl, kp_sub k1, F.st.gh.trans (kp_sub k1), fun _ _ e => .inl e⟩
  show wpAny X.M A (assignInOrder [PySem.assign (.Name a pa) env, PySem.assign (.Name b pb) env] [u, v]) Q E _
  refine wpAny_assignInOrder_more (wpAny_assign_Name (wp_store (lv := .dat d) F1 o ha (o.cells a) hu trivial fun m2 cm2 s2 F2 => ?_))
  refine wpAny_assignInOrder_more (wpAny_assign_Name (wp_store (lv := .dat e) F2 o hb (o.cells b) hv trivial fun m3 cm3 s3 F3 => ?_))
  exact wpAny_assignInOrder_none (h m3 cm3 s3 F3)

/-- what enumerate makes of a value -/
structure Enum (X : Cx) (g : Heap) (s₂ : Shared) (old : Heap) (e it : Addr) (ds : List Dat) (fp : List Addr) (P : Nat → Value → Prop) (St : Nat → Heap → Prop) : Prop where
  draws : ∀ A', A'.handled = none → Draws X.prog X.w A' it fp ds.length P St
  start : St 0 s₂.heap
  enum : IsEnum s₂.heap e it 0 .none
  hei : e ≠ it
  hef : e ∉ fp
  hif : it ∈ fp
  fe : old.get? e = none
  fi : old.get? it = none
  foot : ∀ b ∈ fp, b = it ∨ (g.get? b).isSome
  item : ∀ i v, P i v → ∃ d, ds[i]? = some d ∧ Rep g v d
def EnumOf (X : Cx) (k : Nat) (g : Heap) (s : Shared) (xv : Value) (ds : List Dat) : Prop :=
  ∀ (A : Around) (E : Value → Shared → Prop), Room A k → wpAny X.M A (call (.type "enumerate") [xv]) (fun v s₂ => Keeps s s₂ ∧ ∃ e it fp P St, v = .ref e ∧ Enum X g s₂ s.heap e it ds fp P St) E s

theorem enumOf_str {x : Str} {t : Tok} (kk : Sub g s.heap) : EnumOf X k g s (.str x t) (chars x) := by
  intro A E rm
  have hn : (chars x).length = x.cps.size := by simp [chars]
  refine call_enumerate_str fun h' he hit hsz hk => ⟨⟨h', s.toks, rfl, hk⟩, s.heap.objs.size + 1, s.heap.objs.size, [s.heap.objs.size], (fun i v => ∃ c u, x.cps[i]? = some c ∧ v = .str ⟨#[c]⟩ u), (fun i h => h.IsStrIter s.heap.objs.size (strIterType x) x t i), rfl, ?_⟩
  have big : s.heap.get? (s.heap.objs.size + 1) = none := by
    cases z : s.heap.get? (s.heap.objs.size + 1) with
    | none => rfl
    | some o' => exact absurd (Heap.lt_size z) (Nat.not_lt.mpr (Nat.le_succ _))
  exact {
    draws := fun A' hA => by
      rw [hn]
      cases ha : x.cps.all (· < 128)
      · have e : strIterType x = "str_iterator" := by simp [strIterType, ha]
        rw [e]; exact Draws.strWide hA _ x t
      · have e : strIterType x = "str_ascii_iterator" := by simp [strIterType, ha]
        rw [e]; exact Draws.strAscii hA _ x t
    start := hit
    enum := he
    hei := by intro q; exact absurd q (Nat.succ_ne_self _)
    hef := fun q => absurd (List.mem_singleton.mp q) (Nat.succ_ne_self _)
    hif := by simp
    fe := big
    fi := fresh_size
    foot := fun b hb => .inl (List.mem_singleton.mp hb)
    item := fun i v hv => by
      obtain ⟨c, u, hc, rfl⟩ := hv
      exact ⟨.str ⟨#[c]⟩, by simp [chars, hc], .str _ _⟩ }

/-- for i, c in enumerate(e) -/
theorem Ex.forEnum {xi xc f : Str} {pi pc pt pf pcall pos : Pos} {nt : Nat} {e : Expr} {body : List Stmt} {ds : List Dat} {R : Out → Prop} (hf : EvP X k sc τ (.Name f pf) fun _ u => u = .type "enumerate") {d0 : Dat} (he : Ev X k sc τ e d0)
    (hen : ∀ g s v, Sub g s.heap → Rep g v d0 → EnumOf X k g s v ds) (Inv : Nat → Sto → Prop) (h0 : Inv 0 τ)
    (turn : ∀ i τ' d, ds[i]? = some d → Inv i τ' → Ex X k sc (upd xc (.dat d) (upd xi (.dat (.int i)) τ')) (execs body) (Turn (Inv (i + 1)) R)) (done : ∀ τ', Inv ds.length τ' → R (.next τ'))
    (hx : canStore sc xi = true := by rfl) (hx2 : canStore sc xc = true := by rfl) (hp : plainE e = true := by rfl)
    (hs : ∀ env x, foldedSetIterable (.Call (.Name f pf) [e] [] pcall) env x = pure x := by intro _ _; rfl) :
    Ex X k sc τ (exec (.For (.Tuple [.Name xi pi, .Name xc pc] nt pt) (.Call (.Name f pf) [e] [] pcall) body [] pos)) R := by
  intro A env s₀ g₀ H g m cm s E r o b F
  refine wpAny_For (wpAny_Call_NameR (wp_ev (hf A env g s E r o (b.trans F.st.gg) F.sto) fun u g1 s1 k1 x1 p1 => ?_)) (hs env)
  subst p1
  have F1 := F.ev k1 x1
  refine callWith_of (P := fun h => True) (by rw [plain_any pcall env (es := [e]) (by rw [List.all_cons, hp]; rfl)]; rfl) (fun h _ => ⟨.machine, .inr (.inl rfl), Looks.of_pure rfl⟩)
    (evalArgs_evs (EvL.cons he .nil hp) r o (b.trans F1.st.gg) F1.sto fun vs g2 s2 k2 x2 p2 => ⟨trivial, ?_⟩)
  have F2 := F1.ev k2 x2
  cases p2 with
  | cons p2 pn =>
    rename_i v0 vs0
    cases pn
    refine wpAny_mono (hen g2 s2 v0 x2.gh p2 A E r) (fun ev s3 ⟨k3, e3, it, fp, P, St, hev, W⟩ => ?_) fun _ _ y => y
    subst hev
    have x3 : Step g2 s2.heap g2 s3.heap := ⟨.rfl, kp_sub k3, x2.gh.trans (kp_sub k3), fun _ _ e => .inl e⟩
    have F3' := F2.ev k3 x3
    refine wpAny_pyIter_enum W.enum ?_
    have fresh : ∀ b ∈ [e3, it], s2.heap.get? b = none := by
      intro b hb
      rcases List.mem_cons.mp hb with rfl | hb
      · exact W.fe
      · rw [List.mem_singleton.mp hb]; exact W.fi
    have hd : ∀ p ∈ H, p.1 ∉ [e3, it] := fun p hp q => by
      have := (F2.hold p hp).1
      rw [fresh _ q] at this; cases this
    have F2' : FS s₀ g₀ env H τ g2 m cm { s3 with heap := s2.heap } := by
      obtain ⟨h', tk, rfl, kp⟩ := k3
      exact F2.tok
    have F3 := F3'.more F2' fresh fun b hb => by
      cases z : g2.get? b with
      | none => rfl
      | some o' => have := x2.gh _ _ z; rw [fresh b hb] at this; cases this
    have WT : ∀ A', A'.handled = none → WalksT X.prog X.w A' e3 (e3 :: fp) [e3, it] ds.length _ _ _ := fun A' hA => WalksT.enumerateD (W.draws A'.in1 hA) e3 W.hei W.hef W.hif
    have foot : ∀ b ∈ e3 :: fp, b ∈ [e3, it] ∨ (g2.get? b).isSome := by
      intro b hb
      rcases List.mem_cons.mp hb with rfl | hb
      · exact .inl (by simp)
      · rcases W.foot b hb with rfl | q
        · exact .inl (by simp)
        · exact .inr q
    have live : ∀ (i : Nat) (h : Heap), ((∃ old, IsEnum h e3 it i old) ∧ St i h) → ∀ b ∈ [e3, it], (h.get? b).isSome := by
      rintro i h ⟨⟨old, he⟩, hst⟩ b hb
      rcases List.mem_cons.mp hb with rfl | hb
      · have he' : h.get? b = _ := he
        rw [he']; rfl
      · rw [List.mem_singleton.mp hb]
        obtain ⟨ob, ho⟩ := (W.draws A r.hh).live _ _ hst
        rw [ho]; rfl
    refine codeAny_forLoop_any (fun n s' => ∃ i τ' g' m' cm', n = ds.length - i ∧ i ≤ ds.length ∧ Inv i τ' ∧ FS s₀ g₀ env (objsAt [e3, it] s'.heap ++ H) τ' g' m' cm' s' ∧ ((∃ old, IsEnum s'.heap e3 it i old) ∧ St i s'.heap) ∧ Sub g2 g') ?_ ds.length ⟨0, τ, g2, m, cm, rfl, Nat.zero_le _, h0, F3, ⟨⟨_, W.enum⟩, W.start⟩, .rfl⟩
    rintro n s4 ⟨i, τ', g', m', cm', rfl, hi, hI, F4, hst, hg1⟩
    have hlv := live i _ hst
    rcases Nat.lt_or_ge i ds.length with hlt | hge
    · refine (WT A r.hh).item i s4 _ _ hlt hst fun T vals h' tk hP hTn hT hmid hk' => ?_
      have F5 := F4.wrote (tk := tk) hd hlv hk'
      obtain ⟨t, xv, hPx, rfl⟩ := hP
      obtain ⟨d, hd1, hr⟩ := W.item i xv hPx
      have hTw := (WT A r.hh).apart _ _ _ hmid
      have hlv5 : ∀ b ∈ [e3, it], (h'.get? b).isSome := by
        obtain ⟨⟨xx, ho⟩, hs1, _, _⟩ := hmid
        intro b hb
        rcases List.mem_cons.mp hb with rfl | hb
        · have ho' : h'.get? b = _ := ho
          rw [ho']; rfl
        · rw [List.mem_singleton.mp hb]
          obtain ⟨ob, ho⟩ := (W.draws A r.hh).live _ _ hs1
          rw [ho]; rfl
      refine (WT A r.hh).go _ _ _ i T { s4 with heap := h', toks := tk } _ _ hmid fun h'' hst' hk'' => ?_
      have F6 := F5.wrote (tk := tk) (s := { s4 with heap := h', toks := tk }) hd hlv5 hk''
      have hT6 : h''.IsTuple T #[.int i t, xv] := let ⟨ob, ho, rr⟩ := hT; ⟨ob, hk'' _ _ hTw ho, rr⟩
      refine wp_assign2 F6 o r hT6 (.int i t) (hr.sub hg1) hx hx2 fun m7 cm7 s7 F7 => ?_
      have same : ∀ {s6 : Shared} {τ6 g6 m6 cm6}, FS s₀ g₀ env (objsAt [e3, it] h'' ++ H) τ6 g6 m6 cm6 s6 → Sub g2 g6 → FS s₀ g₀ env (objsAt [e3, it] s6.heap ++ H) τ6 g6 m6 cm6 s6 ∧ ((∃ old, IsEnum s6.heap e3 it (i + 1 : Nat) old) ∧ St (i + 1) s6.heap) := by
        intro s6 τ6 g6 m6 cm6 F8 hg6
        have hat : ∀ c ∈ [e3, it], s6.heap.get? c = h''.get? c := by
          intro c hc
          obtain ⟨ob, hob⟩ := Option.isSome_iff_exists.mp (live _ _ hst' c hc)
          rw [hob]
          exact (F8.hold (c, ob) (List.mem_append_left _ (mem_objsAt.mpr ⟨hc, hob⟩))).1
        refine ⟨F8.less fun p hp => ?_, (WT A r.hh).frame _ _ _ hst' fun c hc ob e => ?_⟩
        · rcases List.mem_append.mp hp with hp | hp
          · obtain ⟨q1, q2⟩ := mem_objsAt.mp hp
            exact List.mem_append_left _ (mem_objsAt.mpr ⟨q1, by rw [← hat _ q1]; exact q2⟩)
          · exact List.mem_append_right _ hp
        · rcases foot c hc with hw | hg
          · rw [hat c hw]; exact e
          · obtain ⟨ob', hg⟩ := Option.isSome_iff_exists.mp hg
            have e1 : h''.get? c = some ob' := F6.st.gh _ _ (hg1 _ _ hg)
            rw [e] at e1; cases e1
            exact F8.st.gh _ _ (hg6 _ _ hg)
      have F7b := F7.base
      refine wpAny_mono (turn i τ' d hd1 hI A env s₀ _ (objsAt [e3, it] h'' ++ H) _ m7 cm7 s7 _ r o (b.trans F7.st.gg) F7b) (fun f s6 x => ?_) fun _ _ y => y
      cases f with
      | next =>
        obtain ⟨τ6, g6, m6, cm6, rr, F8⟩ := x
        obtain ⟨a1, a2⟩ := same (F8.unbase F7.st) (hg1.trans F8.st.gg)
        exact ⟨ds.length - (i + 1), by omega, i + 1, τ6, g6, m6, cm6, rfl, hlt, rr, a1, a2, hg1.trans F8.st.gg⟩
      | cont =>
        obtain ⟨τ6, g6, m6, cm6, rr, F8⟩ := x
        obtain ⟨a1, a2⟩ := same (F8.unbase F7.st) (hg1.trans F8.st.gg)
        exact ⟨ds.length - (i + 1), by omega, i + 1, τ6, g6, m6, cm6, rfl, hlt, rr, a1, a2, hg1.trans F8.st.gg⟩
      | brk =>
        obtain ⟨τ6, g6, m6, cm6, rr, F8⟩ := x
        exact ⟨τ6, g6, m6, cm6, rr, (F8.unbase F7.st).less fun p hp => List.mem_append_right _ hp⟩
      | ret v =>
        obtain ⟨d6, g6, rr, k6, x6, r6⟩ := x
        exact ⟨d6, g6, rr, k6, step_base F7.st x6, r6⟩
    · have hin : i = ds.length := by omega
      subst hin
      refine (WT A r.hh).done s4 _ _ hst fun h' tk hk' => ?_
      have F5 := F4.wrote (tk := tk) hd hlv hk'
      exact wpAny_execs_nil ⟨τ', g', m', cm', done τ' hI, F5.less fun p hp => List.mem_append_right _ hp⟩
end
end Mine

namespace Mine
open PySem PySem.W PyProof.Rows PySem.Calls
set_option Elab.async false
set_option maxRecDepth 100000
set_option linter.unusedVariables false

/-- a comparison of the items of a walk, wherever g stands -/
def CmpG (X : Cx) (k : Nat) (op : CmpOp) (g : Heap) (P : Nat → Value → Prop) (bt : Nat → Nat → Bool) : Prop :=
  ∀ (A : Around) (i j : Nat) (vi vj : Value) (s : Shared) (Q : Value → Shared → Prop) (E : Value → Shared → Prop), Room A k → Sub g s.heap → P i vi → P j vj → Q (.bool (bt i j)) s → wpAny X.M A (richCompare op vi vj) Q E s
theorem CmpG.in1 {X : Cx} {k : Nat} {op : CmpOp} {g : Heap} {P : Nat → Value → Prop} {bt : Nat → Nat → Bool} (h : CmpG X k op g P bt) : CmpG X (k + 1) op g P bt := fun A i j vi vj s Q E r => h A i j vi vj s Q E (r.le (Nat.le_succ _))

section
variable {X : Cx} {k : Nat} {A : Around} {R : Result → Shared → Prop} {g : Heap} {I S : Addr} {fp wr : List Addr} {n : Nat} {P : Nat → Value → Prop} {St : Nat → Heap → Prop}

theorem max_turns (rm : Room A (k + 1)) (W : Walks X.prog X.w A.in1 I fp wr n P St) (bt : Nat → Nat → Bool) (hc : CmpG X k .Gt g P bt) (hS : S ∉ fp) (gS : g.get? S = none) (gw : ∀ b ∈ wr, g.get? b = none) :
    ∀ (todo j : Nat) (s : Shared) (best : Value) (ep : Nat), todo = n - (j + 1) → j < n → Sub g s.heap → St (j + 1) s.heap → P (argBest bt j) best →
    s.heap.get? S = some { cls := .type "list", dict := none, data := .seq #[best, best] ep, slots := #[] } →
    (∀ v h' tk, P (argBest bt (n - 1)) v → (∀ b o, b ∉ wr → b ≠ S → s.heap.get? b = some o → h'.get? b = some o) → R (.ok (.ret v)) { s with heap := h', toks := tk }) →
    codeAny X.M A (.builtin "max.loop" ⟨[.ref I, .none, .ref S], []⟩) R s := by
  have nm : (toString "max" ++ toString ".loop" : String) = "max.loop" := by decide
  have Sw : S ∉ wr := fun q => hS (W.sub _ q)
  intro todo
  induction todo with
  | zero =>
    intro j s best ep ht hj kk hst hP hs hR
    refine codeAny_builtin F.entry_max_loop ?_
    rw [Around.under_plainId F.plain_max_loop _]
    show wpAny _ A.in1 (seqItems? (.ref S) >>= _) _ _ s
    refine wpAny_bind (wpAny_seqItems hs rfl ?_)
    show wpAny _ A.in1 (tryCatch (pyNext (.ref I)) _ >>= _) _ _ s
    have hn : j + 1 = n := by omega
    refine wpAny_bind (wpAny_tryCatch (W.done s _ _ (hn ▸ hst) fun h' tk hk => ?_))
    show wpAny _ A.in1 (updateSeq S (fun _ => #[]) >>= _) _ _ _
    refine wpAny_bind (wpAny_updateSeq (hk S _ Sw hs) rfl (wpAny_bind (wpAny_letGo (wpAny_pure ?_))))
    have hn' : n - 1 = j := by omega
    exact hR best _ tk (by rw [hn']; exact hP) fun b o hb hbS e => (Heap.get?_update_other _ _ (Ne.symm hbS)).trans (hk b o hb e)
  | succ todo ih =>
    intro j s best ep ht hj kk hst hP hs hR
    refine codeAny_builtin F.entry_max_loop ?_
    rw [Around.under_plainId F.plain_max_loop _]
    show wpAny _ A.in1 (seqItems? (.ref S) >>= _) _ _ s
    refine wpAny_bind (wpAny_seqItems hs rfl ?_)
    show wpAny _ A.in1 (tryCatch (pyNext (.ref I)) _ >>= _) _ _ s
    refine wpAny_bind (wpAny_tryCatch (W.item (j + 1) s _ _ (by omega) hst fun v h' tk hPv hst' hk => ?_))
    have kk' : Sub g h' := fun b o e => hk b o (fun q => by rw [gw b q] at e; cases e) (kk b o e)
    have hs' := hk S _ Sw hs
    show wpAny _ A.in1 (tryCatch (holding [v, v] (richCompare .Gt v best >>= _)) _ >>= _) _ _ _
    refine wpAny_bind (wpAny_tryCatch (wpAny_holding (wpAny_bind (hc A.in1 (j + 1) (argBest bt j) v best _ _ _ rm.in1 kk' hPv hP ?_))))
    refine wpAny_bind (wpAny_holding (wpAny_truthy_bool ?_))
    refine wpAny_bind (wpAny_letGo (wpAny_pure ?_))
    cases hb : bt (j + 1) (argBest bt j) with
    | true =>
      simp only [if_true]
      refine wpAny_bind (wpAny_updateSeq hs' rfl (wpAny_bind (wpAny_letGo ?_)))
      rw [nm]
      refine wpAny_pure ⟨plainId_quiet F.plain_max_loop _, ih (j + 1) _ v _ (by omega) (by omega) (fun b o e => ?_) (W.frame _ _ _ hst' fun b hbf o e => ?_) (by simp only [argBest, hb, if_true]; exact hPv) (Heap.get?_update_self _ hs' rfl) fun u h'' tk'' hPu hk'' => ?_⟩
      · exact (Heap.get?_update_other _ _ (fun q => by rw [← q, gS] at e; cases e)).trans (kk' b o e)
      · exact (Heap.get?_update_other _ _ (fun q : S = b => hS (q ▸ hbf))).trans e
      · exact hR u h'' tk'' hPu fun b o hbw hbS e => hk'' b o hbw hbS ((Heap.get?_update_other _ _ (Ne.symm hbS)).trans (hk b o hbw e))
    | false =>
      simp only [Bool.false_eq_true, if_false]
      refine wpAny_bind (wpAny_letGo ?_)
      rw [nm]
      refine wpAny_pure ⟨plainId_quiet F.plain_max_loop _, ih (j + 1) _ best ep (by omega) (by omega) kk' hst' (by simp only [argBest, hb, Bool.false_eq_true, if_false]; exact hP) hs' fun u h'' tk'' hPu hk'' => ?_⟩
      exact hR u h'' tk'' hPu fun b o hbw hbS e => hk'' b o hbw hbS (hk b o hbw e)

theorem max_starts (rm : Room A (k + 1)) (W : Walks X.prog X.w A.in1 I fp wr n P St) (bt : Nat → Nat → Bool) (hc : CmpG X k .Gt g P bt) (hS : S ∉ fp) (gS : g.get? S = none) (gw : ∀ b ∈ wr, g.get? b = none) (hn : 0 < n) {s : Shared} {ep : Nat} (kk : Sub g s.heap) (hst : St 0 s.heap)
    (hs : s.heap.get? S = some { cls := .type "list", dict := none, data := .seq #[] ep, slots := #[] })
    (hR : ∀ v h' tk, P (argBest bt (n - 1)) v → (∀ b o, b ∉ wr → b ≠ S → s.heap.get? b = some o → h'.get? b = some o) → R (.ok (.ret v)) { s with heap := h', toks := tk }) :
    codeAny X.M A (.builtin "max.loop" ⟨[.ref I, .none, .ref S], []⟩) R s := by
  have nm : (toString "max" ++ toString ".loop" : String) = "max.loop" := by decide
  have Sw : S ∉ wr := fun q => hS (W.sub _ q)
  refine codeAny_builtin F.entry_max_loop ?_
  rw [Around.under_plainId F.plain_max_loop _]
  show wpAny _ A.in1 (seqItems? (.ref S) >>= _) _ _ s
  refine wpAny_bind (wpAny_seqItems hs rfl ?_)
  show wpAny _ A.in1 (tryCatch (pyNext (.ref I)) _ >>= _) _ _ s
  refine wpAny_bind (wpAny_tryCatch (W.item 0 s _ _ hn hst fun v h' tk hPv hst' hk => ?_))
  have kk' : Sub g h' := fun b o e => hk b o (fun q => by rw [gw b q] at e; cases e) (kk b o e)
  have hs' := hk S _ Sw hs
  show wpAny _ A.in1 (updateSeq S (fun _ => #[v, v]) >>= _) _ _ _
  refine wpAny_bind (wpAny_updateSeq hs' rfl ?_)
  rw [nm]
  refine wpAny_pure ⟨plainId_quiet F.plain_max_loop _, max_turns rm W bt hc hS gS gw _ 0 _ v _ rfl hn (fun b o e => ?_) (W.frame _ _ _ hst' fun b hbf o e => ?_) hPv (Heap.get?_update_self _ hs' rfl) fun u h'' tk'' hPu hk'' => ?_⟩
  · exact (Heap.get?_update_other _ _ (fun q => by rw [← q, gS] at e; cases e)).trans (kk' b o e)
  · exact (Heap.get?_update_other _ _ (fun q : S = b => hS (q ▸ hbf))).trans e
  · exact hR u h'' tk'' hPu fun b o hbw hbS e => hk'' b o hbw hbS ((Heap.get?_update_other _ _ (Ne.symm hbS)).trans (hk b o hbw e))
end

theorem max_iter {X : Cx} {k : Nat} {A : Around} {E : Value → Shared → Prop} {g : Heap} {s : Shared} {xv : Value} {ds : List Dat} {bt : Nat → Nat → Bool} (rm : Room A (k + 2)) (kk : Sub g s.heap) (hit : IterOf X k g s xv ds) (hn : 0 < ds.length)
    (hc : CmpG X k .Gt g (fun i v => ∃ d, ds[i]? = some d ∧ Rep g v d) bt) :
    wpAny X.M A (call (.builtin "max") [xv]) (Post g s fun g' v => ∃ d, ds[argBest bt (ds.length - 1)]? = some d ∧ Rep g' v d) E s := by
  have nm : (toString "max" ++ toString ".loop" : String) = "max.loop" := by decide
  refine call_function_tree F.kind_max F.plain_max F.entry_max (F.args_max1 _) ?_
  show wpAny _ A.in1 (Builtin.Builtins.bindParams "max" ["key", "default"] 0 ⟨[], []⟩ >>= _) _ _ s
  refine wpAny_bind (wpAny_of_eq (show Builtin.Builtins.bindParams "max" ["key", "default"] 0 ⟨[], []⟩ = pure [none, none] from rfl) ?_)
  refine wpAny_bind (wpAny_pure ?_)
  refine wpAny_bind (wpAny_mono (hit A.in1 E (rm.in1.le (Nat.le_succ _))) (fun it s2 ⟨k2, I, fp, wr, P, St, e, W⟩ => ?_) fun _ _ y => y)
  subst e
  refine wpAny_bind (wpAny_newObj_type ?_)
  have hSf : s2.heap.objs.size ∉ fp := fun hm => Nat.lt_irrefl _ (W.low _ hm)
  have kk2 : Sub g s2.heap := kk.trans (kp_sub k2)
  have none_of : ∀ {b}, s2.heap.get? b = none ∨ s.heap.get? b = none → g.get? b = none := by
    intro b h
    cases z : g.get? b with
    | none => rfl
    | some o =>
      rcases h with h | h
      · have := kk2 _ _ z; rw [h] at this; cases this
      · have := kk _ _ z; rw [h] at this; cases this
  rw [nm]
  refine wpAny_pure ⟨plainId_quiet F.plain_max_loop _, max_starts (k := k + 1) (g := g) rm (W.walks A.in1 rm.hh) bt (fun A' i j vi vj s' Q E' r' kk' hi hj h => hc A' i j vi vj s' Q E' (r'.le (Nat.le_succ _)) kk' (W.item i vi hi) (W.item j vj hj) h) hSf (none_of (.inl fresh_size)) (fun b hb => none_of (.inr (W.fresh b hb))) hn (kk2.trans (Sub.push .rfl _))
    ((W.walks A.in1 rm.hh).frame _ _ _ W.start fun b _ o e => Heap.get?_push_of_some _ e) (Heap.get?_push_size _ rfl) fun v h' tk hP hk => ?_⟩
  obtain ⟨d, hd, hr⟩ := W.item _ _ hP
  have sub : Sub s.heap h' := fun b o e => hk b o (fun q => by rw [W.fresh b q] at e; cases e) (Nat.ne_of_lt (Heap.lt_size (kp_sub k2 _ _ e))) (Heap.get?_push_of_some _ (kp_sub k2 _ _ e))
  refine ⟨?_, g, ⟨.rfl, sub, kk.trans sub, fun _ _ e => .inl e⟩, d, hd, hr⟩
  obtain ⟨h2, t2, rfl, _⟩ := k2
  exact ⟨h', tk, rfl, sub⟩

section
variable {X : Cx} {k : Nat} {A : Around} {R : Result → Shared → Prop} {g : Heap} {I S : Addr} {fp wr : List Addr} {n : Nat} {P : Nat → Value → Prop} {St : Nat → Heap → Prop}

theorem min_turns (rm : Room A (k + 1)) (W : Walks X.prog X.w A.in1 I fp wr n P St) (bt : Nat → Nat → Bool) (hc : CmpG X k .Lt g P bt) (hS : S ∉ fp) (gS : g.get? S = none) (gw : ∀ b ∈ wr, g.get? b = none) :
    ∀ (todo j : Nat) (s : Shared) (best : Value) (ep : Nat), todo = n - (j + 1) → j < n → Sub g s.heap → St (j + 1) s.heap → P (argBest bt j) best →
    s.heap.get? S = some { cls := .type "list", dict := none, data := .seq #[best, best] ep, slots := #[] } →
    (∀ v h' tk, P (argBest bt (n - 1)) v → (∀ b o, b ∉ wr → b ≠ S → s.heap.get? b = some o → h'.get? b = some o) → R (.ok (.ret v)) { s with heap := h', toks := tk }) →
    codeAny X.M A (.builtin "min.loop" ⟨[.ref I, .none, .ref S], []⟩) R s := by
  have nm : (toString "min" ++ toString ".loop" : String) = "min.loop" := by decide
  have Sw : S ∉ wr := fun q => hS (W.sub _ q)
  intro todo
  induction todo with
  | zero =>
    intro j s best ep ht hj kk hst hP hs hR
    refine codeAny_builtin F.entry_min_loop ?_
    rw [Around.under_plainId F.plain_min_loop _]
    show wpAny _ A.in1 (seqItems? (.ref S) >>= _) _ _ s
    refine wpAny_bind (wpAny_seqItems hs rfl ?_)
    show wpAny _ A.in1 (tryCatch (pyNext (.ref I)) _ >>= _) _ _ s
    have hn : j + 1 = n := by omega
    refine wpAny_bind (wpAny_tryCatch (W.done s _ _ (hn ▸ hst) fun h' tk hk => ?_))
    show wpAny _ A.in1 (updateSeq S (fun _ => #[]) >>= _) _ _ _
    refine wpAny_bind (wpAny_updateSeq (hk S _ Sw hs) rfl (wpAny_bind (wpAny_letGo (wpAny_pure ?_))))
    have hn' : n - 1 = j := by omega
    exact hR best _ tk (by rw [hn']; exact hP) fun b o hb hbS e => (Heap.get?_update_other _ _ (Ne.symm hbS)).trans (hk b o hb e)
  | succ todo ih =>
    intro j s best ep ht hj kk hst hP hs hR
    refine codeAny_builtin F.entry_min_loop ?_
    rw [Around.under_plainId F.plain_min_loop _]
    show wpAny _ A.in1 (seqItems? (.ref S) >>= _) _ _ s
    refine wpAny_bind (wpAny_seqItems hs rfl ?_)
    show wpAny _ A.in1 (tryCatch (pyNext (.ref I)) _ >>= _) _ _ s
    refine wpAny_bind (wpAny_tryCatch (W.item (j + 1) s _ _ (by omega) hst fun v h' tk hPv hst' hk => ?_))
    have kk' : Sub g h' := fun b o e => hk b o (fun q => by rw [gw b q] at e; cases e) (kk b o e)
    have hs' := hk S _ Sw hs
    show wpAny _ A.in1 (tryCatch (holding [v, v] (richCompare .Lt v best >>= _)) _ >>= _) _ _ _
    refine wpAny_bind (wpAny_tryCatch (wpAny_holding (wpAny_bind (hc A.in1 (j + 1) (argBest bt j) v best _ _ _ rm.in1 kk' hPv hP ?_))))
    refine wpAny_bind (wpAny_holding (wpAny_truthy_bool ?_))
    refine wpAny_bind (wpAny_letGo (wpAny_pure ?_))
    cases hb : bt (j + 1) (argBest bt j) with
    | true =>
      simp only [if_true]
      refine wpAny_bind (wpAny_updateSeq hs' rfl (wpAny_bind (wpAny_letGo ?_)))
      rw [nm]
      refine wpAny_pure ⟨plainId_quiet F.plain_min_loop _, ih (j + 1) _ v _ (by omega) (by omega) (fun b o e => ?_) (W.frame _ _ _ hst' fun b hbf o e => ?_) (by simp only [argBest, hb, if_true]; exact hPv) (Heap.get?_update_self _ hs' rfl) fun u h'' tk'' hPu hk'' => ?_⟩
      · exact (Heap.get?_update_other _ _ (fun q => by rw [← q, gS] at e; cases e)).trans (kk' b o e)
      · exact (Heap.get?_update_other _ _ (fun q : S = b => hS (q ▸ hbf))).trans e
      · exact hR u h'' tk'' hPu fun b o hbw hbS e => hk'' b o hbw hbS ((Heap.get?_update_other _ _ (Ne.symm hbS)).trans (hk b o hbw e))
    | false =>
      simp only [Bool.false_eq_true, if_false]
      refine wpAny_bind (wpAny_letGo ?_)
      rw [nm]
      refine wpAny_pure ⟨plainId_quiet F.plain_min_loop _, ih (j + 1) _ best ep (by omega) (by omega) kk' hst' (by simp only [argBest, hb, Bool.false_eq_true, if_false]; exact hP) hs' fun u h'' tk'' hPu hk'' => ?_⟩
      exact hR u h'' tk'' hPu fun b o hbw hbS e => hk'' b o hbw hbS (hk b o hbw e)

theorem min_starts (rm : Room A (k + 1)) (W : Walks X.prog X.w A.in1 I fp wr n P St) (bt : Nat → Nat → Bool) (hc : CmpG X k .Lt g P bt) (hS : S ∉ fp) (gS : g.get? S = none) (gw : ∀ b ∈ wr, g.get? b = none) (hn : 0 < n) {s : Shared} {ep : Nat} (kk : Sub g s.heap) (hst : St 0 s.heap)
    (hs : s.heap.get? S = some { cls := .type "list", dict := none, data := .seq #[] ep, slots := #[] })
    (hR : ∀ v h' tk, P (argBest bt (n - 1)) v → (∀ b o, b ∉ wr → b ≠ S → s.heap.get? b = some o → h'.get? b = some o) → R (.ok (.ret v)) { s with heap := h', toks := tk }) :
    codeAny X.M A (.builtin "min.loop" ⟨[.ref I, .none, .ref S], []⟩) R s := by
  have nm : (toString "min" ++ toString ".loop" : String) = "min.loop" := by decide
  have Sw : S ∉ wr := fun q => hS (W.sub _ q)
  refine codeAny_builtin F.entry_min_loop ?_
  rw [Around.under_plainId F.plain_min_loop _]
  show wpAny _ A.in1 (seqItems? (.ref S) >>= _) _ _ s
  refine wpAny_bind (wpAny_seqItems hs rfl ?_)
  show wpAny _ A.in1 (tryCatch (pyNext (.ref I)) _ >>= _) _ _ s
  refine wpAny_bind (wpAny_tryCatch (W.item 0 s _ _ hn hst fun v h' tk hPv hst' hk => ?_))
  have kk' : Sub g h' := fun b o e => hk b o (fun q => by rw [gw b q] at e; cases e) (kk b o e)
  have hs' := hk S _ Sw hs
  show wpAny _ A.in1 (updateSeq S (fun _ => #[v, v]) >>= _) _ _ _
  refine wpAny_bind (wpAny_updateSeq hs' rfl ?_)
  rw [nm]
  refine wpAny_pure ⟨plainId_quiet F.plain_min_loop _, min_turns rm W bt hc hS gS gw _ 0 _ v _ rfl hn (fun b o e => ?_) (W.frame _ _ _ hst' fun b hbf o e => ?_) hPv (Heap.get?_update_self _ hs' rfl) fun u h'' tk'' hPu hk'' => ?_⟩
  · exact (Heap.get?_update_other _ _ (fun q => by rw [← q, gS] at e; cases e)).trans (kk' b o e)
  · exact (Heap.get?_update_other _ _ (fun q : S = b => hS (q ▸ hbf))).trans e
  · exact hR u h'' tk'' hPu fun b o hbw hbS e => hk'' b o hbw hbS ((Heap.get?_update_other _ _ (Ne.symm hbS)).trans (hk b o hbw e))
end

theorem min_iter {X : Cx} {k : Nat} {A : Around} {E : Value → Shared → Prop} {g : Heap} {s : Shared} {xv : Value} {ds : List Dat} {bt : Nat → Nat → Bool} (rm : Room A (k + 2)) (kk : Sub g s.heap) (hit : IterOf X k g s xv ds) (hn : 0 < ds.length)
    (hc : CmpG X k .Lt g (fun i v => ∃ d, ds[i]? = some d ∧ Rep g v d) bt) :
    wpAny X.M A (call (.builtin "min") [xv]) (Post g s fun g' v => ∃ d, ds[argBest bt (ds.length - 1)]? = some d ∧ Rep g' v d) E s := by
  have nm : (toString "min" ++ toString ".loop" : String) = "min.loop" := by decide
  refine call_function_tree F.kind_min F.plain_min F.entry_min (F.args_min1 _) ?_
  show wpAny _ A.in1 (Builtin.Builtins.bindParams "min" ["key", "default"] 0 ⟨[], []⟩ >>= _) _ _ s
  refine wpAny_bind (wpAny_of_eq (show Builtin.Builtins.bindParams "min" ["key", "default"] 0 ⟨[], []⟩ = pure [none, none] from rfl) ?_)
  refine wpAny_bind (wpAny_pure ?_)
  refine wpAny_bind (wpAny_mono (hit A.in1 E (rm.in1.le (Nat.le_succ _))) (fun it s2 ⟨k2, I, fp, wr, P, St, e, W⟩ => ?_) fun _ _ y => y)
  subst e
  refine wpAny_bind (wpAny_newObj_type ?_)
  have hSf : s2.heap.objs.size ∉ fp := fun hm => Nat.lt_irrefl _ (W.low _ hm)
  have kk2 : Sub g s2.heap := kk.trans (kp_sub k2)
  have none_of : ∀ {b}, s2.heap.get? b = none ∨ s.heap.get? b = none → g.get? b = none := by
    intro b h
    cases z : g.get? b with
    | none => rfl
    | some o =>
      rcases h with h | h
      · have := kk2 _ _ z; rw [h] at this; cases this
      · have := kk _ _ z; rw [h] at this; cases this
  rw [nm]
  refine wpAny_pure ⟨plainId_quiet F.plain_min_loop _, min_starts (k := k + 1) (g := g) rm (W.walks A.in1 rm.hh) bt (fun A' i j vi vj s' Q E' r' kk' hi hj h => hc A' i j vi vj s' Q E' (r'.le (Nat.le_succ _)) kk' (W.item i vi hi) (W.item j vj hj) h) hSf (none_of (.inl fresh_size)) (fun b hb => none_of (.inr (W.fresh b hb))) hn (kk2.trans (Sub.push .rfl _))
    ((W.walks A.in1 rm.hh).frame _ _ _ W.start fun b _ o e => Heap.get?_push_of_some _ e) (Heap.get?_push_size _ rfl) fun v h' tk hP hk => ?_⟩
  obtain ⟨d, hd, hr⟩ := W.item _ _ hP
  have sub : Sub s.heap h' := fun b o e => hk b o (fun q => by rw [W.fresh b q] at e; cases e) (Nat.ne_of_lt (Heap.lt_size (kp_sub k2 _ _ e))) (Heap.get?_push_of_some _ (kp_sub k2 _ _ e))
  refine ⟨?_, g, ⟨.rfl, sub, kk.trans sub, fun _ _ e => .inl e⟩, d, hd, hr⟩
  obtain ⟨h2, t2, rfl, _⟩ := k2
  exact ⟨h', tk, rfl, sub⟩
end Mine

namespace Mine
open PySem PySem.W PyProof.Rows PySem.Calls
set_option Elab.async false
set_option maxRecDepth 100000
set_option linter.unusedVariables false

/-- the common head of two rows -/
def lcp2 : List Int → List Int → List Int
  | a :: as, b :: bs => if a = b then a :: lcp2 as bs else []
  | _, _ => []
theorem lcp2_left : ∀ (a b : List Int), lcp2 a b <+: a
  | [], b => by cases b <;> exact List.prefix_rfl
  | a :: as, [] => List.nil_prefix
  | a :: as, b :: bs => by
    unfold lcp2
    split
    · exact List.cons_prefix_cons.mpr ⟨rfl, lcp2_left as bs⟩
    · exact List.nil_prefix
theorem lcp2_right : ∀ (a b : List Int), lcp2 a b <+: b
  | [], b => by cases b <;> exact List.nil_prefix
  | a :: as, [] => List.prefix_rfl
  | a :: as, b :: bs => by
    unfold lcp2
    split
    · rename_i h; exact List.cons_prefix_cons.mpr ⟨h, lcp2_right as bs⟩
    · exact List.nil_prefix
theorem lcp2_most : ∀ {p a b : List Int}, p <+: a → p <+: b → p <+: lcp2 a b
  | [], _, _, _, _ => List.nil_prefix
  | x :: p, [], _, h, _ => by simp at h
  | x :: p, _ :: _, [], _, h => by simp at h
  | x :: p, a :: as, b :: bs, h1, h2 => by
    obtain ⟨e1, h1⟩ := List.cons_prefix_cons.mp h1
    obtain ⟨e2, h2⟩ := List.cons_prefix_cons.mp h2
    unfold lcp2
    rw [if_pos (e1.symm.trans e2)]
    exact List.cons_prefix_cons.mpr ⟨e1, lcp2_most h1 h2⟩
theorem prefix_antisymm {a b : List Int} (h1 : a <+: b) (h2 : b <+: a) : a = b := h1.eq_of_length (Nat.le_antisymm h1.length_le h2.length_le)

/-- c is the common head of all rows -/
def IsCp (rows : List (List Int)) (c : List Int) : Prop := (∀ r ∈ rows, c <+: r) ∧ ∀ p, (∀ r ∈ rows, p <+: r) → p <+: c
theorem IsCp.uniq {rows : List (List Int)} {c d : List Int} (h : IsCp rows c) (h' : IsCp rows d) : c = d := prefix_antisymm (h'.2 c h.1) (h.2 d h'.1)

theorem pre_between : ∀ {p a r b : List Int}, p <+: a → p <+: b → ¬ r < a → ¬ b < r → p <+: r
  | [], _, _, _, _, _, _, _ => List.nil_prefix
  | x :: p, [], _, _, h, _, _, _ => by simp at h
  | x :: p, _ :: _, _, [], _, h, _, _ => by simp at h
  | x :: p, a :: as, [], b :: bs, h1, h2, h3, h4 => absurd (List.nil_lt_cons _ _) h3
  | x :: p, a :: as, y :: r, b :: bs, h1, h2, h3, h4 => by
    obtain ⟨e1, g1⟩ := List.cons_prefix_cons.mp h1
    obtain ⟨e2, g2⟩ := List.cons_prefix_cons.mp h2
    subst e1; subst e2
    rw [List.cons_lt_cons_iff] at h3 h4
    have hy : x = y := by
      rcases Int.lt_trichotomy x y with h | h | h
      · exact absurd (.inl h) h4
      · exact h
      · exact absurd (.inl h) h3
    subst hy
    exact List.cons_prefix_cons.mpr ⟨rfl, pre_between g1 g2 (fun q => h3 (.inr ⟨rfl, q⟩)) fun q => h4 (.inr ⟨rfl, q⟩)⟩

theorem argBest_le (bt : Nat → Nat → Bool) : ∀ n, argBest bt n ≤ n
  | 0 => Nat.le_refl _
  | n + 1 => by
    unfold argBest
    split
    · exact Nat.le_refl _
    · exact Nat.le_succ_of_le (argBest_le bt n)
theorem argBest_spec {bt : Nat → Nat → Bool} (tr : ∀ i j k, bt i j = true → bt j k = true → bt i k = true) (ir : ∀ i, bt i i = false) : ∀ n i, i ≤ n → bt i (argBest bt n) = false
  | 0, i, h => by
    have : i = 0 := by omega
    subst this
    exact ir 0
  | n + 1, i, h => by
    unfold argBest
    have ih := argBest_spec tr ir n
    split
    · rename_i hb
      rcases Nat.lt_or_ge i (n + 1) with hi | hi
      · cases hq : bt i (n + 1) with
        | false => rfl
        | true =>
          have := tr _ _ _ hq hb
          rw [ih i (by omega)] at this
          cases this
      · have : i = n + 1 := by omega
        rw [this]; exact ir _
    · rename_i hb
      rcases Nat.lt_or_ge i (n + 1) with hi | hi
      · exact ih i (by omega)
      · have : i = n + 1 := by omega
        rw [this]; simpa using hb

def rowAt (rows : List (List Int)) (i : Nat) : List Int := rows.getD i []
def btLt (rows : List (List Int)) (i j : Nat) : Bool := decide (rowAt rows i < rowAt rows j)
def btGt (rows : List (List Int)) (i j : Nat) : Bool := decide (rowAt rows j < rowAt rows i)
def minRow (rows : List (List Int)) : List Int := rowAt rows (argBest (btLt rows) (rows.length - 1))
def maxRow (rows : List (List Int)) : List Int := rowAt rows (argBest (btGt rows) (rows.length - 1))
theorem lt_tr {a b c : List Int} (h1 : a < b) (h2 : b < c) : a < c := List.lt_trans h1 h2
theorem minRow_spec {rows : List (List Int)} {r : List Int} (h : r ∈ rows) : ¬ r < minRow rows := by
  obtain ⟨i, hi, rfl⟩ := List.getElem_of_mem h
  have := argBest_spec (bt := btLt rows) (fun i j k h1 h2 => by simp only [btLt, decide_eq_true_eq] at *; exact lt_tr h1 h2) (fun i => by simp [btLt, List.lt_irrefl]) (rows.length - 1) i (by omega)
  simp only [btLt, decide_eq_false_iff_not] at this
  have e : rowAt rows i = rows[i] := by simp [rowAt, hi]
  rw [e] at this
  exact this
theorem maxRow_spec {rows : List (List Int)} {r : List Int} (h : r ∈ rows) : ¬ maxRow rows < r := by
  obtain ⟨i, hi, rfl⟩ := List.getElem_of_mem h
  have := argBest_spec (bt := btGt rows) (fun i j k h1 h2 => by simp only [btGt, decide_eq_true_eq] at *; exact lt_tr h2 h1) (fun i => by simp [btGt, List.lt_irrefl]) (rows.length - 1) i (by omega)
  simp only [btGt, decide_eq_false_iff_not] at this
  have e : rowAt rows i = rows[i] := by simp [rowAt, hi]
  rw [e] at this
  exact this
theorem argBest_mem {rows : List (List Int)} (bt : Nat → Nat → Bool) (h : rows ≠ []) : rowAt rows (argBest bt (rows.length - 1)) ∈ rows := by
  have h0 : 0 < rows.length := List.length_pos_iff.mpr h
  have h1 := argBest_le bt (rows.length - 1)
  have h2 : argBest bt (rows.length - 1) < rows.length := by omega
  have e : rowAt rows (argBest bt (rows.length - 1)) = rows[argBest bt (rows.length - 1)] := by simp [rowAt, h2]
  rw [e]
  exact List.getElem_mem h2
theorem isCp_minMax {rows : List (List Int)} (h : rows ≠ []) : IsCp rows (lcp2 (minRow rows) (maxRow rows)) := by
  refine ⟨fun r hr => pre_between (lcp2_left _ _) (lcp2_right _ _) (minRow_spec hr) (maxRow_spec hr), fun p hp => ?_⟩
  exact lcp2_most (hp _ (argBest_mem _ h)) (hp _ (argBest_mem _ h))

/-- a walk through two rows of which the first isn't above the other -/
theorem lcp2_stop {a b : List Int} {i : Nat} (h : a.take i = b.take i) (ha : i < a.length) (hb : i < b.length) (hne : a[i] ≠ b[i]) : lcp2 a b = a.take i := by
  induction i generalizing a b with
  | zero =>
    cases a with
    | nil => simp at ha
    | cons x a =>
      cases b with
      | nil => simp at hb
      | cons y b =>
        have : x ≠ y := by simpa using hne
        simp [lcp2, this]
  | succ i ih =>
    cases a with
    | nil => simp at ha
    | cons x a =>
      cases b with
      | nil => simp at hb
      | cons y b =>
        simp only [List.take_succ_cons, List.cons.injEq] at h
        obtain ⟨e, h⟩ := h
        unfold lcp2
        rw [if_pos e, ih h (by simpa using ha) (by simpa using hb) (by simpa using hne)]
        simp
theorem lcp2_whole {a b : List Int} (h : a <+: b) : lcp2 a b = a := prefix_antisymm (lcp2_left _ _) (lcp2_most List.prefix_rfl h)
theorem in_bounds {a b : List Int} {i : Nat} (h : a.take i = b.take i) (ha : i < a.length) (hle : ¬ b < a) : i < b.length := by
  induction i generalizing a b with
  | zero =>
    cases b with
    | nil => cases a with
      | nil => simp at ha
      | cons x a => exact absurd (List.nil_lt_cons _ _) hle
    | cons y b => simp
  | succ i ih =>
    cases a with
    | nil => simp at ha
    | cons x a =>
      cases b with
      | nil => exact absurd (List.nil_lt_cons _ _) hle
      | cons y b =>
        simp only [List.take_succ_cons, List.cons.injEq] at h
        obtain ⟨e, h⟩ := h
        subst e
        rw [List.cons_lt_cons_iff] at hle
        have := ih h (by simpa using ha) fun q => hle (.inr ⟨rfl, q⟩)
        simpa using this
end Mine

namespace Mine
open PySem PySem.W PyProof.Rows PySem.Calls
set_option Elab.async false
set_option maxRecDepth 100000
set_option linter.unusedVariables false

/-- the parts of a text's statements -/
def stAt : List Stmt → Nat → Stmt
  | a :: _, 0 => a
  | _ :: r, n + 1 => stAt r n
  | [], _ => .Pass ⟨0, 0, 0, 0⟩
def fnB : Stmt → List Stmt
  | .FunctionDef _ _ body .. => body
  | _ => []
def fnP : Stmt → Arguments
  | .FunctionDef _ p .. => p
  | _ => ⟨[], [], none, [], [], none, []⟩
def fnN : Stmt → List (Str × NameKind)
  | .FunctionDef _ _ _ _ _ _ sc .. => sc.names
  | _ => []
def fnS (st : Stmt) (more : List (Str × Const)) : Scope := ⟨.function, fnN st, false, false, more⟩

/-- a def of the text's stands in the module -/
def Stands (X : Cx) (f : Str) (st : Stmt) : Prop := ∃ m, IsDef X f (fnP st) (fnB st) (fnS st m)

theorem upd_same {x y : Str} {lv : LV} {τ : Sto} (h : x = y) : (upd x lv τ).lookup y = some lv := by rw [lookup_upd, if_pos h.symm]
theorem upd_other {x y : Str} {lv : LV} {τ : Sto} {r : Option LV} (h : x ≠ y) (e : τ.lookup y = r) : (upd x lv τ).lookup y = r := by rw [lookup_upd, if_neg (Ne.symm h), e]

section
variable {X : Cx} {k : Nat} {sc : Scope} {σ τ : Sto}

/-- isinstance(e, (list, tuple)) -/
theorem Ev.isin {f a b : Str} {p pa pb pt pos : Pos} {n : Nat} {e : Expr} {d : Dat} {Tx : String} {b1 b2 : Bool} (hf : EvP X k sc σ (.Name f p) fun _ u => u = .builtin "isinstance") (he : Ev X k sc σ e d)
    (h1 : EvP X k sc σ (.Name a pa) fun _ u => u = .type "list") (h2 : EvP X k sc σ (.Name b pb) fun _ u => u = .type "tuple")
    (hty : ∀ g v s, Rep g v d → Sub g s.heap → Shared.TypeIs s v Tx) (ha : ∀ (g : Heap) (x : Value), Rep g x d → AnswersAll (fun s => s.TypeIs x Tx) x [.type "list", .type "tuple"] [b1, b2]) (hp : plainE e = true := by rfl) :
    Ev X k sc σ (.Call (.Name f p) [e, .Tuple [.Name a pa, .Name b pb] n pt] [] pos) (.bool (b1 || b2)) := by
  intro A env g s E rm o bs q
  refine wpAny_Call_NameR (wp_ev (hf A env g s E rm o bs q) fun u g1 s1 k1 x1 p1 => ?_)
  subst p1
  refine callWith_of (P := fun h => True) (by rw [plain_any pos env (es := [e, .Tuple [.Name a pa, .Name b pb] n pt]) (by rw [List.all_cons, hp]; rfl)]; rfl) (fun h _ => ⟨.machine, .inr (.inl rfl), Looks.of_pure rfl⟩) ?_
  rw [starEach_plain hp]
  refine evalArgs_plain (spliced_cons (wp_ev (he A env g1 s1 E rm o (bs.trans x1.gg) (q.step x1)) fun v g2 s2 k2 x2 p2 => ?_))
  have bs2 := (bs.trans x1.gg).trans x2.gg
  have q2 := (q.step x1).step x2
  rw [starEach_plain (e := .Tuple [.Name a pa, .Name b pb] n pt) rfl]
  show wpAny _ _ (spliced ((false, eval (.Tuple [.Name a pa, .Name b pb] n pt) env) :: backTo pos (starEach [] env))) _ _ _
  refine spliced_cons (Tuple_ ?_)
  rw [starEach_plain (e := .Name a pa) rfl, starEach_plain (e := .Name b pb) rfl]
  show wpAny _ _ (spliced ((false, eval (.Name a pa) env) :: (false, eval (.Name b pb) env) :: backTo pt (starEach [] env))) _ _ _
  refine spliced_cons (wp_ev (h1 A env g2 s2 E rm o bs2 q2) fun v1 g3 s3 k3 x3 p3 => spliced_cons (wp_ev (h2 A env g3 s3 E rm o (bs2.trans x3.gg) (q2.step x3)) fun v2 g4 s4 k4 x4 p4 => wpAny_items_nil ?_))
  subst p3; subst p4
  refine wpAny_newObj_type (wpAny_items_nil ⟨trivial, ?_⟩)
  have x5 := step_push (o := { cls := .type "tuple", data := .seq (List.toArray [Value.type "list", Value.type "tuple"]) }) (x1.trans (x2.trans (x3.trans x4)))
  have k5 : Keeps s { s4 with heap := s4.heap.push { cls := .type "tuple", data := .seq (List.toArray [Value.type "list", Value.type "tuple"]) } } := kp_trans k1 (kp_trans k2 (kp_trans k3 (kp_trans k4 (kp_mk (Sub.push .rfl _)))))
  refine IsiPair.tupleOfB (Tx := Tx) (b := b1 || b2) (ha g2 v p2) (hty g2 v _ p2 ((x2.gh.trans (x3.hh.trans x4.hh)).trans (Sub.push .rfl _))) (Heap.get?_push_size _ rfl) (by cases b1 <;> cases b2 <;> rfl) fun tk => ?_
  exact .trans k5 x5 (Post.tok x5.gh (.bool _))

/-- a kind of row: its data, its items, and what the language does with them -/
structure SeqK (X : Cx) (mk : List Int → Dat) (it : Int → Dat) (ok : List Int → Prop) : Prop where
  lt : ∀ {A : Around} {E : Value → Shared → Prop} {Q : Value → Shared → Prop} {s : Shared} {g : Heap} {u v : Value} {a b : List Int}, ok a → ok b → A.units < cLine → Sub g s.heap → Rep g u (mk a) → Rep g v (mk b) → Q (.bool (decide (a < b))) s → wpAny X.M A (richCompare .Lt u v) Q E s
  gt : ∀ {A : Around} {E : Value → Shared → Prop} {Q : Value → Shared → Prop} {s : Shared} {g : Heap} {u v : Value} {a b : List Int}, ok a → ok b → A.units < cLine → Sub g s.heap → Rep g u (mk a) → Rep g v (mk b) → Q (.bool (decide (b < a))) s → wpAny X.M A (richCompare .Gt u v) Q E s
  enum : ∀ (k : Nat) (g : Heap) (s : Shared) (v : Value) (a : List Int), ok a → Sub g s.heap → Rep g v (mk a) → EnumOf X k g s v (a.map it)
  item : ∀ {k : Nat} {sc : Scope} {σ : Sto} {z : Str} {pz : Pos} {y : Str} {p pos : Pos} {a : List Int} {i : Nat} {c : Int}, ok a → Ev X k sc σ (.Name z pz) (mk a) → Ev X k sc σ (.Name y p) (.int i) → a[i]? = some c → (i : Int) < 2 ^ 62 → Ev X k sc σ (.Subscript (.Name z pz) (.Name y p) pos) (it c)
  ne : ∀ (k : Nat) (a b : List Int) (i j : Int), ok a → ok b → i ∈ a → j ∈ b → Op2 X k (compareOp .NotEq) (it i) (it j) (.bool (i != j))
  slice : ∀ {k : Nat} {sc : Scope} {σ : Sto} {z : Str} {pz : Pos} {y : Str} {p ps pos : Pos} {a : List Int} {i : Nat}, ok a → Ev X k sc σ (.Name z pz) (mk a) → Ev X k sc σ (.Name y p) (.int i) → Ev X k sc σ (.Subscript (.Name z pz) (.Slice Option.none (Option.some (.Name y p)) Option.none ps) pos) (mk (a.take i))

/-- lists of ints -/
def dInts (ns : List Int) : List Dat := ns.map .int
def dList (ns : List Int) : Dat := .list (dInts ns)
/-- the rows stand in a list or a tuple -/
def Cont (mk : List Int → Dat) (rows : List (List Int)) (d : Dat) : Prop := d = .list (rows.map mk) ∨ d = .tuple (rows.map mk)
theorem rowAt_get {rows : List (List Int)} {mk : List Int → Dat} {i : Nat} {d : Dat} (h : (rows.map mk)[i]? = some d) : d = mk (rowAt rows i) ∧ rowAt rows i ∈ rows := by
  rw [List.getElem?_map] at h
  cases e : rows[i]? with
  | none => rw [e] at h; cases h
  | some r =>
    rw [e] at h
    have hr : rowAt rows i = r := by simp [rowAt, e]
    rw [hr]
    exact ⟨by cases h; rfl, List.mem_of_getElem? e⟩
variable {mk : List Int → Dat} {it : Int → Dat} {ok : List Int → Prop}
theorem op_min (K : SeqK X mk it ok) {rows : List (List Int)} {d : Dat} (hc : Cont mk rows d) (hn : rows ≠ []) (ho : ∀ r ∈ rows, ok r) : OpN X (k + 2) (fun vs => call (.builtin "min") vs) [d] fun g v => Rep g v (mk (minRow rows)) := by
  intro g s vs b0 kk r A E rm
  cases r with
  | cons r rn =>
    cases rn
    have hn' : 0 < (rows.map mk).length := by rw [List.length_map]; exact List.length_pos_iff.mpr hn
    refine wpAny_mono (min_iter (k := k) (bt := btLt rows) rm kk (iterOf_dat kk r hc) hn' ?_) (fun v s' x => x.mono fun g' ⟨d', e, r'⟩ => ?_) fun _ _ y => y
    · intro A' i j vi vj s' Q E' rm' kk' ⟨di, ei, ri⟩ ⟨dj, ej, rj⟩ hq
      obtain ⟨e1, m1⟩ := rowAt_get ei
      obtain ⟨e2, m2⟩ := rowAt_get ej
      subst e1; subst e2
      exact K.lt (ho _ m1) (ho _ m2) (by have := rm'.un; omega) kk' ri rj hq
    · rw [List.length_map] at e
      obtain ⟨e1, _⟩ := rowAt_get e
      subst e1
      exact r'
theorem op_max (K : SeqK X mk it ok) {rows : List (List Int)} {d : Dat} (hc : Cont mk rows d) (hn : rows ≠ []) (ho : ∀ r ∈ rows, ok r) : OpN X (k + 2) (fun vs => call (.builtin "max") vs) [d] fun g v => Rep g v (mk (maxRow rows)) := by
  intro g s vs b0 kk r A E rm
  cases r with
  | cons r rn =>
    cases rn
    have hn' : 0 < (rows.map mk).length := by rw [List.length_map]; exact List.length_pos_iff.mpr hn
    refine wpAny_mono (max_iter (k := k) (bt := btGt rows) rm kk (iterOf_dat kk r hc) hn' ?_) (fun v s' x => x.mono fun g' ⟨d', e, r'⟩ => ?_) fun _ _ y => y
    · intro A' i j vi vj s' Q E' rm' kk' ⟨di, ei, ri⟩ ⟨dj, ej, rj⟩ hq
      obtain ⟨e1, m1⟩ := rowAt_get ei
      obtain ⟨e2, m2⟩ := rowAt_get ej
      subst e1; subst e2
      exact K.gt (ho _ m1) (ho _ m2) (by have := rm'.un; omega) kk' ri rj hq
    · rw [List.length_map] at e
      obtain ⟨e1, _⟩ := rowAt_get e
      subst e1
      exact r'
end
end Mine

namespace Mine
open PySem PySem.W PyProof.Rows PySem.Calls
set_option Elab.async false
set_option maxRecDepth 100000
set_option linter.unusedVariables false

section
variable {X : Cx} {k : Nat} {sc : Scope} {σ τ : Sto}
/-- the least of whole numbers -/
def minI (ns : List Int) : Int := ns.getD (argBest (fun i j => decide (ns.getD i 0 < ns.getD j 0)) (ns.length - 1)) 0
theorem minI_le {ns : List Int} {x : Int} (h : x ∈ ns) : minI ns ≤ x := by
  obtain ⟨i, hi, rfl⟩ := List.getElem_of_mem h
  have := argBest_spec (bt := fun i j => decide (ns.getD i 0 < ns.getD j 0)) (fun i j k h1 h2 => by simp only [decide_eq_true_eq] at *; omega) (fun i => by simp) (ns.length - 1) i (by omega)
  simp only [decide_eq_false_iff_not] at this
  have e : ns.getD i 0 = ns[i] := by simp [hi]
  rw [e] at this
  unfold minI
  omega
theorem best_mem {ns : List Int} (bt : Nat → Nat → Bool) (h : ns ≠ []) : ns.getD (argBest bt (ns.length - 1)) 0 ∈ ns := by
  have h0 : 0 < ns.length := List.length_pos_iff.mpr h
  have h1 := argBest_le bt (ns.length - 1)
  have h2 : argBest bt (ns.length - 1) < ns.length := by omega
  have e : ns.getD (argBest bt (ns.length - 1)) 0 = ns[argBest bt (ns.length - 1)] := by simp [h2]
  rw [e]
  exact List.getElem_mem h2
theorem minI_mem {ns : List Int} (h : ns ≠ []) : minI ns ∈ ns := best_mem _ h
theorem dInts_get {ns : List Int} {i : Nat} {d : Dat} (h : (dInts ns)[i]? = some d) : d = .int (ns.getD i 0) := by
  unfold dInts at h
  rw [List.getElem?_map] at h
  cases e : ns[i]? with
  | none => rw [e] at h; cases h
  | some r =>
    rw [e] at h
    cases h
    simp [e]
theorem minI_iter {g : Heap} {s : Shared} {xv : Value} {ns : List Int} {A : Around} {E : Value → Shared → Prop} (rm : Room A (k + 2)) (kk : Sub g s.heap) (hit : IterOf X k g s xv (dInts ns)) (hn : ns ≠ []) : wpAny X.M A (call (.builtin "min") [xv]) (Post g s fun g' v => Rep g' v (.int (minI ns))) E s := by
  have hn' : 0 < (dInts ns).length := by unfold dInts; rw [List.length_map]; exact List.length_pos_iff.mpr hn
  refine wpAny_mono (min_iter (k := k) (bt := fun i j => decide (ns.getD i 0 < ns.getD j 0)) rm kk hit hn' ?_) (fun v s' x => x.mono fun g' ⟨d', e, r'⟩ => ?_) fun _ _ y => y
  · intro A' i j vi vj s' Q E' rm' kk' ⟨di, ei, ri⟩ ⟨dj, ej, rj⟩ hq
    rw [dInts_get ei] at ri
    rw [dInts_get ej] at rj
    cases ri; cases rj
    exact PyProof.Rows.lt_int hq
  · have e' := dInts_get e
    unfold dInts at e'
    rw [List.length_map] at e'
    rw [e'] at r'
    exact r'
theorem op_minI {ns : List Int} {d : Dat} (hd : d = .list (dInts ns) ∨ d = .tuple (dInts ns)) (hn : ns ≠ []) : OpN X (k + 2) (fun vs => call (.builtin "min") vs) [d] fun g v => Rep g v (.int (minI ns)) := by
  intro g s vs b0 kk r A E rm
  cases r with
  | cons r rn =>
    cases rn
    exact minI_iter rm kk (iterOf_dat kk r hd) hn
end
end Mine

namespace Mine
open PySem PySem.W PyProof.Rows PySem.Calls
set_option Elab.async false
set_option maxRecDepth 100000
set_option linter.unusedVariables false

theorem Caps.nil {sc scope : Scope} {τ : Sto} : Caps sc scope τ [] := ⟨fun y d e => by simp at e, fun y u e => by simp at e, fun y P mp e => by simp at e⟩
theorem Caps.cons {sc scope : Scope} {τ cap : Sto} {y : Str} {d : Dat} (e : τ.lookup y = some (.dat d)) (r : Caps sc scope τ cap) (h1 : ((y, NameKind.free) ∈ scope.names) := by decide) (h2 : scope.names.lookup y = some .free := by rfl)
    (h3 : sc.names.lookup y = some .cell := by rfl) : Caps sc scope τ ((y, .dat d) :: cap) := by
  refine ⟨fun z d' h => ?_, fun z u h => ?_, fun z P mp h => ?_⟩
  · rw [List.lookup_cons] at h
    by_cases q : z = y
    · subst q
      simp only [beq_self_eq_true] at h
      cases h
      exact ⟨e, h1, h2, h3⟩
    · have : (z == y) = false := by simpa using q
      rw [this] at h
      exact r.sub z d' h
  · rw [List.lookup_cons] at h
    by_cases q : z = y
    · subst q
      simp only [beq_self_eq_true] at h
      cases h
    · have : (z == y) = false := by simpa using q
      rw [this] at h
      exact r.noval z u h
  · rw [List.lookup_cons] at h
    by_cases q : z = y
    · subst q
      simp only [beq_self_eq_true] at h
      cases h
    · have : (z == y) = false := by simpa using q
      rw [this] at h
      exact r.obj z P mp h
theorem Caps.consObj {sc scope : Scope} {τ cap : Sto} {y : Str} {P : Addr → Obj → Heap → Prop} {mp} (e : τ.lookup y = some (.obj P mp)) (r : Caps sc scope τ cap) (h1 : ((y, NameKind.free) ∈ scope.names) := by decide) (h2 : scope.names.lookup y = some .free := by rfl)
    (h3 : sc.names.lookup y = some .cell := by rfl) : Caps sc scope τ ((y, .obj P mp) :: cap) := by
  refine ⟨fun z d' h => ?_, fun z u h => ?_, fun z P' mp' h => ?_⟩
  · rw [List.lookup_cons] at h
    by_cases q : z = y
    · subst q
      simp only [beq_self_eq_true] at h
      cases h
    · have : (z == y) = false := by simpa using q
      rw [this] at h
      exact r.sub z d' h
  · rw [List.lookup_cons] at h
    by_cases q : z = y
    · subst q
      simp only [beq_self_eq_true] at h
      cases h
    · have : (z == y) = false := by simpa using q
      rw [this] at h
      exact r.noval z u h
  · rw [List.lookup_cons] at h
    by_cases q : z = y
    · subst q
      simp only [beq_self_eq_true] at h
      cases h
      exact ⟨e, h1, h2, h3⟩
    · have : (z == y) = false := by simpa using q
      rw [this] at h
      exact r.obj z P' mp' h

section
variable {X : Cx} {k : Nat} {sc scope : Scope} {τ cap : Sto} {α : Type} {l : List α} {toD f : α → Dat} {p : α → Bool}
theorem elts_map {x : Str} {elt : Expr} (el : ∀ a ∈ l, Ev X k (relabelS scope sc) ((x, .dat (toD a)) :: cap) elt (f a)) : Elts X k sc scope cap x [] elt (l.map toD) (l.map fun a => some (f a)) where
  len := by simp
  some_ := fun i d y h1 h2 => by
    rw [List.getElem?_map] at h1 h2
    cases e : l[i]? with
    | none => rw [e] at h1; cases h1
    | some a =>
      rw [e] at h1 h2
      cases h1; cases h2
      exact ⟨.inl ⟨rfl, rfl⟩, el a (List.mem_of_getElem? e)⟩
  none_ := fun i d h1 h2 => by
    rw [List.getElem?_map] at h2
    cases e : l[i]? with
    | none => rw [e] at h2; cases h2
    | some a => rw [e] at h2; cases h2
theorem elts_filt {x : Str} {c elt : Expr} (ht : ∀ a ∈ l, EvT X k (relabelS scope sc) ((x, .dat (toD a)) :: cap) c (p a)) (el : ∀ a ∈ l, p a = true → Ev X k (relabelS scope sc) ((x, .dat (toD a)) :: cap) elt (f a)) :
    Elts X k sc scope cap x [c] elt (l.map toD) (l.map fun a => if p a then some (f a) else none) where
  len := by simp
  some_ := fun i d y h1 h2 => by
    rw [List.getElem?_map] at h1 h2
    cases e : l[i]? with
    | none => rw [e] at h1; cases h1
    | some a =>
      rw [e] at h1 h2
      cases h1
      have hm := List.mem_of_getElem? e
      cases hp : p a with
      | false => simp [hp] at h2
      | true =>
        simp [hp] at h2
        subst h2
        exact ⟨.inr ⟨c, rfl, hp ▸ ht a hm⟩, el a hm hp⟩
  none_ := fun i d h1 h2 => by
    rw [List.getElem?_map] at h1 h2
    cases e : l[i]? with
    | none => rw [e] at h1; cases h1
    | some a =>
      rw [e] at h1 h2
      cases h1
      have hm := List.mem_of_getElem? e
      cases hp : p a with
      | false => exact .inr ⟨c, rfl, hp ▸ ht a hm⟩
      | true => simp [hp] at h2
theorem fm_map : ∀ (l : List α), (l.map fun a => some (f a)).filterMap id = l.map f
  | [] => rfl
  | a :: l => by simp
theorem fm_filt : ∀ (l : List α), (l.map fun a => if p a then some (f a) else none).filterMap id = (l.filter p).map f
  | [] => rfl
  | a :: l => by
    rw [List.map_cons, List.filterMap_cons, fm_filt l]
    cases h : p a <;> simp [h]
theorem Ev.compMap {x : Str} {px pos : Pos} {elt iter : Expr} (hit : Its X k sc τ iter (l.map toD)) (cap : Sto) (c : CompOk sc scope) (cp : Caps sc scope τ cap) (hx : scope.names.lookup x = some .local)
    (el : ∀ a ∈ l, Ev X k (relabelS scope sc) ((x, .dat (toD a)) :: cap) elt (f a)) (hz : l.length ≤ sizeLine) : Ev X k sc τ (.ListComp elt [⟨.Name x px, iter, [], 0⟩] scope pos) (.list (l.map f)) :=
  (Ev.comp hit cap c cp hx (elts_map el) (by simpa using hz)).to (by rw [fm_map])
theorem Ev.compFilt {x : Str} {px pos : Pos} {t elt iter : Expr} (hit : Its X k sc τ iter (l.map toD)) (cap : Sto) (c : CompOk sc scope) (cp : Caps sc scope τ cap) (hx : scope.names.lookup x = some .local)
    (ht : ∀ a ∈ l, EvT X k (relabelS scope sc) ((x, .dat (toD a)) :: cap) t (p a)) (el : ∀ a ∈ l, p a = true → Ev X k (relabelS scope sc) ((x, .dat (toD a)) :: cap) elt (f a)) (hz : l.length ≤ sizeLine) :
    Ev X k sc τ (.ListComp elt [⟨.Name x px, iter, [t], 0⟩] scope pos) (.list ((l.filter p).map f)) :=
  (Ev.comp hit cap c cp hx (elts_filt ht el) (by simpa using hz)).to (by rw [fm_filt])
theorem Ex.assignCompFilt {x y : Str} {px py pos spos : Pos} {t elt iter : Expr} {R : Out → Prop} (hit : Its X k sc τ iter (l.map toD)) (cap : Sto) (c : CompOk sc scope) (cp : Caps sc scope τ cap) (hx : scope.names.lookup x = some .local)
    (ht : ∀ a ∈ l, EvT X k (relabelS scope sc) ((x, .dat (toD a)) :: cap) t (p a)) (el : ∀ a ∈ l, p a = true → Ev X k (relabelS scope sc) ((x, .dat (toD a)) :: cap) elt (f a)) (hz : l.length ≤ sizeLine)
    (hr : R (.next (upd y (.dat (.list ((l.filter p).map f))) τ))) (hy : sc.names.lookup y = some .local)
    (hsw : ∀ env : Env, env.scope.kind = .function → env.scope.names.lookup y = some .local → swapsWith (.ListComp elt [⟨.Name x px, iter, [t], 0⟩] scope pos) (some (.Name y py)) spos.line env = pure true) :
    Ex X k sc τ (exec (.Assign [.Name y py] (.ListComp elt [⟨.Name x px, iter, [t], 0⟩] scope pos) spos)) R :=
  Ex.assignComp hit cap c cp hx (elts_filt ht el) (by simpa using hz) (by rw [fm_filt]; exact hr) hy hsw
theorem CompOk.of {sc scope : Scope} (h1 : scope.kind = .function := by rfl) (h2 : ∀ y ∈ scope.names, y.2 ≠ .cell := by decide) (h3 : (scope.names.all fun y => !(y.2 == .free) || sc.names.lookup y.1 == some .cell) = true := by rfl)
        (h4 : ∀ y ∈ scope.names, y.2 = .local → scope.names.lookup y.1 = some .local := by decide) (h5 : ∀ y ∈ scope.names, y.2 = .free → scope.names.lookup y.1 = some .free := by decide) : CompOk sc scope := ⟨h1, h2, fun y hy hf => by
    have := List.all_eq_true.mp h3 y hy
    rw [hf] at this
    simpa using this, h4, h5⟩
theorem swaps_comp {env : Env} {y : Str} {elt : Expr} {gens : List Comprehension} {py pos : Pos} {line : Nat} (hk : env.scope.kind = .function) (hl : env.scope.names.lookup y = some .local) (hline : (py.line == pos.line) = true := by rfl)
    (hn : (scope.names.any fun (n, k) => n == y && (k == .local || k == .cell)) = false := by rfl) : swapsWith (.ListComp elt gens scope pos) (some (.Name y py)) line env = pure true := by
  show (pure (env.blockKind == .function && env.kindOf y == some .local && py.line == (Expr.ListComp elt gens scope pos).pos.line && !(scope.names.any fun (n, k) => n == y && (k == .local || k == .cell))) : Sem Bool) = pure true
  have e1 : env.blockKind = .function := by
    unfold Env.blockKind; rw [hk]; rfl
  have e2 : env.kindOf y = some .local := hl
  have e3 : (py.line == (Expr.ListComp elt gens scope pos).pos.line) = true := hline
  rw [e1, e2, e3, hn]
  rfl
end
end Mine

namespace Mine
open PySem PySem.W PyProof.Rows PySem.Calls
set_option Elab.async false
set_option maxRecDepth 100000
set_option linter.unusedVariables false

theorem repAll_of_well {P : Params} {h : Heap} : ∀ {ns : List Int} {vs : List Value}, WellAll P h vs (ofPys (ns.map PyData.int)) → RepAll h vs (dInts ns)
  | [], _, .nil => .nil
  | n :: ns, _, .cons (.int _ t) r => .cons (.int _ t) (repAll_of_well r)
theorem rep_of_well {P : Params} {h : Heap} {l : Addr} {ns : List Int} (w : Well P h (.ref l) (ofPy (PyData.list (ns.map PyData.int)))) : Rep h (.ref l) (dList ns) := by
  have e : ofPy (PyData.list (ns.map PyData.int)) = .list (ofPys (ns.map PyData.int)) := by unfold ofPy; rfl
  rw [e] at w
  cases w with
  | list ho r => exact .list ⟨_, ho⟩ (repAll_of_well r)

theorem law_ends {X : Cx} {k : Nat} {f : Str} {ns : List Int} {c : ClaimW} {cl : Str → Option Addr} {mean : ExcName → Option Value} {args : List WData} {s₁ : Shared} {fa l : Addr} {A : Around} {E : Value → Shared → Prop}
    (hf : FnD X k f [dList ns] (.bool true)) (hfa : X.mg f = some (.ref fa)) (hX : X.h0 = s₁.heap) (r : Rep s₁.heap (.ref l) (dList ns)) (hg : s₁.gens = #[]) (rm : Room A k)
    (hr : ∀ cls, c.raises args cls = false) (hp : c.post args (.bool true) args = true) :
    wpAny X.M A (call (.ref fa) [.ref l]) (fun v s' => GoodWG c cl mean args s₁ (.ok (.ret v)) s') E s₁ := by
  obtain ⟨a, o, fd, h1, h2, h3, hop⟩ := hf
  have e : a = fa := by rw [hfa] at h1; cases h1; rfl
  subst e
  refine wpAny_mono (hop s₁.heap s₁ [.ref l] (hX ▸ .rfl) .rfl (.one r) A E rm) (fun v s' x => ?_) fun _ _ y => y
  obtain ⟨k1, g', x1, p⟩ := x
  cases p
  obtain ⟨h', tk, rfl, kp⟩ := k1
  exact GoodW.toG ⟨.inl ⟨_, .bool true, [], rfl, hr, .bool true, hp, fun _ => ⟨List.nodup_nil, fun _ h => (nomatch h)⟩⟩, kp, rfl, hg⟩
theorem free_of {p : Program} {loose : List Str} {mean : ExcName → Option Value} {mg mb : Str → Option Value} {h : Heap} (T : Top p loose mean mg mb h) (x : Str)
    (hx : decide (x ∉ startupNames ∧ x ∉ loose ∧ x ∉ (recsOf p).map (·.name) ∧ x ∉ (litsOf p).map (·.1) ∧ x ∉ (clssOf p loose).map (·.name)) = true) : mg x = none := by
  obtain ⟨h1, h2, h3, h4, h5⟩ := of_decide_eq_true hx
  exact T.free x h1 h2 h3 h4 h5
theorem fn_of {p : Program} {loose : List Str} {mean : ExcName → Option Value} {mg mb : Str → Option Value} {h : Heap} (T : Top p loose mean mg mb h) (x : Str) {d : DefRec} (hd : (recsOf p).find? (fun d => decide (d.name = x)) = some d) :
    ∃ a o pm code doc, mg d.name = some (.ref a) ∧ h.get? a = some o ∧ o.data = .func (docDef d.name d.params d.body d.scope pm code doc) ∧ h.CodeRec code d.name := T.fn d (List.mem_of_find?_eq_some hd)
end Mine

namespace Mine
open PySem PySem.W PyProof.Rows PySem.Calls
set_option Elab.async false
set_option maxRecDepth 100000
set_option linter.unusedVariables false

theorem slot_map_next : Slot "map" "__next__" "map.__next__" :=
  .of (owner := "map") (n := "__next__") (by rw [typeLookup_type, builtinLookup_eq_fast]; kernel_rfl) (by decide +kernel) (by decide +kernel) (by decide +kernel)
    (by first | exact .inl (by decide +kernel) | exact .inr (by decide +kernel)) (by rw [isSubtype_type]; kernel_rfl)
theorem slot_map_iter : Slot "map" "__iter__" "map.__iter__" :=
  .of (owner := "map") (n := "__iter__") (by rw [typeLookup_type, builtinLookup_eq_fast]; kernel_rfl) (by decide +kernel) (by decide +kernel) (by decide +kernel)
    (by first | exact .inl (by decide +kernel) | exact .inr (by decide +kernel)) (by rw [isSubtype_type]; kernel_rfl)
theorem slot_map_init : Slot "map" "__init__" "object.__init__" :=
  .of (owner := "object") (n := "__init__") (by rw [typeLookup_type, builtinLookup_eq_fast]; kernel_rfl) (by decide +kernel) (by decide +kernel) (by decide +kernel)
    (by first | exact .inl (by decide +kernel) | exact .inr (by decide +kernel)) (by rw [isSubtype_type]; kernel_rfl)
theorem entry_map_next : entryFor table "map.__next__" = some Builtin.«map.__next__» := entryFor_of_tree (by kernel_rfl)
theorem entry_map_new : entryFor table "map.__new__" = some Builtin.«map.__new__» := entryFor_of_tree (by kernel_rfl)
theorem entry_map_iter : entryFor table "map.__iter__" = some Builtin.«dict_keyiterator.__iter__» :=
  entryFor_alias (id' := "dict_keyiterator.__iter__") (by kernel_rfl) (by first | rfl | decide +kernel | (unfold String.splitOn; simp +decide [String.splitOnAux])) (by decide +kernel) (by kernel_rfl)
theorem args_map_next (a : Value) : argsOk "map.__next__" ⟨[a], []⟩ := by unfold argsOk; kernel_rfl
theorem args_map_iter (a : Value) : argsOk "map.__iter__" ⟨[a], []⟩ := by unfold argsOk; kernel_rfl
theorem mro_map : mroOf (.type "map") = pure [.type "map", .type "object"] := by rw [mroOf_type]; kernel_rfl
theorem lookup_map_new : typeLookup (.type "map") "__new__" = pure (some (.builtin "map.__new__")) := by rw [typeLookup_type, builtinLookup_eq_fast]; kernel_rfl
theorem called_map : TypeCalled "map" "map.__new__" "object.__init__" :=
  ⟨by decide +kernel, by decide +kernel, ⟨_, _, mro_map⟩, madeBy_type mro_map lookup_map_new (by decide +kernel), by decide +kernel, by rw [isSubtype_type]; kernel_rfl, slot_map_init⟩
theorem typeCall_map (a b : Value) : checkTypeCall "map" ⟨[a, b], []⟩ = pure () := by kernel_rfl
theorem newCall_map (a b : Value) : checkBuiltinCall "map.__new__" ⟨[.type "map", a, b], []⟩ = pure () := by kernel_rfl
theorem nolen_map : typeLookup (.type "map") "__len__" = pure none := by rw [typeLookup_type, builtinLookup_eq_fast]; kernel_rfl
theorem nohint_map : typeLookup (.type "map") "__length_hint__" = pure none := by rw [typeLookup_type, builtinLookup_eq_fast]; kernel_rfl
theorem sub_map : isSubtype (.type "map") (.type "map") = pure true := by rw [isSubtype_type]; kernel_rfl
theorem meets_map_new (f : Value) (l : Addr) (items : Array Value) (n : Nat) (dct : Option Addr) (sl : Array (Option Value)) :
    Meets (Builtin.«map.__new__» ⟨[.type "map", f, .ref l], []⟩) (fun _ R s => s.heap.get? l = some { cls := .type "list", dict := dct, data := .seq items n, slots := sl } ∧
      R (.ok (.ret (.ref ((s.heap.push { cls := .type "list_iterator", data := .fields #[.ref l, .int 0 0] }).push { cls := .type "tuple", data := .seq #[.ref s.heap.objs.size] }).objs.size)))
        { s with heap := ((s.heap.push { cls := .type "list_iterator", data := .fields #[.ref l, .int 0 0] }).push { cls := .type "tuple", data := .seq #[.ref s.heap.objs.size] }).push { cls := .type "map", data := .fields #[.ref (s.heap.push { cls := .type "list_iterator", data := .fields #[.ref l, .int 0 0] }).objs.size, f] } }) :=
  .of_wp fun prog w A R s h => by
    obtain ⟨hp, g, d, tk, os⟩ := s; obtain ⟨hl, h⟩ := h
    have hsub := sub_map
    have hL : Heap.IsList (Shared.heap ⟨hp, g, d, tk, os⟩) l items := ⟨_, hl, rfl, n, rfl⟩
    wp_walk using wpAny_loadPart' hl, wpAny_pyIter_list hL
    exact ⟨_, rfl, h⟩

/-- a map over a list, as it stands -/
structure IsMap (h : Heap) (M T I l : Addr) (f : Value) (i : Nat) (items : Array Value) : Prop where
  m : h.get? M = some { cls := .type "map", data := .fields #[.ref T, f] }
  t : h.get? T = some { cls := .type "tuple", data := .seq #[.ref I] }
  it : h.IsListIter I l i
  l : h.IsList l items

theorem map_next {prog : Program} {w : World} {A : Around} {E : Value → Shared → Prop} {s : Shared} {M T I l : Addr} {f : Value} {i : Nat} {items : Array Value} {u : Value} {R : PySem.Fin → Shared → Prop} (hm : IsMap s.heap M T I l f i items) (hu : items[i]? = some u) (hMI : M ≠ I)
    (h : ∀ h', h'.IsListIter I l (i + 1) → Heap.SameBut I s.heap h' → wpAny (model prog w) A (call f [u]) (fun v s' => R (.done (.ret v)) s') E { s with heap := h' }) :
    wpAny (model prog w) A (Builtin.«map.__next__» ⟨[.ref M], []⟩) R E s := by
  obtain ⟨hp, g, d, tk, os⟩ := s
  show wpAny _ _ (field (.ref M) 0 >>= _) _ _ _
  refine wpAny_bind (wpAny_field hm.m rfl (x := .ref T) rfl ?_)
  refine wpAny_bind (wpAny_seqItems hm.t rfl ?_)
  show wpAny _ _ (forIn #[Value.ref I] (#[] : Array Value) _ >>= _) _ _ _
  rw [← Array.forIn_toList]
  rw [List.forIn_cons]
  refine wpAny_bind (wpAny_bind (wpAny_bind (wpAny_holding (wpAny_nextOf_list_item hm.it hm.l hu fun h' hit hs => wpAny_pure ?_))))
  show wpAny _ _ (forIn ([] : List Value) _ _) _ _ _
  rw [List.forIn_nil]
  refine wpAny_pure ?_
  have hm' : h'.get? M = _ := (hs.2 M hMI).trans hm.m
  refine wpAny_bind (wpAny_field hm' rfl (x := f) rfl ?_)
  refine wpAny_bind (wpAny_holding (wpAny_mono (h h' hit hs) (fun v s' q => ?_) fun _ _ e => e))
  exact wpAny_bind (wpAny_letGo (wpAny_pure q))
theorem map_end {prog : Program} {w : World} {A : Around} {E : Value → Shared → Prop} {s : Shared} {M T I l : Addr} {f : Value} {items : Array Value} {R : PySem.Fin → Shared → Prop} (hh : A.handled = none) (hm : IsMap s.heap M T I l f items.size items)
    (h : ∀ h' e, Heap.ExtBut I s.heap h' → (∃ o, h'.get? e = some o ∧ o.cls = .type "StopIteration") → E (.ref e) { s with heap := h' }) :
    wpAny (model prog w) A (Builtin.«map.__next__» ⟨[.ref M], []⟩) R E s := by
  obtain ⟨hp, g, d, tk, os⟩ := s
  show wpAny _ _ (field (.ref M) 0 >>= _) _ _ _
  refine wpAny_bind (wpAny_field hm.m rfl (x := .ref T) rfl ?_)
  refine wpAny_bind (wpAny_seqItems hm.t rfl ?_)
  show wpAny _ _ (forIn #[Value.ref I] (#[] : Array Value) _ >>= _) _ _ _
  rw [← Array.forIn_toList]
  rw [List.forIn_cons]
  exact wpAny_bind (wpAny_bind (wpAny_bind (wpAny_holding (wpAny_nextOf_list_end hh hm.it hm.l (by simp) h))))

theorem pyNext_map_item {prog : Program} {w : World} {A : Around} {E : Value → Shared → Prop} {s : Shared} {M T I l : Addr} {f : Value} {i : Nat} {items : Array Value} {u : Value} {Q : Option Value → Shared → Prop} (hm : IsMap s.heap M T I l f i items) (hu : items[i]? = some u) (hMI : M ≠ I)
    (h : ∀ h' E', h'.IsListIter I l (i + 1) → Heap.SameBut I s.heap h' → wpAny (model prog w) A.in1 (call f [u]) (fun v s' => Q (some v) s') E' { s with heap := h' }) : wpAny (model prog w) A (pyNext (.ref M)) Q E s := by
  have hT : s.TypeIs (.ref M) "map" := ⟨_, hm.m, rfl⟩
  unfold pyNext
  exact wpAny_bind (wpAny_attempt (wpAny_callSpecial?_slot (name := Str.ofString "__next__") hT slot_map_next
    (wpAny_call_entry slot_map_next hT entry_map_next (map_next hm hu hMI fun h' hit hs => wpAny_mono (h h' _ hit hs) (fun v s' q => ⟨v, rfl, wpAny_pure q⟩) fun _ _ e => e) (args_map_next _))))
theorem pyNext_map_end {prog : Program} {w : World} {A : Around} {E : Value → Shared → Prop} {s : Shared} {M T I l : Addr} {f : Value} {items : Array Value} {Q : Option Value → Shared → Prop} (hh : A.handled = none) (hm : IsMap s.heap M T I l f items.size items)
    (h : ∀ h', Heap.ExtBut I s.heap h' → Q none { s with heap := h' }) : wpAny (model prog w) A (pyNext (.ref M)) Q E s := by
  have hT : s.TypeIs (.ref M) "map" := ⟨_, hm.m, rfl⟩
  unfold pyNext
  refine wpAny_bind (wpAny_attempt (wpAny_callSpecial?_slot (name := Str.ofString "__next__") hT slot_map_next
    (wpAny_call_entry slot_map_next hT entry_map_next (map_end hh hm fun h' e hx he => ?_) (args_map_next _))))
  obtain ⟨o, ho, hc⟩ := he
  refine wpAny_bind (wpAny_isInstance (T := "StopIteration") (b := true) ⟨o, ho, hc⟩ isSubtype_stop ?_)
  exact wpAny_pure (h _ hx)
theorem pyIter_map {prog : Program} {w : World} {A : Around} {E : Value → Shared → Prop} {s : Shared} {M T : Addr} {f : Value} {Q : Value → Shared → Prop} (hm : s.heap.get? M = some { cls := .type "map", data := .fields #[.ref T, f] }) (h : Q (.ref M) s) : wpAny (model prog w) A (pyIter (.ref M)) Q E s := by
  have hT : s.TypeIs (.ref M) "map" := ⟨_, hm, rfl⟩
  refine wpAny_pyIter_slot hT slot_map_iter (wpAny_call_entry slot_map_iter hT entry_map_iter ?_ (args_map_iter _))
  show wpAny _ _ (ret (.ref M)) _ _ s
  exact wpAny_pure ⟨_, rfl, "map", _, hT, slot_map_next.lookup, h⟩

/-- the addresses of a heap's objects -/
def dom (h : Heap) : List Addr := (List.range h.objs.size).filter fun b => (h.get? b).isSome
theorem mem_dom {h : Heap} {b : Addr} : b ∈ dom h ↔ (h.get? b).isSome = true := by
  unfold dom
  rw [List.mem_filter]
  constructor
  · exact fun x => x.2
  · intro x
    refine ⟨List.mem_range.mpr ?_, x⟩
    obtain ⟨o, ho⟩ := Option.isSome_iff_exists.mp x
    exact Heap.lt_size ho

theorem mapWalks {prog : Program} {w : World} {A : Around} (hh : A.handled = none) {h0 : Heap} {M T I l : Addr} {f : Value} {items : Array Value} (P : Nat → Value → Prop) (hMI : M ≠ I) (hTI : T ≠ I) (hlI : l ≠ I) (h0I : h0.get? I = none)
    (hf : ∀ i u (s : Shared) (Q : Value → Shared → Prop) (E : Value → Shared → Prop), items[i]? = some u → Sub h0 s.heap → (∀ v s', P i v → Keeps s s' → Q v s') → wpAny (model prog w) A.in1 (call f [u]) Q E s) :
    Walks prog w A M (M :: T :: I :: l :: dom h0) [I] items.size P (fun i h => IsMap h M T I l f i items ∧ Sub h0 h) where
  sub := fun b hb => by rw [List.mem_singleton.mp hb]; simp
  frame := fun i h h' ⟨m, k⟩ hk => ⟨⟨hk M (by simp) _ m.m, hk T (by simp) _ m.t, m.it.at fun o e => hk I (by simp) o e, m.l.at fun o e => hk l (by simp) o e⟩, fun b o e => hk b (by
    have : b ∈ dom h0 := mem_dom.mpr (by rw [e]; rfl)
    simp [this]) o (k b o e)⟩
  item := fun i s Q E hi ⟨m, k⟩ hQ => by
    have hu : items[i]? = some items[i] := by simp [hi]
    refine pyNext_map_item m hu hMI fun h' E' hit hs => ?_
    have k' : Sub h0 h' := fun b o e => (hs.2 b (fun q => by rw [q, h0I] at e; cases e)).trans (k b o e)
    refine hf i _ _ _ _ hu k' fun v s' hP hk => ?_
    obtain ⟨h2, tk, rfl, kp⟩ := hk
    exact hQ v h2 tk hP ⟨⟨kp _ _ ((hs.2 M hMI).trans m.m), kp _ _ ((hs.2 T hTI).trans m.t), hit.at fun o e => kp _ _ e, (m.l.at fun o e => (hs.2 l hlI).trans e).at fun o e => kp _ _ e⟩, fun b o e => kp b o (k' b o e)⟩ fun b o hb e => kp b o ((hs.2 b (fun q => hb (by simp [q]))).trans e)
  done := fun s Q E ⟨m, k⟩ hQ => pyNext_map_end hh m fun h' hx => hQ h' s.toks fun b o hb e => hx b o (fun q => hb (by simp [q])) e
  self := fun i s Q E ⟨m, k⟩ hQ => pyIter_map m.m hQ
end Mine

namespace Mine
open PySem PySem.W PyProof.Rows PySem.Calls
set_option Elab.async false
set_option maxRecDepth 100000
set_option linter.unusedVariables false

/-- what a map hands out, gathered -/
theorem collect_map {prog : Program} {w : World} {A : Around} {E : Value → Shared → Prop} {s : Shared} {I : Addr} {fp wr : List Addr} {n : Nat} {P : Nat → Value → Prop} {St : Nat → Heap → Prop} {Q : List Value → Shared → Prop} (W : Walks prog w A.in1 I fp wr n P St)
    (hT : ∀ i (s : Shared), St i s.heap → s.TypeIs (.ref I) "map") (hst : St 0 s.heap) (hfp : ∀ b ∈ fp, b < s.heap.objs.size) (hI : I ∈ fp)
    (hQ : ∀ (h' : Heap) (tk : Tok) (acc : Array Value), (∀ b o, b ∉ wr → s.heap.get? b = some o → h'.get? b = some o) → ItemsOf P acc n → Q acc.toList { s with heap := h', toks := tk }) (hn : n ≤ sizeLine) : wpAny (model prog w) A (collect (.ref I)) Q E s := by
  have hSf : s.heap.objs.size ∉ fp := fun hm => Nat.lt_irrefl _ (hfp _ hm)
  have hSI : s.heap.objs.size ≠ I := fun e => hSf (e ▸ hI)
  have h1 : Builtin.List.listSameRef (.ref s.heap.objs.size) (.ref I) = false := by simp [Builtin.List.listSameRef, hSI]
  have h2 : (Value.type "map" == Value.type "list") = false := by decide
  have h3 : (Value.type "map" == Value.type "tuple") = false := by decide
  generalize hD : s.heap.objs.size = D at *
  unfold collect
  refine wpAny_bind (wpAny_runValue (codeAny_builtin F.entry_proto_collect ?_))
  rw [Around.under_plainId F.plain_proto_collect _]
  show wpAny _ A.in1 (newList [] >>= fun l => again (.builtin "list.__iadd__" ⟨[l, .ref I], []⟩)) _ _ s
  refine wpAny_bind (wpAny_newObj_type ?_)
  rw [hD]
  refine wpAny_pure ⟨plainId_quiet F.plain_list_iadd _, codeAny_builtin F.entry_list_iadd ?_⟩
  rw [Around.under_plainId F.plain_list_iadd _]
  have new : (s.heap.push { cls := .type "list", data := .seq ([] : List Value).toArray }).get? D = some { cls := .type "list", data := .seq ([] : List Value).toArray } := hD ▸ Heap.get?_push_size _ rfl
  have old : ∀ b o, s.heap.get? b = some o → (s.heap.push { cls := .type "list", data := .seq ([] : List Value).toArray }).get? b = some o := fun b o e => Heap.get?_push_of_some _ e
  generalize s.heap.push { cls := .type "list", data := .seq ([] : List Value).toArray } = H at new old ⊢
  have st1 := W.frame 0 s.heap H hst fun b _ o e => old b o e
  show wpAny _ A.in1 (Builtin.List.listExtendWith (.ref D) (.ref I) (.ref D)) _ _ _
  unfold Builtin.List.listExtendWith
  refine wpAny_bind (wpAny_typeOf (hT 0 { s with heap := H } st1) ?_)
  simp only [h1, h2, h3, Bool.or_false, Bool.false_eq_true, if_false]
  refine wpAny_bind (W.self 0 { s with heap := H } _ _ st1 ?_)
  refine wpAny_bind (wpAny_holding ?_)
  unfold Builtin.List.listLengthHint
  refine wpAny_bind (wpAny_specialOf (hT 0 { s with heap := H } st1) nolen_map ?_)
  show wpAny _ A.in1 (specialOf (Value.ref I) (Str.ofString "__length_hint__") >>= _) _ _ _
  refine wpAny_bind (wpAny_specialOf (hT 0 { s with heap := H } st1) nohint_map ?_)
  refine wpAny_pure ?_
  show wpAny _ A.in1 (rule "list.extend.makes-room" >>= fun _ => Builtin.List.listTouch (.ref D) >>= fun _ => again (.builtin "list.extend.loop" ⟨[.ref D, .ref I, .ref D], []⟩)) _ _ _
  refine wpAny_bind (wpAny_rule (wpAny_bind ?_))
  show wpAny _ A.in1 (updateSeq D (·.push .none) >>= fun _ => updateSeq D (·.pop)) _ _ _
  refine wpAny_bind (wpAny_updateSeq new rfl ?_)
  have new2 := Heap.get?_update_self (Obj.mapSeq (·.push Value.none)) new rfl
  refine wpAny_updateSeq new2 rfl ?_
  have new3 := Heap.get?_update_self (Obj.mapSeq (·.pop)) new2 rfl
  have oth : ∀ b o, b ≠ D → H.get? b = some o → ((H.update D (Obj.mapSeq (·.push Value.none))).update D (Obj.mapSeq (·.pop))).get? b = some o :=
    fun b o hb e => (Heap.get?_update_other _ _ (Ne.symm hb)).trans ((Heap.get?_update_other _ _ (Ne.symm hb)).trans e)
  refine wpAny_pure ⟨plainId_quiet F.plain_extend_loop _, codeAny_extend_loopS W.toS hn D hSf _ n 0 _ _ _ rfl (Nat.zero_le _) (W.frame 0 H _ st1 fun b hb o e => oth b o (fun q => hSf (q ▸ hb)) e) new3 (ItemsOf.nil P) fun s' acc' c' hm hS' hacc => ?_⟩
  show wpAny _ A (load D >>= _) _ _ s'
  refine wpAny_bind (wpAny_load hS' (wpAny_pure ?_))
  obtain ⟨h', g', d', tk', os'⟩ := s'
  have e1 : g' = s.gens := hm.gens
  have e2 : d' = s.drawn := hm.drawn
  have e3 : os' = s.os := hm.os
  subst e1 e2 e3
  exact hQ h' tk' acc' (fun b o hb e => by
    have hne : b ≠ D := fun q => by have := Heap.lt_size e; rw [q, ← hD] at this; exact Nat.lt_irrefl _ this
    exact hm.heap b o (fun q => (List.mem_cons.mp q).elim hne hb) (oth b o hne (old b o e))) hacc

theorem call_tuple_map {prog : Program} {w : World} {A : Around} {E : Value → Shared → Prop} {s : Shared} {I : Addr} {fp wr : List Addr} {n : Nat} {P : Nat → Value → Prop} {St : Nat → Heap → Prop} {Q : Value → Shared → Prop} (W : Walks prog w A.in1.in1.in1 I fp wr n P St)
    (hT : ∀ i (s : Shared), St i s.heap → s.TypeIs (.ref I) "map") (hst : St 0 s.heap) (hfp : ∀ b ∈ fp, b < s.heap.objs.size) (hI : I ∈ fp)
    (hQ : ∀ (h' : Heap) (tk : Tok) (acc : Array Value), (∀ b o, b ∉ wr → s.heap.get? b = some o → h'.get? b = some o) → ItemsOf P acc n → Q (.ref h'.objs.size) { s with heap := h'.push { cls := .type "tuple", data := .seq acc }, toks := tk }) (hn : n ≤ sizeLine) :
    wpAny (model prog w) A (call (.type "tuple") [.ref I]) Q E s := by
  refine callType_newIn (S := fun A' R s' => A' = A.in1 ∧ s' = s ∧ ∀ (h' : Heap) (tk : Tok) (acc : Array Value), (∀ b o, b ∉ wr → s.heap.get? b = some o → h'.get? b = some o) → ItemsOf P acc n → R (.ok (.ret (.ref h'.objs.size))) { s with heap := h'.push { cls := .type "tuple", data := .seq acc }, toks := tk })
    F.called_tuple (by decide) (F.typeCall_tuple_1 _) (F.newCall_tuple_1 _) (fun obj => F.args_object_init_2 obj _) F.entry_tuple_new (.of_wp fun A' R s' ⟨e1, e2, h⟩ => ?_) ⟨rfl, rfl, fun h' tk acc hk ha => ⟨⟨_, Heap.get?_push_size _ rfl, rfl⟩, hQ h' tk acc hk ha⟩⟩
  subst e1; subst e2
  have hsub := sub_tuple_self
  have hinit := init_tuple_lookup
  have hmh := madeHere_tuple
  have hTs := hT 0 s' hst
  wp_walk using wpAny_typeOf hTs, collect_map (hn := hn) W hT hst hfp hI
  intro h' tk acc hk ha
  show wpAny _ _ (Builtin.Tuple.tupleExact acc.toList.toArray >>= fun v => ret v) _ _ _
  unfold Builtin.Tuple.tupleExact
  refine wpAny_bind (wpAny_newObj_type ?_ (show acc.toList.toArray.size ≤ sizeLine by simp only [Array.toArray_toList]; rw [ha.1]; exact hn))
  refine wpAny_pure ⟨_, rfl, ?_⟩
  have e : acc.toList.toArray = acc := by simp
  rw [e]
  exact h h' tk acc hk ha

theorem call_map_list {prog : Program} {w : World} {A : Around} {E : Value → Shared → Prop} {s : Shared} {f : Value} {l : Addr} {items : Array Value} {Q : Value → Shared → Prop} (hL : s.heap.IsList l items)
    (h : ∀ h' : Heap, (∀ b o, s.heap.get? b = some o → h'.get? b = some o) → IsMap h' (s.heap.objs.size + 2) (s.heap.objs.size + 1) s.heap.objs.size l f 0 items → Q (.ref (s.heap.objs.size + 2)) { s with heap := h' }) :
    wpAny (model prog w) A (call (.type "map") [f, .ref l]) Q E s := by
  obtain ⟨⟨c, dct, dt, sl⟩, hl, hc, n, hd⟩ := id hL
  replace hc : c = .type "list" := hc
  replace hd : dt = .seq items n := hd
  subst hc hd
  refine callType_new called_map (by decide) (typeCall_map _ _) (newCall_map _ _) (fun obj => F.args_object_init_3 obj _ _) entry_map_new (meets_map_new f l items n dct sl) ⟨hl, ?_⟩
  have z1 : (s.heap.push { cls := .type "list_iterator", data := .fields #[.ref l, .int 0 0] }).objs.size = s.heap.objs.size + 1 := Heap.size_push ..
  show _ ∧ _
  rw [z1]
  have g1 := Heap.get?_push_size s.heap (o := { cls := .type "list_iterator", data := .fields #[.ref l, .int 0 0] }) rfl
  have k1 : ∀ b o, s.heap.get? b = some o → (s.heap.push { cls := .type "list_iterator", data := .fields #[.ref l, .int 0 0] }).get? b = some o := fun b o e => Heap.get?_push_of_some _ e
  generalize s.heap.push { cls := .type "list_iterator", data := .fields #[.ref l, .int 0 0] } = H1 at *
  have g2 := Heap.get?_push_size H1 (o := { cls := .type "tuple", data := .seq #[.ref s.heap.objs.size] }) rfl
  have z2 : (H1.push { cls := .type "tuple", data := .seq #[.ref s.heap.objs.size] }).objs.size = s.heap.objs.size + 2 := by rw [Heap.size_push, z1]
  have k2 : ∀ b o, H1.get? b = some o → (H1.push { cls := .type "tuple", data := .seq #[.ref s.heap.objs.size] }).get? b = some o := fun b o e => Heap.get?_push_of_some _ e
  rw [z1] at g2
  generalize H1.push { cls := .type "tuple", data := .seq #[.ref s.heap.objs.size] } = H2 at *
  have g3 := Heap.get?_push_size H2 (o := { cls := .type "map", data := .fields #[.ref (s.heap.objs.size + 1), f] }) rfl
  have k3 : ∀ b o, H2.get? b = some o → (H2.push { cls := .type "map", data := .fields #[.ref (s.heap.objs.size + 1), f] }).get? b = some o := fun b o e => Heap.get?_push_of_some _ e
  rw [z2] at g3 ⊢
  generalize H2.push { cls := .type "map", data := .fields #[.ref (s.heap.objs.size + 1), f] } = H3 at *
  exact ⟨⟨_, g3, rfl⟩, h H3 (fun b o e => k3 b o (k2 b o (k1 b o e))) ⟨g3, k3 _ _ g2, ⟨_, k3 _ _ (k2 _ _ g1), rfl, rfl⟩, let ⟨o, ho, r⟩ := hL; ⟨o, k3 _ _ (k2 _ _ (k1 _ _ ho)), r⟩⟩⟩

/-- data that hold no other object -/
def Flat : Dat → Prop
  | .str _ => True
  | .bytes _ => True
  | _ => False
theorem Rep.flat {g h : Heap} {v : Value} {d : Dat} (hd : Flat d) (r : Rep g v d) : Rep h v d := by
  cases r with
  | str x t => exact .str x t
  | bytes b t => exact .bytes b t
  | _ => exact hd.elim
theorem repAll_of {h : Heap} : ∀ {vs : List Value} {ds : List Dat}, vs.length = ds.length → (∀ (i : Nat) (v : Value), vs[i]? = some v → ∃ d, ds[i]? = some d ∧ Rep h v d) → RepAll h vs ds
  | [], [], _, _ => .nil
  | v :: vs, d :: ds, hl, hi => by
    obtain ⟨d', e, r⟩ := hi 0 v rfl
    have : d = d' := by simpa using e
    subst this
    exact .cons r (repAll_of (by simpa using hl) fun i u hu => hi (i + 1) u (by simpa using hu))

section
variable {X : Cx} {k : Nat} {sc : Scope} {σ : Sto}
/-- tuple(map(f, m)), f a def of the text's, m a list of texts or octets -/
theorem Ev.tupleMap {ft fm ff : Str} {pt pm pf p1 p2 : Pos} {em : Expr} {ds : List Dat} (ht : EvP X (k + 4) sc σ (.Name ft pt) fun _ u => u = .type "tuple") (hmn : EvP X (k + 4) sc σ (.Name fm pm) fun _ u => u = .type "map") (hm : Ev X (k + 4) sc σ em (.list ds))
    (hk : sc.names.lookup ff = some .globalImplicit) (hfl : ∀ d ∈ ds, Flat d) (hne : ds ≠ []) (hf : ∀ d ∈ ds, FnD X k ff [d] d) (hz : ds.length ≤ sizeLine) (hp : plainE em = true := by rfl)
    (hd : (ff == ("__debug__" : Str)) = false := by decide) : Ev X (k + 4) sc σ (.Call (.Name ft pt) [.Call (.Name fm pm) [.Name ff pf, em] [] p1] [] p2) (.tuple ds) := by
  intro A env g s E rm o bs q
  refine wpAny_Call_NameR (wp_ev (ht A env g s E rm o bs q) fun u g1 s1 k1 x1 p1' => ?_)
  subst p1'
  refine callWith_of (P := fun h => True) (by rw [plain_any p2 env (es := [.Call (.Name fm pm) [.Name ff pf, em] [] p1]) (by rfl)]; rfl) (fun h _ => ⟨.machine, .inr (.inl rfl), Looks.of_pure rfl⟩) ?_
  rw [starEach_plain rfl]
  refine evalArgs_plain (spliced_cons (wpAny_Call_NameR (wp_ev (hmn A env g1 s1 E rm o (bs.trans x1.gg) (q.step x1)) fun u g2 s2 k2 x2 p2' => ?_)))
  subst p2'
  have bs2 := (bs.trans x1.gg).trans x2.gg
  have q2 := (q.step x1).step x2
  refine callWith_of (P := fun h => True) (by rw [plain_any p1 env (es := [.Name ff pf, em]) (by rw [List.all_cons, List.all_cons, hp]; rfl)]; rfl) (fun h _ => ⟨.machine, .inr (.inl rfl), Looks.of_pure rfl⟩) ?_
  obtain ⟨d0, hd0⟩ := List.exists_mem_of_ne_nil ds hne
  obtain ⟨fa, ob, fd, h1, h2, h3, _⟩ := hf d0 hd0
  rw [starEach_plain (e := .Name ff pf) rfl]
  refine evalArgs_plain (spliced_cons (wp_ev (EvP.global hk h1 hd A env g2 s2 E rm o bs2 q2) fun u g3 s3 k3 x3 p3' => ?_))
  subst p3'
  rw [starEach_plain hp]
  show wpAny _ _ (spliced ((false, eval em env) :: backTo p1 (starEach [] env))) _ _ _
  refine spliced_cons (wp_ev (hm A env g3 s3 E rm o (bs2.trans x3.gg) (q2.step x3)) fun v g4 s4 k4 x4 p4 => wpAny_items_nil ⟨trivial, ?_⟩)
  have xx := x1.trans (x2.trans (x3.trans x4))
  have kk := kp_trans k1 (kp_trans k2 (kp_trans k3 k4))
  have bs4 : Sub X.h0 g4 := bs.trans xx.gg
  cases p4 with
  | list il r =>
    rename_i l vs
    have il4 := isList_sub x4.gh il
    refine call_map_list (f := .ref fa) il4 fun h' hk' hM => wpAny_items_nil ⟨trivial, ?_⟩
    have lt_of : ∀ {b : Addr} {o' : Obj}, s4.heap.get? b = some o' → b < s4.heap.objs.size := fun e => Heap.lt_size e
    have s4I : s4.heap.get? s4.heap.objs.size = none := fresh_size
    have h0I : X.h0.get? s4.heap.objs.size = none := by
      cases z : X.h0.get? s4.heap.objs.size with
      | none => rfl
      | some o' => exact absurd (lt_of (x4.gh _ _ (bs4 _ _ z))) (Nat.lt_irrefl _)
    have llt : l < s4.heap.objs.size := let ⟨o', ho', _⟩ := il4; lt_of ho'
    have rm3 : Room A.in1.in1.in1 (k + 1) := ((show Room A ((k + 1) + 1 + 1 + 1) from rm).in1).in1.in1
    have hl := r.length
    have W := mapWalks (prog := X.prog) (w := X.w) (A := A.in1.in1.in1) rm3.hh (h0 := X.h0) (M := s4.heap.objs.size + 2) (T := s4.heap.objs.size + 1) (I := s4.heap.objs.size) (l := l) (f := .ref fa) (items := vs.toArray) (fun i v => ∃ d, ds[i]? = some d ∧ Rep X.h0 v d)
      (by intro e; have : s4.heap.objs.size + 2 = s4.heap.objs.size := e; omega) (by intro e; have : s4.heap.objs.size + 1 = s4.heap.objs.size := e; omega) (Nat.ne_of_lt llt) h0I (fun i u s' Q' E' hu hs0 hq => by
        have hu' : vs[i]? = some u := by simpa using hu
        obtain ⟨d, hd1, hr⟩ := r.get' hu'
        have hm' := List.mem_of_getElem? hd1
        obtain ⟨fa', ob', fd', q1, q2', q3, hop⟩ := hf d hm'
        have : fa' = fa := by rw [h1] at q1; cases q1; rfl
        subst this
        exact wpAny_mono (hop X.h0 s' [u] .rfl hs0 (.one (hr.flat (hfl d hm'))) A.in1.in1.in1.in1 E' rm3.in1) (fun v s'' ⟨k5, g5, x5, p5⟩ => hq v s'' ⟨d, hd1, p5.flat (hfl d hm')⟩ k5) fun _ _ y => y)
    have low : ∀ b ∈ (s4.heap.objs.size + 2) :: (s4.heap.objs.size + 1) :: s4.heap.objs.size :: l :: dom X.h0, b < h'.objs.size := by
      intro b hb
      rcases List.mem_cons.mp hb with rfl | hb
      · exact Heap.lt_size hM.m
      rcases List.mem_cons.mp hb with rfl | hb
      · exact Heap.lt_size hM.t
      rcases List.mem_cons.mp hb with rfl | hb
      · obtain ⟨o', ho', _⟩ := hM.it; exact Heap.lt_size ho'
      rcases List.mem_cons.mp hb with rfl | hb
      · obtain ⟨o', ho', _⟩ := hM.l; exact Heap.lt_size ho'
      obtain ⟨o', ho'⟩ := Option.isSome_iff_exists.mp (mem_dom.mp hb)
      exact Heap.lt_size (hk' _ _ (x4.gh _ _ (bs4 _ _ ho')))
    refine call_tuple_map (A := A) (s := { s4 with heap := h' }) W (fun i s' st => ⟨_, st.1.m, rfl⟩) ⟨hM, fun b o' e => hk' _ _ (x4.gh _ _ (bs4 _ _ e))⟩ low (by simp) (fun h2' tk acc hk2 ha => ?_) (by simp [hl]; exact hz)
    have sub : Sub s4.heap h2' := fun b o' e => hk2 b o' (fun q' => by rw [List.mem_singleton.mp q', s4I] at e; cases e) (hk' b o' e)
    have rr : RepAll g4 acc.toList ds := repAll_of (by rw [Array.length_toList, ha.1]; simpa using hl) fun i v hv => by
      obtain ⟨d, e1, e2⟩ := ha.2 i v (by simpa using hv)
      exact ⟨d, e1, e2.flat (hfl d (List.mem_of_getElem? e1))⟩
    have k5 : Keeps s4 { s4 with heap := h2', toks := tk } := kp_mk sub
    have x5 : Step g4 s4.heap g4 h2' := ⟨.rfl, sub, x4.gh.trans sub, fun _ _ e => .inl e⟩
    have := post_newTuple (s := s) (s' := { s4 with heap := h2', toks := tk }) (kp_trans kk k5) (xx.trans x5) rr
    simpa using this
end
end Mine

namespace Mine
open PySem PySem.W PyProof.Rows PySem.Calls
set_option Elab.async false
set_option maxRecDepth 100000
set_option linter.unusedVariables false

section
variable {prog : Program} {w : World} {A : Around} {E : Value → Shared → Prop} {s : Shared}
theorem subN {D C : String} {b : Bool} (hty : typeOf (.type C) = pure (.type "type")) (htD : typeOf (.type D) = pure (.type "type")) (hsub : isSubtype (.type D) (.type C) = pure b) (dep : Int) (tk : Tok) :
    Meets (Builtin.«issubclass.nested» ⟨[.type D, .type C, .int dep tk], []⟩) (fun _ R s => R (.ok (.ret (.bool b))) s) := by
  intro prog w A R s h
  have hm : (Value.type "type" == Value.type "type") = true := by decide
  repeat (any_goals (first | assumption | (rw [hty]) | (rw [if_pos hm]) | (rw [hsub]) | wp_step))
theorem kind_sub_nested : builtinKind "issubclass.nested" = none := by decide +kernel
theorem plain_sub_nested : plainId "issubclass.nested" = true := by decide +kernel
theorem args_sub_nested_3 (a b c : Value) : argsOk "issubclass.nested" ⟨[a, b, c], []⟩ := by unfold argsOk; kernel_rfl
def SubAll (D : String) : List Value → List Bool → Prop
  | [], [] => True
  | c :: cs, v :: vs => (∃ C, c = .type C ∧ typeOf (.type C) = pure (.type "type") ∧ isSubtype (.type D) (.type C) = pure v) ∧ SubAll D cs vs
  | _, _ => False
theorem sub_items {D : String} {dep : Int} (htD : typeOf (.type D) = pure (.type "type")) : ∀ (cs : List Value) (vs : List Bool) (s : Shared) (Q : Option PySem.Fin × Unit → Shared → Prop),
    SubAll D cs vs → Q (if vs.any id then some (.done (.ret (.bool true))) else none, ()) s →
    wpAny (model prog w) A (forIn cs ((none : Option PySem.Fin), ()) fun c _ => do
      if ← truthy (← call (.builtin "issubclass.nested") [.type D, c, rawInt (dep + 1)]) then
        let r ← ret (.bool true)
        pure (ForInStep.done (some r, ()))
      else pure (ForInStep.yield (none, ()))) Q E s
  | [], [], s, Q, _, h => wpAny_pure h
  | c :: cs, v :: vs, s, Q, ha, h => by
    rw [List.forIn_cons]
    obtain ⟨⟨C, rfl, hty, hsub⟩, hr⟩ := ha
    refine wpAny_bind (wpAny_bind (call_function_meets kind_sub_nested plain_sub_nested F.entry_issubclass_nested (args_sub_nested_3 _ _ _) (subN hty htD hsub _ _) ?_))
    show wpAny _ _ (truthy (.bool v) >>= _) _ _ _
    refine wpAny_bind (m := truthy (.bool v)) (wpAny_pure ?_)
    cases v with
    | true => exact wpAny_bind (wpAny_pure (wpAny_pure (wpAny_pure h)))
    | false => exact wpAny_pure (sub_items htD cs vs _ Q hr h)
theorem sub_tuple {D : String} {tp : Addr} {cs : List Value} {vs : List Bool} {tk : Tok} {s : Shared} {Q : PySem.Fin → Shared → Prop} (htD : typeOf (.type D) = pure (.type "type"))
    (htp : s.heap.get? tp = some { cls := .type "tuple", data := .seq cs.toArray }) (ha : SubAll D cs vs)
    (hq : Q (.done (.ret (.bool (vs.any id)))) s) : wpAny (model prog w) A (Builtin.«issubclass.nested» ⟨[.type D, .ref tp, .int 0 tk], []⟩) Q E s := by
  obtain ⟨h, g, d, t, os⟩ := s
  have hT2 : (⟨h, g, d, t, os⟩ : Shared).TypeIs (.ref tp) "tuple" := ⟨_, htp, rfl⟩
  have f1 := F.isi_sub_tuple
  repeat (any_goals (first | assumption | wp_step))
  refine wpAny_arrayLoop ?_
  simp only [Option.getD_some, List.toList_toArray]
  refine sub_items (dep := 0) htD cs vs _ _ ha ?_
  cases hv : vs.any id with
  | true =>
    simp only [if_true]
    repeat (any_goals (first | assumption | wp_step))
    exact hv ▸ hq
  | false =>
    simp only [Bool.false_eq_true, if_false]
    repeat (any_goals (first | assumption | wp_step))
    exact hv ▸ hq
theorem call_sub_tuple {D : String} {tp : Addr} {cs : List Value} {vs : List Bool} {s : Shared} {Q : Value → Shared → Prop} (htD : typeOf (.type D) = pure (.type "type"))
    (htp : s.heap.get? tp = some { cls := .type "tuple", data := .seq cs.toArray }) (ha : SubAll D cs vs) (hq : Q (.bool (vs.any id)) s) : wpAny (model prog w) A (call (.builtin "issubclass") [.type D, .ref tp]) Q E s := by
  refine call_issubclass (S := fun _ R s' => s'.heap.get? tp = some { cls := .type "tuple", data := .seq cs.toArray } ∧ R (.ok (.ret (.bool (vs.any id)))) s') (fun prog w A R s' hs => issubclass_outer (sub_tuple htD hs.1 ha hs.2)) ⟨htp, hq⟩
end

section
variable {X : Cx} {k : Nat} {sc : Scope} {σ τ : Sto}
/-- issubclass(c, (a, b)), c a class of the language -/
theorem Ev.issub {f a b : Str} {p pa pb pt pos : Pos} {n : Nat} {e : Expr} {D Ta Tb : String} {b1 b2 : Bool} (hf : EvP X k sc σ (.Name f p) fun _ u => u = .builtin "issubclass") (he : EvP X k sc σ e fun _ u => u = .type D)
    (h1 : EvP X k sc σ (.Name a pa) fun _ u => u = .type Ta) (h2 : EvP X k sc σ (.Name b pb) fun _ u => u = .type Tb) (htD : typeOf (.type D) = pure (.type "type")) (ha : SubAll D [.type Ta, .type Tb] [b1, b2]) (hp : plainE e = true := by rfl) :
    Ev X k sc σ (.Call (.Name f p) [e, .Tuple [.Name a pa, .Name b pb] n pt] [] pos) (.bool (b1 || b2)) := by
  intro A env g s E rm o bs q
  refine wpAny_Call_NameR (wp_ev (hf A env g s E rm o bs q) fun u g1 s1 k1 x1 p1 => ?_)
  subst p1
  refine callWith_of (P := fun h => True) (by rw [plain_any pos env (es := [e, .Tuple [.Name a pa, .Name b pb] n pt]) (by rw [List.all_cons, hp]; rfl)]; rfl) (fun h _ => ⟨.machine, .inr (.inl rfl), Looks.of_pure rfl⟩) ?_
  rw [starEach_plain hp]
  refine evalArgs_plain (spliced_cons (wp_ev (he A env g1 s1 E rm o (bs.trans x1.gg) (q.step x1)) fun v g2 s2 k2 x2 p2 => ?_))
  subst p2
  have bs2 := (bs.trans x1.gg).trans x2.gg
  have q2 := (q.step x1).step x2
  rw [starEach_plain (e := .Tuple [.Name a pa, .Name b pb] n pt) rfl]
  show wpAny _ _ (spliced ((false, eval (.Tuple [.Name a pa, .Name b pb] n pt) env) :: backTo pos (starEach [] env))) _ _ _
  refine spliced_cons (Tuple_ ?_)
  rw [starEach_plain (e := .Name a pa) rfl, starEach_plain (e := .Name b pb) rfl]
  show wpAny _ _ (spliced ((false, eval (.Name a pa) env) :: (false, eval (.Name b pb) env) :: backTo pt (starEach [] env))) _ _ _
  refine spliced_cons (wp_ev (h1 A env g2 s2 E rm o bs2 q2) fun v1 g3 s3 k3 x3 p3 => spliced_cons (wp_ev (h2 A env g3 s3 E rm o (bs2.trans x3.gg) (q2.step x3)) fun v2 g4 s4 k4 x4 p4 => wpAny_items_nil ?_))
  subst p3; subst p4
  refine wpAny_newObj_type (wpAny_items_nil ⟨trivial, ?_⟩)
  have x5 := step_push (o := { cls := .type "tuple", data := .seq (List.toArray [Value.type Ta, Value.type Tb]) }) (x1.trans (x2.trans (x3.trans x4)))
  have k5 : Keeps s { s4 with heap := s4.heap.push { cls := .type "tuple", data := .seq (List.toArray [Value.type Ta, Value.type Tb]) } } := kp_trans k1 (kp_trans k2 (kp_trans k3 (kp_trans k4 (kp_mk (Sub.push .rfl _)))))
  refine call_sub_tuple htD (Heap.get?_push_size _ rfl) ha ?_
  have e : [b1, b2].any id = (b1 || b2) := by cases b1 <;> cases b2 <;> rfl
  rw [e]
  exact .trans k5 x5 (Post.here x5.gh (.bool _))

/-- type(e) -/
theorem op_type {d : Dat} {T : String} (hT : ∀ g v s, Rep g v d → Sub g s.heap → Shared.TypeIs s v T) (hn : (Value.type T == Value.type "builtin_function_or_method") = false := by decide) : OpN X k (fun vs => call (.type "type") vs) [d] fun g v => v = .type T := by
  intro g s vs b0 kk r A E rm
  cases r with
  | cons r rn =>
    cases rn
    exact call_type_of (hT _ _ _ r kk) hn (Post.here kk rfl)
end
end Mine

namespace Mine
open PySem PySem.W PyProof.Rows PySem.Calls
set_option Elab.async false
set_option maxRecDepth 100000
set_option linter.unusedVariables false

/-- a text, given by its signs' numbers -/
def strOf (ns : List Int) : Str := ⟨(ns.map Int.toNat).toArray⟩
def dText (ns : List Int) : Dat := .str (strOf ns)
/-- signs' numbers are no less than nought -/
def Pos0 (ns : List Int) : Prop := ∀ n ∈ ns, 0 ≤ n
theorem strOf_length {ns : List Int} : (strOf ns).length = ns.length := by unfold strOf Str.length; simp
theorem strOf_append {a b : List Int} : strOf (a ++ b) = strOf a ++ strOf b := by
  show strOf (a ++ b) = Str.append (strOf a) (strOf b)
  unfold strOf Str.append; simp
theorem toNat_map_inj : ∀ {a b : List Int}, Pos0 a → Pos0 b → a.map Int.toNat = b.map Int.toNat → a = b
  | [], [], _, _, _ => rfl
  | [], _ :: _, _, _, h => by simp at h
  | _ :: _, [], _, _, h => by simp at h
  | x :: a, y :: b, h1, h2, h => by
    simp only [List.map_cons, List.cons.injEq] at h
    have e1 := h1 x (by simp)
    have e2 := h2 y (by simp)
    rw [toNat_map_inj (fun n hn => h1 n (List.mem_cons_of_mem _ hn)) (fun n hn => h2 n (List.mem_cons_of_mem _ hn)) h.2, show x = y by omega]
theorem strOf_inj {a b : List Int} (h1 : Pos0 a) (h2 : Pos0 b) (h : strOf a = strOf b) : a = b := by
  have := congrArg (fun (x : Str) => x.cps.toList) h
  exact toNat_map_inj h1 h2 (by simpa [strOf] using this)
theorem lt_map : ∀ {a b : List Int}, Pos0 a → Pos0 b → (a.map Int.toNat < b.map Int.toNat ↔ a < b)
  | [], [], _, _ => by simp
  | [], _ :: _, _, _ => by simp
  | _ :: _, [], _, _ => by simp
  | x :: a, y :: b, h1, h2 => by
    have e1 := h1 x (by simp)
    have e2 := h2 y (by simp)
    have ih := lt_map (a := a) (b := b) (fun n hn => h1 n (List.mem_cons_of_mem _ hn)) (fun n hn => h2 n (List.mem_cons_of_mem _ hn))
    simp only [List.map_cons, List.cons_lt_cons_iff, ih]
    constructor
    · rintro (h | ⟨h, h'⟩)
      · exact .inl (by omega)
      · exact .inr ⟨by omega, h'⟩
    · rintro (h | ⟨h, h'⟩)
      · exact .inl (by omega)
      · exact .inr ⟨by omega, h'⟩

theorem pick_range {α : Type} (xs : List α) : ∀ (m a : Nat), a + m ≤ xs.length → (List.range' a m).filterMap (xs[·]?) = (xs.drop a).take m
  | 0, a, _ => by simp
  | m + 1, a, h => by
    have ha : a < xs.length := by omega
    rw [List.range'_succ, List.filterMap_cons]
    have e : xs[a]? = some xs[a] := by simp [ha]
    simp only [e]
    rw [pick_range xs m (a + 1) (by omega), List.drop_eq_getElem_cons ha, List.take_succ_cons]
theorem indices_eq (lo hi : Option Int) (n : Nat) : Builtin.Str.strSliceIndices lo hi 1 n = List.range' (kms_lo lo n) (kms_hi hi n - kms_lo lo n) := by
  have key : ∀ a b : Nat, sliceRange (a : Int) (b : Int) 1 = List.range' a (b - a) := by
    intro a b
    unfold sliceRange
    have h1 : (1 : Int) > 0 := by decide
    simp only [h1, if_true]
    rw [List.range'_eq_map_range]
    have e : (if (a : Int) < b then ((b : Int) - a + 1 - 1) / 1 else 0).toNat = b - a := by
      split
      · rw [Int.ediv_one]; omega
      · simp; omega
    rw [e]
    apply List.map_congr_left
    intro k _
    omega
  rw [← key]
  unfold Builtin.Str.strSliceIndices
  have h1 : (1 : Int) > 0 := by decide
  simp only [h1, if_true]
  congr 1
  · cases lo with
    | none => rfl
    | some x =>
      unfold kms_lo
      simp only
      split <;> (try split) <;> omega
  · cases hi with
    | none => rfl
    | some x =>
      unfold kms_hi
      simp only
      split <;> (try split) <;> omega
theorem lo_hi_le (lo hi : Option Int) (n : Nat) : kms_lo lo n ≤ n ∧ kms_hi hi n ≤ n := by
  constructor
  · cases lo <;> unfold kms_lo
    · exact Nat.zero_le _
    · simp only; split <;> omega
  · cases hi <;> unfold kms_hi
    · exact Nat.le_refl _
    · simp only; split <;> omega
/-- a cut of a text -/
def cutS (x : Str) (lo hi : Option Int) : Str := ⟨(cut x.cps.toList lo hi).toArray⟩
theorem picked_eq (x : Str) (lo hi : Option Int) : (⟨((Builtin.Str.strSliceIndices lo hi 1 x.length).filterMap (x.cps[·]?)).toArray⟩ : Str) = cutS x lo hi := by
  rw [indices_eq]
  obtain ⟨h1, h2⟩ := lo_hi_le lo hi x.length
  have hl : x.cps.toList.length = x.length := by rw [Array.length_toList]; rfl
  have e : (fun i : Nat => x.cps[i]?) = fun i => x.cps.toList[i]? := by funext i; simp
  unfold cutS cut
  rw [hl, e]
  rcases Nat.le_total (kms_lo lo x.length) (kms_hi hi x.length) with h | h
  · rw [pick_range x.cps.toList _ _ (by rw [hl]; omega)]
  · have : kms_hi hi x.length - kms_lo lo x.length = 0 := by omega
    rw [this]; simp
theorem cutS_whole {x : Str} {lo hi : Option Int} (h : (Builtin.Str.strSliceIndices lo hi 1 x.length).length = x.length) : cutS x lo hi = x := by
  rw [indices_eq, List.length_range'] at h
  obtain ⟨h1, h2⟩ := lo_hi_le lo hi x.length
  have hl : x.cps.toList.length = x.length := by rw [Array.length_toList]; rfl
  unfold cutS cut
  rw [hl]
  rcases Nat.eq_zero_or_pos x.length with h0 | h0
  · have : x.cps.toList = [] := List.length_eq_zero_iff.mp (hl.trans h0)
    rw [this]
    have e2 : x.cps = #[] := by simpa using this
    cases x
    simp at e2
    subst e2
    rw [List.drop_nil, List.take_nil]
  · have e1 : kms_lo lo x.length = 0 := by omega
    have e2 : kms_hi hi x.length = x.length := by omega
    rw [e1, e2, List.drop_zero, Nat.sub_zero, List.take_of_length_le (by rw [hl]; exact Nat.le_refl _)]
theorem cut_map {α β : Type} (f : α → β) (l : List α) (lo hi : Option Int) : cut (l.map f) lo hi = (cut l lo hi).map f := by
  unfold cut; rw [List.length_map, List.map_take, List.map_drop]
theorem cutS_strOf {ns : List Int} {lo hi : Option Int} : cutS (strOf ns) lo hi = strOf (cut ns lo hi) := by
  unfold cutS strOf
  rw [List.toList_toArray, cut_map]
theorem cutS_length_le {x : Str} {lo hi : Option Int} : (cutS x lo hi).length ≤ x.length := by
  have := cut_length_le x.cps.toList lo hi
  rw [Array.length_toList] at this
  show (cut x.cps.toList lo hi).toArray.size ≤ x.cps.size
  simpa using this

section
variable {X : Cx} {k : Nat} {sc : Scope} {σ τ : Sto}
theorem op_addS {x y : Str} (hz : x.length + y.length ≤ sizeLine) : Op2 X k (binaryOp .Add) (.str x) (.str y) (.str (x ++ y)) := by
  intro g s u v b0 kk hu hv; cases hu; cases hv
  exact Does.tok kk fun A E Q r h => PyProof.Rows.add_str (fun t' tk => h _ _ (.str _ _)) hz
theorem op_eqS {x y : Str} : Op2 X k (compareOp .Eq) (.str x) (.str y) (.bool (x == y)) := by
  intro g s u v b0 kk hu hv; cases hu; cases hv
  exact Does.tok kk fun A E Q r h => PyProof.Rows.eq_str (h _ _ (.bool _))
theorem op_neS {x y : Str} : Op2 X k (compareOp .NotEq) (.str x) (.str y) (.bool (x != y)) := by
  intro g s u v b0 kk hu hv; cases hu; cases hv
  exact Does.tok kk fun A E Q r h => PyProof.Rows.ne_str (h _ _ (.bool _))

theorem made_slice {x : Str} {t : Tok} {l u : Option (Int × Tok)} {g : Heap} {s : Shared} {Q : Value → Shared → Prop} (kk : Sub g s.heap) (hz : x.length ≤ sizeLine)
    (hq : ∀ v s', Post g s (fun g v => Rep g v (.str (cutS x (l.map (·.1)) (u.map (·.1))))) v s' → Q v s') : (sliceMade x t l u none).post Q s := by
  unfold sliceMade
  have ep : slicePicked x l u none = Builtin.Str.strSliceIndices (l.map (·.1)) (u.map (·.1)) 1 x.length := rfl
  rw [ep]
  split
  · rename_i h
    have h' : (Builtin.Str.strSliceIndices (l.map (·.1)) (u.map (·.1)) 1 x.length).length = x.length := by
      simp only [Bool.and_eq_true, beq_iff_eq] at h; exact h.2
    rw [cutS_whole h'] at hq
    exact hq _ _ (Post.here kk (.str _ _))
  · rw [picked_eq]
    exact ⟨Nat.le_trans cutS_length_le hz, hq _ _ (Post.tok kk (.str _ _))⟩
theorem partValue_of {v : Value} {i : Option Int} (h : IsPart v i) : ∃ l : Option (Int × Tok), v = partValue l ∧ l.map (·.1) = i := by
  cases h with
  | none => exact ⟨none, rfl, rfl⟩
  | int i t => exact ⟨some (i, t), rfl, rfl⟩
theorem Ev.sliceS {value : Expr} {lower upper : Option Expr} {p pos : Pos} {x : Str} {lo hi : Option Int} (hv : Ev X k sc σ value (.str x)) (hl : EvO X k sc σ lower lo) (hu : EvO X k sc σ upper hi) (hz : x.length ≤ sizeLine)
    (ht : ∀ o r, letTemporaryGo value o r = pure () := by intro _ _; rfl) : Ev X k sc σ (.Subscript value (.Slice lower upper Option.none p) pos) (.str (cutS x lo hi)) := by
  intro A env g s E rm o bs q
  refine wpAny_Subscript_str_slice (wp_ev (hv A env g s E rm o bs q) fun u g1 s1 k1 x1 p1 => wp_ev (hl A env g1 s1 E rm o (bs.trans x1.gg) (q.step x1)) fun vl g2 s2 k2 x2 p2 =>
    wp_ev (hu A env g2 s2 E rm o ((bs.trans x1.gg).trans x2.gg) ((q.step x1).step x2)) fun vu g3 s3 k3 x3 p3 => ?_) ht
  cases p1
  rename_i tk
  obtain ⟨l, rfl, rfl⟩ := partValue_of p2
  obtain ⟨u, rfl, rfl⟩ := partValue_of p3
  refine ⟨x, tk, l, u, rfl, rfl, rfl, ?_⟩
  have x4 := step_push (o := { cls := .type "slice", data := .fields #[partValue l, partValue u, .none] }) (x1.trans (x2.trans x3))
  have k4 : Keeps s { s3 with heap := s3.heap.push { cls := .type "slice", data := .fields #[partValue l, partValue u, .none] } } := kp_trans k1 (kp_trans k2 (kp_trans k3 (kp_mk (Sub.push .rfl _))))
  exact made_slice (x := x) (t := tk) (l := l) (u := u) (s := { s3 with heap := s3.heap.push { cls := .type "slice", data := .fields #[partValue l, partValue u, .none] } }) x4.gh hz fun v s' y => .trans k4 x4 y
theorem Ev.itemS {value slice : Expr} {pos : Pos} {x : Str} {i : Int} {c : Nat} (hv : Ev X k sc σ value (.str x)) (hi : Ev X k sc σ slice (.int i)) (h0 : 0 ≤ i) (h1 : i < 2 ^ 63) (hc : x.cps[i.toNat]? = some c)
    (hs : ∀ x t i u, subscripted slice false (.str x t) (.int i u) = operate [.str x t, .int i u] (getItem (.str x t) (.int i u)) := by intro _ _ _ _; with_unfolding_all rfl)
    (ht : ∀ x t r, letTemporaryGo value (.str x t) r = pure () := by intro _ _ _; with_unfolding_all rfl) : Ev X k sc σ (.Subscript value slice pos) (.str ⟨#[c]⟩) := by
  intro A env g s E rm o bs q
  refine Subscript_ (wp_ev (hv A env g s E rm o bs q) fun u g1 s1 k1 x1 p1 => wp_ev (hi A env g1 s1 E rm o (bs.trans x1.gg) (q.step x1)) fun v g2 s2 k2 x2 p2 => ?_)
  cases p1; cases p2
  have hlt : i.toNat < x.cps.size := (Array.getElem?_eq_some_iff.mp hc).1
  have hlt' : i < (x.length : Int) := by show i < (x.cps.size : Int); omega
  refine item_str (by unfold fitsSsize; simp; omega) (by omega) hlt' (fun _ => ?_) (hs _ _ _ _) (ht _ _)
  have e : Txt.item x i = ⟨#[c]⟩ := by
    unfold Txt.item Txt.charAt seqIndex?
    have hn : ¬ i < 0 := by omega
    have hb : (decide (0 ≤ i) && decide (i < (x.length : Int))) = true := by simp; omega
    simp only [if_neg hn, hb, if_true, Option.bind_some, hc, Option.getD_some]
  rw [e]
  exact .trans (kp_trans k1 k2) (x1.trans x2) (Post.tok x2.gh (.str _ _))
end
end Mine

namespace Mine
open PySem PySem.W PyProof.Rows PySem.Calls
set_option Elab.async false
set_option maxRecDepth 100000
set_option linter.unusedVariables false

/-- names that the text leaves to the language -/
structure Free (X : Cx) : Prop where
  len : X.mg "len" = none
  min : X.mg "min" = none
  max : X.mg "max" = none
  isinstance : X.mg "isinstance" = none
  list : X.mg "list" = none
  tuple : X.mg "tuple" = none
  enumerate : X.mg "enumerate" = none
  range : X.mg "range" = none
  map : X.mg "map" = none
  type : X.mg "type" = none
  issubclass : X.mg "issubclass" = none
  str : X.mg "str" = none
  bytes : X.mg "bytes" = none
  abs : X.mg "abs" = none
  divmod : X.mg "divmod" = none
  sorted : X.mg "sorted" = none
  sum : X.mg "sum" = none
  set : X.mg "set" = none
  ord : X.mg "ord" = none

def okT (ns : List Int) : Prop := Pos0 ns ∧ ns.length ≤ sizeLine
theorem rc_lt_str {X : Cx} {A : Around} {E : Value → Shared → Prop} {s : Shared} {Q : Value → Shared → Prop} {x y : Str} {t u : Tok} (h : Q (.bool (decide (x.cps.toList < y.cps.toList))) s) : wpAny X.M A (richCompare .Lt (.str x t) (.str y u)) Q E s := by
  show wpAny X.M A (compareOp .Lt (.str x t) (.str y u)) Q E s
  exact PyProof.Rows.lt_str h
theorem rc_gt_str {X : Cx} {A : Around} {E : Value → Shared → Prop} {s : Shared} {Q : Value → Shared → Prop} {x y : Str} {t u : Tok} (h : Q (.bool (decide (y.cps.toList < x.cps.toList))) s) : wpAny X.M A (richCompare .Gt (.str x t) (.str y u)) Q E s := by
  show wpAny X.M A (compareOp .Gt (.str x t) (.str y u)) Q E s
  exact PySem.P.gt_str h
theorem lt_strOf {a b : List Int} (h1 : Pos0 a) (h2 : Pos0 b) : decide ((strOf a).cps.toList < (strOf b).cps.toList) = decide (a < b) := by
  refine decide_eq_decide.mpr ?_
  show (a.map Int.toNat).toArray.toList < (b.map Int.toNat).toArray.toList ↔ a < b
  rw [List.toList_toArray, List.toList_toArray]
  exact lt_map h1 h2
theorem strOf_get {a : List Int} {i : Nat} {c : Int} (h : a[i]? = some c) : (strOf a).cps[i]? = some c.toNat := by
  show (a.map Int.toNat).toArray[i]? = some c.toNat
  rw [List.getElem?_toArray, List.getElem?_map, h]; rfl
theorem seqK_text (X : Cx) : SeqK X dText (fun c => .str ⟨#[c.toNat]⟩) okT where
  lt := by
    intro A E Q s g u v a b h1 h2 hu kk r1 r2 h
    cases r1; cases r2
    refine rc_lt_str ?_
    rw [lt_strOf h1.1 h2.1]; exact h
  gt := by
    intro A E Q s g u v a b h1 h2 hu kk r1 r2 h
    cases r1; cases r2
    refine rc_gt_str ?_
    rw [lt_strOf h2.1 h1.1]; exact h
  enum := by
    intro k g s v a _ kk r
    cases r
    have e : chars (strOf a) = a.map fun c => Dat.str ⟨#[c.toNat]⟩ := by
      unfold chars strOf
      rw [List.toList_toArray, List.map_map]; rfl
    rw [← e]
    exact enumOf_str kk
  item := by
    intro k sc σ z pz y p pos a i c _ hv hi hc hb
    exact Ev.itemS hv hi (by omega) (by omega) (by simpa using strOf_get hc)
  ne := by
    intro k a b i j ha hb hi hj
    have h1 := ha.1 i hi
    have h2 := hb.1 j hj
    have e : ((⟨#[i.toNat]⟩ : Str) != ⟨#[j.toNat]⟩) = (i != j) := by
      by_cases q : i = j
      · subst q; simp
      · have q1 : (i != j) = true := by simpa using q
        have q2 : (⟨#[i.toNat]⟩ : Str) ≠ ⟨#[j.toNat]⟩ := fun x => by
          simp at x; omega
        rw [q1]; simpa using q2
    rw [← e]
    exact op_neS
  slice := by
    intro k sc σ z pz y p ps pos a i ho hv hi
    refine (Ev.sliceS hv .none (.some hi) (by rw [strOf_length]; exact ho.2)).to ?_
    rw [cutS_strOf, cut_upto]; rfl
end Mine

namespace Mine
open PySem PySem.W PyProof.Rows PySem.Calls
set_option Elab.async false
set_option maxRecDepth 100000
set_option linter.unusedVariables false

section
variable {X : Cx} {k : Nat}
end

theorem rep2 {h : Heap} {vs : List Value} {d0 d1 : Dat} : RepAll h vs [d0, d1] → ∃ v0 v1 : Value, vs = [v0, v1] ∧ Rep h v0 d0 ∧ Rep h v1 d1
  | .cons (v := v0) r0 (.cons (v := v1) r1 (.nil)) => ⟨v0, v1, rfl, r0, r1⟩
section
variable {X : Cx} {k : Nat} {sc : Scope} {τ : Sto} {s₀ s : Shared} {g₀ g : Heap} {env : Env} {H : List (Addr × Obj)} {m cm : Str → Option Value}
end

section
variable {X : Cx} {k : Nat} {sc : Scope} {τ : Sto} {s₀ s : Shared} {g₀ g : Heap} {env : Env} {H : List (Addr × Obj)} {m cm : Str → Option Value}
end
end Mine

namespace Mine
open PySem PySem.W PyProof.Rows PySem.Calls
set_option Elab.async false
set_option maxRecDepth 100000
set_option linter.unusedVariables false

section
variable {X : Cx} {k : Nat} {sc : Scope} {σ τ : Sto} {s₀ s : Shared} {g₀ g : Heap} {env : Env} {H : List (Addr × Obj)} {m cm : Str → Option Value}

theorem iterOf_strK {x : Str} {t : Tok} {n : String} (kk : Sub g s.heap) (hn : ownedNames.contains n = false)
    (hit : ∀ (A : Around) (E : Value → Shared → Prop) (Q : Value → Shared → Prop), Q (.ref s.heap.objs.size) { s with heap := s.heap.push { cls := .type n, data := .fields #[.str x t, .int 0 0] } } → wpAny X.M A (pyIter (.str x t)) Q E s)
    (hw : ∀ A', A'.handled = none → Walks X.prog X.w A' s.heap.objs.size [s.heap.objs.size] [s.heap.objs.size] x.cps.size (SignAt x) (fun i h => h.IsStrIter s.heap.objs.size n x t i)) : IterOf X k g s (.str x t) (chars x) := by
  intro A E rm
  have hl : (chars x).length = x.cps.size := by simp [chars]
  refine hit A E _ ⟨kp_mk (Sub.push .rfl _), s.heap.objs.size, [s.heap.objs.size], [s.heap.objs.size], SignAt x, (fun i h => h.IsStrIter s.heap.objs.size n x t i), rfl, ?_⟩
  exact {
    walks := fun A' hA => hl ▸ hw A' hA
    start := ⟨_, Heap.get?_push_size _ rfl, rfl, rfl⟩
    low := fun b hb => by
      show b < (s.heap.push _).objs.size
      rw [Heap.size_push, List.mem_singleton.mp hb]
      exact Nat.lt_succ_self _
    fresh := fun b hb => by rw [List.mem_singleton.mp hb]; exact fresh_size
    live := fun i h st b hb => by
      obtain ⟨o, ho, _⟩ := st
      rw [List.mem_singleton.mp hb, ho]; rfl
    foot := fun b hb => .inl hb
    item := fun i v hv => by
      obtain ⟨c, u, hc, rfl⟩ := hv
      exact ⟨.str ⟨#[c]⟩, by simp [chars, hc], .str _ _⟩
    own := fun i A' E' target v s' Q st q => by
      obtain ⟨o, ho, hc, _⟩ := st
      exact letOwned_ok ho hc hn q }
theorem iterOf_str {x : Str} {t : Tok} (kk : Sub g s.heap) : IterOf X k g s (.str x t) (chars x) := by
  cases ha : x.cps.all (· < 128)
  · exact iterOf_strK (n := "str_iterator") kk (by decide) (fun A E Q h => wpAny_pyIter_wide ha h) fun A' hA => Walks.strWide hA _ x t
  · exact iterOf_strK (n := "str_ascii_iterator") kk (by decide) (fun A E Q h => wpAny_pyIter_ascii ha h) fun A' hA => Walks.strAscii hA _ x t
theorem Its.str {e : Expr} {x : Str} (h : Ev X k sc σ e (.str x)) (hs : ∀ env x, foldedSetIterable e env x = pure x := by intro _ _; rfl) : Its X k sc σ e (chars x) :=
  ⟨h.mono fun g v r s kk => by cases r; exact iterOf_str kk, hs⟩
/-- a datum of the state may be read -/
theorem len_list {X : Cx} {k : Nat} {ds : List Dat} (h : ds.length < 2 ^ 62) : OpN X k (fun vs => call (.builtin "len") vs) [.list ds] fun g v => Rep g v (.int (ds.length : Nat)) :=
  op_len rfl (by omega)
theorem small : ∀ n : Nat, n ≤ 4096 → n ≤ sizeLine := fun n h => Nat.le_trans h (by decide)
theorem len_text {X : Cx} {k : Nat} {w : List Int} (h : w.length < 2 ^ 62) : OpN X k (fun vs => call (.builtin "len") vs) [dText w] fun g v => Rep g v (.int (w.length : Nat)) :=
  op_len (by show (strOf w).length = _; exact strOf_length) (by omega)
end
end Mine

namespace Mine
open PySem PySem.W PyProof.Rows PySem.Calls
set_option Elab.async false
set_option maxRecDepth 100000
set_option linter.unusedVariables false

section
variable {N : Nat} {key : Nat → List Int} {cmp : Nat → Nat → (Bool → Shared → Prop) → Shared → Prop} {I : Shared → Prop}

/-- the questions are answered by the keys -/
def Tells (N : Nat) (key : Nat → List Int) (I : Shared → Prop) (cmp : Nat → Nat → (Bool → Shared → Prop) → Shared → Prop) : Prop :=
  ∀ (i j : Nat) (C : Bool → Shared → Prop) (s : Shared), i < N → j < N → I s → (∀ s', I s' → C (decide (key i < key j)) s') → cmp i j C s
structure Pm (N : Nat) (p : Array Nat) : Prop where
  perm : p.toList.Perm (List.range N)
theorem Pm.size {p : Array Nat} (h : Pm N p) : p.size = N := by
  have := h.perm.length_eq
  rw [List.length_range, Array.length_toList] at this
  exact this
theorem Pm.lt {p : Array Nat} (h : Pm N p) (hN : 0 < N) (x : Nat) : p.getD x 0 < N := by
  by_cases hx : x < p.size
  · have e : p.getD x 0 = p[x] := by simp [Array.getD, hx]
    rw [e]
    have : p[x] ∈ p.toList := by simp
    exact List.mem_range.mp (h.perm.mem_iff.mp this)
  · have e : p.getD x 0 = 0 := by simp [Array.getD, hx]
    rw [e]; exact hN
def K (key : Nat → List Int) (p : Array Nat) (x : Nat) : List Int := key (p.getD x 0)
def Up (key : Nat → List Int) (p : Array Nat) (b : Nat) : Prop := ∀ i j, i < j → j < b → ¬ K key p j < K key p i
def Dn (key : Nat → List Int) (p : Array Nat) (b : Nat) : Prop := ∀ i j, i < j → j < b → ¬ K key p i < K key p j
theorem Up.last {p : Array Nat} {n i : Nat} (h : Up key p n) (hi : i < n) : ¬ K key p (n - 1) < K key p i := by
  rcases Nat.lt_or_ge i (n - 1) with h2 | h2
  · exact h i (n - 1) h2 (by omega)
  · have : i = n - 1 := by omega
    subst this
    exact List.lt_irrefl _
theorem Dn.last {p : Array Nat} {n i : Nat} (h : Dn key p n) (hi : i < n) : ¬ K key p i < K key p (n - 1) := by
  rcases Nat.lt_or_ge i (n - 1) with h2 | h2
  · exact h i (n - 1) h2 (by omega)
  · have : i = n - 1 := by omega
    subst this
    exact List.lt_irrefl _

variable (T : Tells N key I cmp) (hN : 0 < N)
include T hN
end
end Mine

namespace Mine
open PySem PySem.W PyProof.Rows PySem.Calls
set_option Elab.async false
set_option maxRecDepth 100000
set_option linter.unusedVariables false

section
variable {X : Cx} {k : Nat}

end
end Mine

namespace Mine
open PySem PySem.W PyProof.Rows PySem.Calls
set_option Elab.async false
set_option maxRecDepth 100000
set_option linter.unusedVariables false

/-- a kind of data that the language sorts as rows -/
structure SortK (X : Cx) (mk : List Int → Dat) (ok : List Int → Prop) (T : String) : Prop where
  lt : ∀ {A : Around} {E : Value → Shared → Prop} {Q : Bool → Shared → Prop} {s : Shared} {g : Heap} {u v : Value} {a b : List Int}, ok a → ok b → A.units + 1 < cLine → Sub g s.heap → Rep g u (mk a) → Rep g v (mk b) → Q (decide (a < b)) s → wpAny X.M A (keyLt' oneType' u v) Q E s
  ty : ∀ {g h : Heap} {v : Value} {a : List Int}, Rep g v (mk a) → Sub g h → Looks X.M h (typeOf v) (.type T)
  ok1 : (Value.type T != Value.type "tuple") = true
section
variable {X : Cx} {k : Nat} {mk : List Int → Dat} {ok : List Int → Prop} {T : String}
end
end Mine

namespace Mine
open PySem PySem.W PyProof.Rows PySem.Calls
set_option Elab.async false
set_option maxRecDepth 100000
set_option linter.unusedVariables false

section
variable {X : Cx} {k : Nat} {sc scope : Scope} {σ τ cap : Sto}
/-- o.name(e), a method of the language's -/
theorem EvP.meth1 {o e : Expr} {name : Str} {apos pos : Pos} {T id : String} {d : Dat} {Po P : Heap → Value → Prop} (ho : EvP X k sc σ o Po) (mono : ∀ g g' v, Sub g g' → Po g v → Po g' v)
    (hT : ∀ g v s, Po g v → Sub g s.heap → Shared.TypeIs s v T ∧ ∀ a, v = .ref a → ∃ ob, s.heap.get? a = some ob ∧ ob.dict = none) (he : Ev X k sc σ e d) (pa : PlainAttrs T) (slot : Slot T name id) (hty : typeOf (.builtin id) = pure (.type "method_descriptor"))
    (hop : ∀ (g : Heap) (s : Shared) (u v : Value), Sub X.h0 g → Sub g s.heap → Po g u → Rep g v d → Does X k (call (.builtin id) [u, v]) g s P)
    (hbase : ∀ env, attributeBase o name env (eval o env) = eval o env := by intro _; rfl) (hline : (apos.endLine == pos.line) = true := by rfl) (hp : plainE e = true := by rfl) :
    EvP X k sc σ (.Call (.Attribute o name apos) [e] [] pos) P := by
  intro A env g s E rm oe bs q
  refine wpAny_Call_method (hbase env) ?_ hline pa slot hty (wp_ev (ho A env g s E rm oe bs q) fun u g1 s1 k1 x1 p1 => ?_)
  · rw [starEach_plain hp]; rfl
  obtain ⟨h1, h2⟩ := hT g1 u s1 p1 x1.gh
  refine ⟨h1, h2, ?_⟩
  rw [starEach_plain hp]
  show wpAny _ _ (callWith pos (.builtin id) [u] ((false, eval e env) :: backTo pos (starEach [] env)) []) _ _ _
  refine Calls.callWith_builtin (by rfl) (evalArgs_plain (spliced_cons (wp_ev (he A env g1 s1 E rm oe (bs.trans x1.gg) (q.step x1)) fun v g2 s2 k2 x2 p2 => wpAny_items_nil ?_)))
  exact wp_fin (kp_trans k1 k2) (x1.trans x2) (hop g2 s2 u v ((bs.trans x1.gg).trans x2.gg) x2.gh (mono _ _ _ x2.gg p1) p2 A E rm)

theorem strsAre_of : ∀ {rows : List (List Int)} {g : Heap} {vs : List Value}, RepAll g vs (rows.map dText) → StrsAre vs (rows.map strOf)
  | [], _, _, .nil => .nil
  | r :: rows, _, _, .cons (.str _ t) rr => .cons _ _ (strsAre_of rr)
/-- rows.count(e) of texts -/
theorem rep_flat : ∀ (n : Nat) (items : Array Value), (List.foldl (fun x1 x2 => x1 ++ x2) (#[] : Array Value) (List.replicate n items)).toList = (List.replicate n items.toList).flatten := by
  have gen : ∀ (n : Nat) (items acc : Array Value), (List.foldl (fun x1 x2 => x1 ++ x2) acc (List.replicate n items)).toList = acc.toList ++ (List.replicate n items.toList).flatten := by
    intro n
    induction n with
    | zero => intro items acc; simp
    | succ n ih =>
      intro items acc
      rw [List.replicate_succ, List.foldl_cons, ih, List.replicate_succ, List.flatten_cons, Array.toList_append, List.append_assoc]
  intro n items
  have := gen n items #[]
  simpa using this
theorem repAll_replicate {g : Heap} {vs : List Value} {ds : List Dat} (r : RepAll g vs ds) : ∀ n : Nat, RepAll g (List.replicate n vs).flatten (List.replicate n ds).flatten
  | 0 => by simp; exact .nil
  | n + 1 => by
    rw [List.replicate_succ, List.replicate_succ, List.flatten_cons, List.flatten_cons]
    exact (repAll_replicate r n).append r
theorem mul_listP {prog : Program} {w : World} {A : Around} {E : Value → Shared → Prop} {s : Shared} {l : Addr} {items : Array Value} {k : Nat} {x : Int} {u : Tok} {Q : Value → Shared → Prop}
    (hl : s.heap.get? l = some { cls := .type "list", dict := none, data := .seq items k, slots := #[] }) (hlo : -(2 ^ 63 : Int) ≤ x) (hhi : x < 2 ^ 63) (hsz : items.size * x.toNat ≤ 2 ^ 24)
    (h : Q (.ref s.heap.objs.size) { s with heap := s.heap.push { cls := .type "list", data := .seq (List.foldl (fun x1 x2 => x1 ++ x2) #[] (List.replicate (if items.isEmpty = true then 0 else x.toNat) items)) } }) :
    wpAny (model prog w) A (binaryOp .Mult (.ref l) (.int x u)) Q E s :=
  wpAny_binaryOp_repeat_ref (T := "list") (U := "int") (by decide) ⟨_, hl, rfl⟩ (fun s' => typeIs_int s' x u) noFill_list_mul F.fills_int_mul F.slot_int_rmul repeat_list F.slot_int_index.lookup
    (call_meets F.slot_int_rmul (typeIs_int s x u) F.entry_int_rmul (F.args_int_rmul_2 _ _) (int___rmul___int_list x u l items k)
      ⟨hl, rfl, ⟨_, hl, rfl⟩, call_meets F.slot_list_mul ⟨_, hl, rfl⟩ F.entry_list_mul (F.args_list_mul_2 _ _)
        (AutoListH.list___mul___list_int_3 l items k x u (by simp [Builtin.List.listFitsIndex]; omega) (by omega) (by simp [Builtin.List.listTooLong, sizeLine]; omega))
        ⟨hl, h⟩⟩)
end
end Mine

namespace Mine
open PySem PySem.W PyProof.Rows PySem.Calls
set_option Elab.async false
set_option maxRecDepth 100000
set_option linter.unusedVariables false

section
variable {X : Cx} {k : Nat} {sc : Scope} {σ τ : Sto} {s₀ s : Shared} {g₀ g : Heap} {env : Env} {H : List (Addr × Obj)} {m cm : Str → Option Value}

theorem flatten_rep {α : Type} (a : α) : ∀ n : Nat, (List.replicate n [a]).flatten = List.replicate n a
  | 0 => rfl
  | n + 1 => by rw [List.replicate_succ, List.flatten_cons, flatten_rep a n, List.replicate_succ]; rfl
/-- a new object of the frame's own gets its name -/
theorem wp_own {A : Around} {E : Value → Shared → Prop} {x : Str} {ob : Obj} {P : Addr → Obj → Heap → Prop} {mp} {Q : Unit → Shared → Prop} (F : FS s₀ g₀ env H τ g m cm s) (o : EnvOk env sc) (hx : canStore sc x = true) (hf : ob.isFreed = false) (hP : P s.heap.objs.size ob g)
    (h : ∀ m' cm' s', FS s₀ g₀ env H (upd x (.obj P mp) τ) g m' cm' s' → Q () s') : wpAny X.M A (storeName env x (.ref s.heap.objs.size)) Q E { s with heap := s.heap.push ob } := by
  have k1 : Keeps s { s with heap := s.heap.push ob } := kp_mk (Sub.push .rfl _)
  have x1 : Step g s.heap g (s.heap.push ob) := ⟨.rfl, Sub.push .rfl _, F.st.gh.trans (Sub.push .rfl _), fun _ _ e => .inl e⟩
  have none_of : ∀ {h : Heap}, Sub h s.heap → h.get? s.heap.objs.size = none := by
    intro h hs
    cases z : h.get? s.heap.objs.size with
    | none => rfl
    | some o => have := hs _ _ z; rw [fresh_size] at this; cases this
  have ne_of : ∀ {a : Addr} {ob : Obj}, s.heap.get? a = some ob → a ≠ s.heap.objs.size := fun e q => by rw [q, fresh_size] at e; cases e
  refine wp_store (lv := .obj P mp) (F.ev k1 x1) o hx (o.cells x) ?_ ?_ fun m' cm' s'' F' => h _ _ _ F'
  · refine ⟨_, _, rfl, Heap.get?_push_size _ hf, hP, none_of F.st.gh, none_of F.st.hh, ?_, ?_, ?_⟩
    · obtain ⟨ob, _, _, ho, _⟩ := F.call.toInCall.ns
      exact (ne_of ho).symm
    · intro n c hc
      obtain ⟨ob, ho, _⟩ := F.call.cell n c hc
      exact ne_of ho
    · intro p hp
      exact ne_of (F.hold p hp).1
  · intro y P' mp' hy e hh
    obtain ⟨v, hv, lv⟩ := F.var y _ e
    obtain ⟨a, ob', rfl, ho, _⟩ := lv
    have := hv.fun hh
    cases this
    rw [fresh_size] at ho; cases ho

/-- a name that holds an object of the frame's own -/
theorem wp_nameO {A : Around} {E : Value → Shared → Prop} {x : Str} {pos : Pos} {P : Addr → Obj → Heap → Prop} {mp} {Q : Value → Shared → Prop} (o : EnvOk env sc) (q : StoIn σ env g s) (e : σ.lookup x = some (.obj P mp)) (h : ∀ a ob, s.heap.get? a = some ob → P a ob g → Q (.ref a) s)
    (hd : (x == ("__debug__" : Str)) = false := by decide) (hn : (x == ("__classdict__" : Str)) = false := by decide) : wpAny X.M A (eval (.Name x pos) env) Q E s := by
  obtain ⟨a, ob, hv, ho, hp⟩ := q.obj x P mp e
  rcases hv with ⟨hl, m, ns, hm⟩ | ⟨hl, c, hc, hv⟩
  · exact wpAny_Name (wpAny_loadName_local o.ek hl ns hm (h a ob ho hp)) hd
  · rcases hl with hl | hl
    · exact wpAny_Name (wpAny_loadName_cell o.ek hl hc hv (h a ob ho hp)) hd
    · exact wpAny_Name (wpAny_loadName_free o.ek hl hc hv (h a ob ho hp) hn) hd

/-- xs[i] of an own list -/
theorem Ev.itemO {x : Str} {px pos : Pos} {slice : Expr} {ds : List Dat} {d : Dat} {i : Int} (hx : σ.lookup x = some (LV.list ds)) (hi : Ev X k sc σ slice (.int i)) (h0 : 0 ≤ i) (h1 : i < 2 ^ 63) (hd : ds[i.toNat]? = some d)
    (hs : ∀ a i u, subscripted slice false (.ref a) (.int i u) = operate [.ref a, .int i u] (getItem (.ref a) (.int i u)) := by intro _ _ _; with_unfolding_all rfl)
    (hd1 : (x == ("__debug__" : Str)) = false := by decide) (hn : (x == ("__classdict__" : Str)) = false := by decide) : Ev X k sc σ (.Subscript (.Name x px) slice pos) d := by
  intro A env g s E rm o bs q
  refine Subscript_ (wp_nameO o q hx (fun a ob ho hp => ?_) hd1 hn)
  obtain ⟨vs, n, rfl, r⟩ := hp
  refine wp_ev (hi A env g s E rm o bs q) fun v g2 s2 k2 x2 p2 => ?_
  cases p2
  obtain ⟨y, hy, hr⟩ := r.get hd
  have il2 : s2.heap.IsList a vs.toArray := ⟨_, x2.hh _ _ ho, rfl, n, rfl⟩
  refine tail_any il2.typeIs slot_list_getitem.lookup (wpAny_getItem_list il2 h0 h1 (by simpa using hy) ?_) (hs _ _ _)
  exact .trans k2 x2 (Post.here x2.gh (hr.sub x2.gg))

theorem setItem_plain {A : Around} {E : Value → Shared → Prop} {l : Addr} {vs : List Value} {n : Nat} {i : Int} {t : Tok} {v : Value} {Q : Unit → Shared → Prop} (ho : s.heap.get? l = some { cls := .type "list", data := .seq (List.toArray vs) n }) (h0 : 0 ≤ i) (h1 : i < vs.length) (hf : i < 2 ^ 63)
    (hQ : ∀ h' n', h'.get? l = some { cls := .type "list", data := .seq (List.toArray (vs.set i.toNat v)) n' } → Heap.SameBut l s.heap h' → Q () { s with heap := h' }) : wpAny X.M A (setItem (.ref l) (.int i t) v) Q E s := by
  have hl : s.heap.IsList l vs.toArray := ⟨_, ho, rfl, n, rfl⟩
  unfold setItem
  refine wpAny_holding ?_
  first | refine wpAny_bind (wpAny_pure ?_) | skip
  refine wpAny_bind (wpAny_sequenceKey hl.typeIs (by decide) ?_)
  refine wpAny_bind (wpAny_callSpecial?_slot (name := Str.ofString "__setitem__") hl.typeIs slot_list_setitem
    (wpAny_call_entry slot_list_setitem hl.typeIs entry_list_setitem ?_ (args_list_setitem _ _ _)))
  show wpAny _ _ (Builtin.List.listSubscript? (.int i t) >>= _) _ _ s
  refine wpAny_bind (wpAny_listSubscript_int (fitsIndex_of h0 hf) ?_)
  clear hf
  obtain ⟨j, rfl⟩ := Int.eq_ofNat_of_zero_le h0
  have hj : j < vs.length := by omega
  have hx' : (List.toArray vs)[j]? = some vs[j] := by simp [hj]
  show wpAny _ _ ((seqItemAt l j >>= fun r => pure (r.map (j, ·))) >>= _) _ _ s
  refine wpAny_bind (wpAny_bind (wpAny_seqItemAt ho rfl (wpAny_pure ?_)))
  rw [hx']
  show wpAny _ _ (setSeqItemAt l j v >>= _) _ _ s
  have g1 := get?_update_seq (c := "list") ho fun xs => xs.setIfInBounds j v
  have e : (List.toArray vs).setIfInBounds j v = List.toArray (vs.set j v) := by simp
  have fin := hQ (s.heap.update l (Obj.mapSeq (·.setIfInBounds j v))) _ (by rw [e] at g1; exact g1) (Heap.SameBut.update ..)
  refine wpAny_bind (wpAny_setSeqItemAt ho rfl ?_)
  first
    | exact wpAny_bind (wpAny_pure (wpAny_pure ⟨.none, rfl, wpAny_pure fin⟩))
    | exact wpAny_pure ⟨.none, rfl, wpAny_pure fin⟩
/-- xs[i] = e of an own list -/
theorem Ex.setItemO {x : Str} {px ps pos : Pos} {slice e : Expr} {ds : List Dat} {d : Dat} {i : Int} {R : Out → Prop} (hx : τ.lookup x = some (LV.list ds)) (h : Ev X k sc τ e d) (hi : Ev X k sc τ slice (.int i)) (h0 : 0 ≤ i) (h1 : i < ds.length) (hz : ds.length < 2 ^ 62)
    (hr : R (.next (upd x (LV.list (ds.set i.toNat d)) τ))) (hs : ∀ env, swapsWith e (some (.Subscript (.Name x px) slice ps)) pos.line env = pure false := by intro _; rfl)
    (hd1 : (x == ("__debug__" : Str)) = false := by decide) : Ex X k sc τ (exec (.Assign [.Subscript (.Name x px) slice ps] e pos)) R := by
  intro A env s₀ g₀ H g m cm s E r o b F
  refine wpAny_Assign_Subscript (wp_ev (h A env g s E r o (b.trans F.st.gg) F.sto) fun v g1 s1 k1 x1 p1 => ?_) (hs env)
  have F1 := F.ev k1 x1
  obtain ⟨w, hv, ad, ob, ev, o1, ⟨vs, n, eo, rp⟩, o3, o4, o5, o6, o7⟩ := F1.var x _ hx
  subst ev; subst eo
  refine holds_name F1 o hv ?_ hd1
  refine wp_ev (hi A env g1 s1 E r o (b.trans F1.st.gg) F1.sto) fun u g2 s2 k2 x2 p2 => ?_
  have F2 := F1.ev k2 x2
  cases p2
  have hl := rp.length
  have o2 := x2.hh _ _ o1
  refine setItem_plain o2 h0 (by omega) (by omega) fun h' n' hl' hs' => ?_
  exact ⟨_, g2, m, cm, hr, F2.mutate (lv := LV.list ds) (tk := s2.toks) hx hv hs'.extBut ⟨_, hl', vs.set i.toNat v, n', rfl, RepAll.set (p1.sub x2.gg) (rp.sub x2.gg) i.toNat⟩⟩

/-- x = [e] * n, the frame's own -/
theorem Ex.assignMul {x : Str} {px pos pb : Pos} {pl : Pos} {e1 e2 : Expr} {d : Dat} {n : Nat} {R : Out → Prop} (h1 : Ev X k sc τ e1 d) (h2 : Ev X k sc τ e2 (.int n)) (hn : n ≤ 65536) (hr : R (.next (upd x (LV.list (List.replicate n d)) τ))) (hx : canStore sc x = true := by rfl)
    (hs : ∀ env, swapsWith (.BinOp (.List [e1] pl) .Mult e2 pb) (some (.Name x px)) pos.line env = pure false := by intro _; rfl) (hp : plainE e1 = true := by rfl) : Ex X k sc τ (exec (.Assign [.Name x px] (.BinOp (.List [e1] pl) .Mult e2 pb) pos)) R := by
  intro A env s₀ g₀ H g m cm s E r o b F
  refine wpAny_Assign_Name (wpAny_BinOp (wp_ev ((Ev.list (EvL.cons h1 .nil hp)) A env g s E r o (b.trans F.st.gg) F.sto) fun u g1 s1 k1 x1 p1 => ?_)) (hs env)
  have F1 := F.ev k1 x1
  refine wp_ev (h2 A env g1 s1 E r o (b.trans F1.st.gg) F1.sto) fun v g2 s2 k2 x2 p2 => ?_
  have F2 := F1.ev k2 x2
  cases p2
  cases p1 with
  | list il rr =>
    rename_i tk l vs
    obtain ⟨c, hl⟩ := plain_sub (x1.gh.trans x2.hh) il
    have hlen := rr.length
    have hsz : vs.toArray.size * (n : Int).toNat ≤ 2 ^ 24 := by
      rw [List.size_toArray, hlen, Int.toNat_natCast]
      show 1 * n ≤ _
      omega
    have hemp : vs.toArray.isEmpty = false := by
      cases vs with
      | nil => cases hlen
      | cons a b => rfl
    refine mul_listP hl (by omega) (by omega) hsz ?_
    rw [hemp]
    simp only [Bool.false_eq_true, if_false, Int.toNat_natCast]
    have e : (List.foldl (fun x1 x2 => x1 ++ x2) (#[] : Array Value) (List.replicate n vs.toArray)) = (List.replicate n vs).flatten.toArray := by
      apply Array.toList_inj.mp
      rw [rep_flat, List.toList_toArray]
    rw [e]
    have rep : RepAll g2 (List.replicate n vs).flatten (List.replicate n d) := by
      have := repAll_replicate (rr.sub x2.gg) n
      have e2 : (List.replicate n [d]).flatten = List.replicate n d := by
        exact flatten_rep d n
      rw [e2] at this
      exact this
    refine wp_own (P := listP (List.replicate n d)) F2 o hx rfl ⟨_, 0, rfl, rep⟩ fun m' cm' s' F' => ⟨_, g2, m', cm', hr, F'⟩

/-- range(a, b, -1) -/
theorem op_range3 {a b c : Int} (hc : c ≠ 0) (hs : c.natAbs < 1073741824) : OpN X k (fun vs => call (.type "range") vs) [.int a, .int b, .int c] fun g v => IsRg g v a b c := by
  intro g s vs b0 kk r A E rm
  cases r with
  | cons a r =>
    cases r with
    | cons b r =>
      cases r with
      | cons c r =>
        cases r; cases a; cases b; cases c
        refine call_range_3 hc ⟨kp_mk (Sub.push .rfl _), _, Step.of_sub kk (Sub.push .rfl _), ?_⟩ (.inl (PyProof.noPylong_small hs))
        exact ⟨_, _, _, _, rfl, freeze_new (IsRange.new ..) fresh_size⟩
/-- a range downwards -/
theorem Its.range3 {f : Str} {p pos : Pos} {e₁ e₂ e₃ : Expr} {a b : Int} (hf : EvP X k sc σ (.Name f p) fun _ u => u = .type "range") (h : Ev X k sc σ e₁ (.int a)) (h2 : Ev X k sc σ e₂ (.int b)) (h3 : Ev X k sc σ e₃ (.int (-1))) (ha : -(2 ^ 61) ≤ a) (ha' : a < 2 ^ 61) (hb : -(2 ^ 61) ≤ b) (hb' : b < 2 ^ 61)
    (hp : plainE e₁ = true := by rfl) (hp2 : plainE e₂ = true := by rfl) (hp3 : plainE e₃ = true := by rfl)
    (hs : ∀ env x, foldedSetIterable (.Call (.Name f p) [e₁, e₂, e₃] [] pos) env x = pure x := by intro _ _; rfl) : Its X k sc σ (.Call (.Name f p) [e₁, e₂, e₃] [] pos) (rangeD a (-1) (a - b).toNat) := by
  refine ⟨(EvP.callT hf (.cons h (.cons h2 (.cons h3 .nil hp3) hp2) hp) (op_range3 (by decide) (by decide))).mono fun g v r s kk => iterOf_range kk r ?_ ?_, hs⟩
  · have e1 : Builtin.Range.rangeSize a b (-1) = if a > b then a - b else 0 := by
      unfold Builtin.Range.rangeSize
      have h1 : ¬ ((-1 : Int) > 0) := by decide
      rw [if_neg h1]
      have e : -(-1 : Int) = 1 := by decide
      rw [e, Int.ediv_one]
      split <;> omega
    unfold Builtin.Range.small
    rw [e1]
    simp only [Builtin.Range.rangeFitsLong, Bool.and_eq_true, Bool.or_eq_true, decide_eq_true_eq, beq_iff_eq, show ¬ ((-1 : Int) > 0) by decide, if_false]
    split <;> omega
  · unfold Builtin.Range.rangeSize
    have h1 : ¬ ((-1 : Int) > 0) := by decide
    rw [if_neg h1]
    have e : -(-1 : Int) = 1 := by decide
    rw [e, Int.ediv_one]
    split <;> omega

theorem join_nil : ∀ ys : List Str, Str.join (Str.ofString "") ys = ys.foldr (fun a b => a ++ b) ⟨#[]⟩
  | [] => rfl
  | [x] => by
    show x = x ++ (⟨#[]⟩ : Str)
    cases x
    show _ = Str.append _ _
    simp [Str.append]
  | x :: y :: r => by
    have ih := join_nil (y :: r)
    show x ++ Str.ofString "" ++ Str.join (Str.ofString "") (y :: r) = _
    rw [ih]
    have e : x ++ Str.ofString "" = x := by
      have e0 : Str.ofString "" = ⟨#[]⟩ := by decide
      rw [e0]
      cases x
      show Str.append _ _ = _
      simp [Str.append]
    rw [e]; rfl
theorem join_rows : ∀ rows : List (List Int), (rows.map strOf).foldr (fun a b => a ++ b) (⟨#[]⟩ : Str) = strOf rows.flatten
  | [] => rfl
  | r :: rows => by
    rw [List.map_cons, List.foldr_cons, join_rows rows, List.flatten_cons, strOf_append]
/-- ''.join(texts) -/
theorem Ev.join0 {n : Nat} {pc apos pos : Pos} {e : Expr} {rows : List (List Int)} (he : Ev X k sc σ e (.list (rows.map dText))) (hz : (rows.map (·.length)).sum ≤ 65536) (hline : (apos.endLine == pos.line) = true := by rfl) (hp : plainE e = true := by rfl)
    (hbase : ∀ env, attributeBase (.Constant (.str "") n pc) "join" env (eval (.Constant (.str "") n pc) env) = eval (.Constant (.str "") n pc) env := by intro _; rfl) :
    Ev X k sc σ (.Call (.Attribute (.Constant (.str "") n pc) "join" apos) [e] [] pos) (dText rows.flatten) := by
  refine EvP.meth1 (T := "str") (id := "str.join") (Po := fun g v => Rep g v (.str (Str.ofString ""))) Ev.str (fun _ _ _ k r => r.sub k) (fun g v s r kk => ?_) he F.plainAttrs_str F.slot_str_join F.type_str_join (fun g s u v b kk hu hv A E rm => ?_) hbase hline hp
  · cases r
    exact ⟨typeIs_str _ _ _, fun a e => nomatch e⟩
  · cases hu
    cases hv with
    | list i r =>
      have hi := strsAre_of r
      refine join_list (isList_sub kk i) (by rw [List.toList_toArray]; exact hi) ?_ fun t' tk => ?_
      · have e1 : ((rows.map strOf).map (·.length)) = rows.map (·.length) := by
          rw [List.map_map]
          apply List.map_congr_left
          intro r _
          exact strOf_length
        have e2 : (Str.ofString "").length = 0 := by decide
        rw [e1, e2, Nat.mul_zero]
        omega
      · have e : Txt.join (Str.ofString "") (rows.map strOf) = strOf rows.flatten := by
          rw [← join_rows, ← join_nil]; exact beq_iff_eq.mp (PyProof.Rows.join_plain_closes _ _)
        rw [e]
        exact Post.tok kk (.str _ _)
end
end Mine

namespace Mine
open PySem PySem.W PyProof.Rows PySem.Calls
set_option Elab.async false
set_option maxRecDepth 100000
set_option linter.unusedVariables false

/-- a table by texts -/
abbrev Tab := List (Str × Dat)
def tget (al : Tab) (k : Str) : Option Dat := (al.find? fun p => decide (p.1 = k)).map (·.2)
def tput (al : Tab) (k : Str) (d : Dat) : Tab := if al.any (fun p => decide (p.1 = k)) then al.map (fun p => if p.1 = k then (p.1, d) else p) else al ++ [(k, d)]
theorem tput_length_le (al : Tab) (k : Str) (d : Dat) : (tput al k d).length ≤ al.length + 1 := by
  unfold tput
  split
  · rw [List.length_map]; omega
  · rw [List.length_append]; exact Nat.le_refl _
theorem tget_tput (al : Tab) (k j : Str) (d : Dat) : tget (tput al k d) j = if j = k then some d else tget al j := by
  have hmap : ∀ al : Tab, ((al.map (fun p => if p.1 = k then (p.1, d) else p)).find? fun p => decide (p.1 = j)).map (·.2) = if j = k then (if al.any (fun p => decide (p.1 = k)) then some d else none) else tget al j := by
    intro al
    induction al with
    | nil => simp [tget]
    | cons a al ih =>
      rw [List.map_cons, List.find?_cons]
      by_cases h1 : a.1 = k
      · rw [if_pos h1]
        by_cases h2 : j = k
        · subst h2
          simp [h1]
        · have : ¬ a.1 = j := fun q => h2 (q.symm.trans h1)
          simp only [this, decide_false, if_neg h2] at ih ⊢
          rw [ih]
          unfold tget
          rw [List.find?_cons]
          simp [this]
      · rw [if_neg h1]
        by_cases h2 : a.1 = j
        · have : ¬ j = k := fun q => h1 (h2.trans q)
          simp only [h2, decide_true, if_neg this, Option.map_some]
          unfold tget
          rw [List.find?_cons]
          simp [h2]
        · simp only [h2, decide_false]
          rw [ih]
          by_cases h3 : j = k
          · subst h3
            have e : decide (a.1 = j) = false := by simpa using h2
            rw [if_pos rfl, if_pos rfl, List.any_cons, e, Bool.false_or]
          · rw [if_neg h3, if_neg h3]
            unfold tget
            rw [List.find?_cons]
            simp [h2]
  unfold tput
  by_cases ha : al.any (fun p => decide (p.1 = k)) = true
  · rw [if_pos ha]
    have := hmap al
    rw [if_pos ha] at this
    exact this
  · rw [if_neg ha]
    unfold tget
    rw [List.find?_append]
    have hno : al.find? (fun p => decide (p.1 = k)) = none := by
      rw [List.find?_eq_none]
      intro p hp hq
      exact ha (List.any_eq_true.mpr ⟨p, hp, hq⟩)
    by_cases h3 : j = k
    · subst h3
      rw [hno]; simp
    · rw [if_neg h3]
      have : ¬ k = j := fun q => h3 q.symm
      simp [this]

def keysV (al : Tab) (vs : List Value) : List (Str × Value) := (al.map (·.1)).zip vs
theorem keysV_get {g : Heap} : ∀ {al : Tab} {vs : List Value}, RepAll g vs (al.map (·.2)) → ∀ k : Str, match tget al k with | some d => ∃ v, valueAt (keysV al vs) k = some v ∧ Rep g v d | none => valueAt (keysV al vs) k = none
  | [], _, .nil, k => by simp [tget, keysV, valueAt]
  | p :: al, _, .cons (v := v) (vs := vs) r rr, k => by
    have ih := keysV_get rr k
    unfold tget keysV valueAt at *
    simp only [List.map_cons, List.zip_cons_cons, List.find?_cons]
    by_cases h : p.1 = k
    · simp only [h, decide_true, Option.map_some]
      exact ⟨v, rfl, r⟩
    · simp only [h, decide_false]
      exact ih
theorem keysV_any {al : Tab} {vs : List Value} (hl : vs.length = al.length) (k : Str) : (keysV al vs).any (fun kv => decide (kv.1 = k)) = al.any (fun p => decide (p.1 = k)) := by
  induction al generalizing vs with
  | nil => simp [keysV]
  | cons p al ih =>
    cases vs with
    | nil => simp at hl
    | cons v vs =>
      have := ih (vs := vs) (by simpa using hl)
      unfold keysV at *
      simp only [List.map_cons, List.zip_cons_cons, List.any_cons, this]
theorem keysV_put {g : Heap} {al : Tab} {vs : List Value} {k : Str} {v : Value} {d : Dat} (r : RepAll g vs (al.map (·.2))) (hv : Rep g v d) : ∃ vs', stored (keysV al vs) k v = keysV (tput al k d) vs' ∧ RepAll g vs' ((tput al k d).map (·.2)) := by
  have hl : vs.length = al.length := by rw [r.length, List.length_map]
  unfold stored tput
  rw [show ((keysV al vs).any fun kv => decide (kv.1 = k)) = al.any (fun p => decide (p.1 = k)) from keysV_any hl k]
  split
  · clear hl
    induction al generalizing vs with
    | nil => cases r; exact ⟨[], by simp [keysV], .nil⟩
    | cons p al ih =>
      cases r with
      | cons r1 r =>
        rename_i h v1 vs1
        by_cases hany : al.any (fun p => decide (p.1 = k)) = true
        · obtain ⟨vs', e1, e2⟩ := ih r hany
          by_cases hp : p.1 = k
          · refine ⟨v :: vs', ?_, ?_⟩
            · unfold keysV at *
              simp only [List.map_cons, List.zip_cons_cons, hp, if_true, e1]
            · simp only [List.map_cons, hp, if_true]; exact .cons hv e2
          · refine ⟨v1 :: vs', ?_, ?_⟩
            · unfold keysV at *
              simp only [List.map_cons, List.zip_cons_cons, hp, if_false, e1]
            · simp only [List.map_cons, hp, if_false]; exact .cons r1 e2
        · have none1 : ∀ q ∈ al, ¬ q.1 = k := fun q hq e => hany (List.any_eq_true.mpr ⟨q, hq, by simpa using e⟩)
          have same1 : al.map (fun p => if p.1 = k then (p.1, d) else p) = al := by
            have : ∀ l : Tab, (∀ q ∈ l, ¬ q.1 = k) → l.map (fun p => if p.1 = k then (p.1, d) else p) = l := by
              intro l hh
              induction l with
              | nil => rfl
              | cons a l ih => rw [List.map_cons, if_neg (hh a (by simp)), ih fun q hq => hh q (List.mem_cons_of_mem _ hq)]
            exact this al none1
          have same2 : (keysV al vs1).map (fun kv => if kv.1 = k then (kv.1, v) else kv) = keysV al vs1 := by
            have : ∀ l : List (Str × Value), (∀ q ∈ l, ¬ q.1 = k) → l.map (fun kv => if kv.1 = k then (kv.1, v) else kv) = l := by
              intro l hh
              induction l with
              | nil => rfl
              | cons a l ih => rw [List.map_cons, if_neg (hh a (by simp)), ih fun q hq => hh q (List.mem_cons_of_mem _ hq)]
            refine this _ fun q hq => ?_
            have := (List.of_mem_zip hq).1
            obtain ⟨q', h1, h2⟩ := List.mem_map.mp this
            rw [← h2]; exact none1 q' h1
          have hp : p.1 = k := by
            rw [List.any_cons, Bool.or_eq_true] at h
            rcases h with q | q
            · simpa using q
            · exact absurd q hany
          refine ⟨v :: vs1, ?_, ?_⟩
          · unfold keysV at *
            simp only [List.map_cons, List.zip_cons_cons, hp, if_true, same1, same2]
          · simp only [List.map_cons, hp, if_true, same1]; exact .cons hv r
  · refine ⟨vs ++ [v], ?_, ?_⟩
    · unfold keysV
      rw [List.map_append, List.zip_append (by rw [List.length_map]; exact hl.symm)]; rfl
    · rw [List.map_append]
      exact (RepAll.one hv).append r

def tabP (X : Cx) (al : Tab) (a : Addr) (o : Obj) (g : Heap) : Prop := sysModules < a ∧ ∃ vs, o.IsDictOf (strKind X.prog X.w) (keysV al vs) ∧ RepAll g vs (al.map (·.2))
def LV.tab (X : Cx) (al : Tab) : LV := .obj (tabP X al) fun _ _ _ _ k ⟨b, vs, e, r⟩ => ⟨b, vs, e, r.sub k⟩
theorem big_of {X : Cx} {g : Heap} {s : Shared} (b : Sub X.h0 g) (kk : Sub g s.heap) : sysModules < s.heap.objs.size := by
  obtain ⟨ob, _, _, ho, _⟩ := X.hg
  have := Heap.lt_size (kk _ _ (b _ _ ho))
  exact Nat.lt_trans (show sysModules < mainGlobals by decide) this

section
variable {X : Cx} {k : Nat} {sc : Scope} {σ τ : Sto}
/-- x = {} -/
theorem Ex.assignTab {x : Str} {px pos pl : Pos} {R : Out → Prop} (hr : R (.next (upd x (LV.tab X []) τ))) (hx : canStore sc x = true := by rfl)
    (hs : ∀ env, swapsWith (.Dict [] [] pl) (some (.Name x px)) pos.line env = pure false := by intro _; rfl) : Ex X k sc τ (exec (.Assign [.Name x px] (.Dict [] [] pl) pos)) R := by
  intro A env s₀ g₀ H g m cm s E r o b F
  refine wpAny_Assign_Name (wpAny_Dict_empty ?_) (hs env)
  have isd : ({ cls := .type "dict", data := .dict #[] } : Obj).IsDictOf (strKind X.prog X.w) [] := by
    obtain ⟨o', h1, h2⟩ := Heap.dictOf_iff.mp (Heap.DictOf.new (knd := strKind X.prog X.w) s.heap)
    rw [Heap.get?_push_size _ rfl] at h1
    cases h1
    exact h2
  exact wp_own (P := tabP X []) F o hx rfl ⟨big_of (b.trans F.st.gg) F.st.gh, [], isd, .nil⟩ fun m' cm' s' F' => ⟨_, g, m', cm', hr, F'⟩

theorem isText (prog : Program) (w : World) (y : Str) (t : Tok) : (strKind prog w).is y (.str y t) = true := strKind_is prog w y t
/-- e not in x, x an own table -/
theorem Ev.notInTab {x : Str} {px pos : Pos} {e : Expr} {al : Tab} {y : Str} (hx : σ.lookup x = some (LV.tab X al)) (he : Ev X k sc σ e (.str y)) (hm : behindInMarks .NotIn (.Name x px) = false := by with_unfolding_all rfl)
    (hd1 : (x == ("__debug__" : Str)) = false := by decide) (hn1 : (x == ("__classdict__" : Str)) = false := by decide) :
    Ev X k sc σ (.Compare e [.NotIn] [.Name x px] pos) (.bool (!(tget al y).isSome)) := by
  intro A env g s E rm o bs q
  refine wpAny_Compare1 (wp_ev (he A env g s E rm o bs q) fun u g1 s1 k1 x1 p1 => wp_nameO o (q.step x1) hx (fun a ob ho ⟨hb, vs, hd, hv⟩ => ?_) hd1 hn1) hm
  cases p1
  have dm : s1.heap.DictOf (strKind X.prog X.w) a (keysV al vs) := Heap.dictOf_iff.mpr ⟨ob, ho, hd⟩
  refine wpAny_notIn_of (isText _ _ y _) (by simpa using Nat.ne_of_gt hb) dm.mapOf ?_
  have e : (valueAt (keysV al vs) y).isSome = (tget al y).isSome := by
    have := keysV_get hv y
    cases h : tget al y with
    | none => rw [h] at this; simp only at this; rw [this]; rfl
    | some d => rw [h] at this; obtain ⟨v, e1, _⟩ := this; rw [e1]; rfl
  rw [e]
  exact .trans k1 x1 (Post.tok x1.gh (.bool _))
/-- x[e] of an own table -/
theorem Ev.itemTab {x : Str} {px pos : Pos} {e : Expr} {al : Tab} {y : Str} {d : Dat} (hx : σ.lookup x = some (LV.tab X al)) (he : Ev X k sc σ e (.str y)) (hd : tget al y = some d)
    (hs : ∀ a t, subscripted e false (.ref a) (.str y t) = operate [.ref a, .str y t] (getItem (.ref a) (.str y t)) := by intro _ _; with_unfolding_all rfl)
    (hd1 : (x == ("__debug__" : Str)) = false := by decide) (hn1 : (x == ("__classdict__" : Str)) = false := by decide) : Ev X k sc σ (.Subscript (.Name x px) e pos) d := by
  intro A env g s E rm o bs q
  refine Subscript_ (wp_nameO o q hx (fun a ob ho ⟨hb, vs, hdi, hv⟩ => ?_) hd1 hn1)
  refine wp_ev (he A env g s E rm o bs q) fun u g1 s1 k1 x1 p1 => ?_
  cases p1
  have dm : s1.heap.DictOf (strKind X.prog X.w) a (keysV al vs) := Heap.dictOf_iff.mpr ⟨ob, x1.hh _ _ ho, hdi⟩
  have := keysV_get hv y
  rw [hd] at this
  obtain ⟨v, e1, e2⟩ := this
  refine tail_any dm.typeIs slot_dict_getitem.lookup (wpAny_getItem_of (isText _ _ y _) dm.mapOf e1 ?_) (hs _ _)
  exact .trans k1 x1 (Post.tok x1.gh (e2.sub x1.gg))
/-- x[e1] = e2 of an own table -/
theorem Ex.setTab {x : Str} {px ps pos : Pos} {e1 e2 : Expr} {al : Tab} {y : Str} {d : Dat} {R : Out → Prop} (hx : τ.lookup x = some (LV.tab X al)) (h2 : Ev X k sc τ e2 d) (h1 : Ev X k sc τ e1 (.str y)) (hz : al.length ≤ sizeLine)
    (hr : R (.next (upd x (LV.tab X (tput al y d)) τ))) (hs : ∀ env, swapsWith e2 (some (.Subscript (.Name x px) e1 ps)) pos.line env = pure false := by intro _; rfl) (hd1 : (x == ("__debug__" : Str)) = false := by decide) :
    Ex X k sc τ (exec (.Assign [.Subscript (.Name x px) e1 ps] e2 pos)) R := by
  intro A env s₀ g₀ H g m cm s E r o b F
  refine wpAny_Assign_Subscript (wp_ev (h2 A env g s E r o (b.trans F.st.gg) F.sto) fun v g1 s1 k1 x1 p1 => ?_) (hs env)
  have F1 := F.ev k1 x1
  obtain ⟨w, hv, ad, ob, ev, o1, ⟨hb, vs, hdi, rp⟩, o3, o4, o5, o6, o7⟩ := F1.var x _ hx
  subst ev
  refine holds_name F1 o hv ?_ hd1
  refine wp_ev (h1 A env g1 s1 E r o (b.trans F1.st.gg) F1.sto) fun u g2 s2 k2 x2 p2 => ?_
  have F2 := F1.ev k2 x2
  cases p2
  have dm : s2.heap.DictOf (strKind X.prog X.w) ad (keysV al vs) := Heap.dictOf_iff.mpr ⟨ob, x2.hh _ _ o1, hdi⟩
  obtain ⟨vs', ep, rp'⟩ := keysV_put (k := y) (rp.sub x2.gg) (p1.sub x2.gg)
  have hkl : (keysV al vs).length ≤ sizeLine := by
    unfold keysV
    rw [List.length_zip, List.length_map]
    omega
  refine wpAny_setItem_pairs (isText _ _ y _) dm (fun h' hm hs' => ?_) hkl
  rw [ep] at hm
  obtain ⟨ob', ho', hd'⟩ := Heap.dictOf_iff.mp hm
  exact ⟨_, g2, m, cm, hr, F2.mutate (lv := LV.tab X al) (tk := s2.toks + 1) hx hv hs'.extBut ⟨ob', ho', hb, vs', hd', rp'⟩⟩
end
end Mine

namespace Mine
open PySem PySem.W PyProof.Rows PySem.Calls
set_option Elab.async false
set_option maxRecDepth 100000
set_option linter.unusedVariables false
section
variable {X : Cx} {k : Nat} {sc : Scope} {σ τ : Sto}
theorem op_notinS {x : Str} {c : Nat} : Op2 X k (compareOp .NotIn) (.str ⟨#[c]⟩) (.str x) (.bool (!decide (c ∈ x.cps.toList))) := by
  intro g s u v b0 kk hu hv; cases hu; cases hv
  refine Does.tok kk fun A E Q r h => PyProof.Rows.notIn_str ?_
  rw [StrLaws.found_one]
  exact h _ _ (.bool _)
end
end Mine

namespace Mine
open PySem PySem.W PyProof.Rows PySem.Calls
set_option Elab.async false
set_option maxRecDepth 100000
set_option linter.unusedVariables false

abbrev body : List Stmt := PySem.Challenge.rw_kq0014_01.prog.main.body
abbrev cpS : Stmt := stAt body 11
abbrev fsS : Stmt := stAt body 9

section
variable {X : Cx} {k : Nat}

theorem cp_tail (N : Free X) {mr : List (Str × Const)} {τ : Sto} {mk : List Int → Dat} {it : Int → Dat} {ok : List Int → Prop} (K : SeqK X mk it ok) {rows : List (List Int)} {d : Dat} (hm : τ.lookup ("m" : Str) = some (.dat d)) (hc : Cont mk rows d) (hn : rows ≠ []) (ho : ∀ r ∈ rows, ok r) (hl : ∀ r ∈ rows, r.length < 2 ^ 61) :
    Ex X (k + 2) (fnS cpS mr) τ (execs (List.drop 2 (fnB cpS))) (FnOut (· = mk (lcp2 (minRow rows) (maxRow rows)))) := by
  have m1 : minRow rows ∈ rows := argBest_mem _ hn
  have m2 : maxRow rows ∈ rows := argBest_mem _ hn
  have hle : ¬ maxRow rows < minRow rows := maxRow_spec m1
  refine Ex.cons (Ex.assign (EvP.callB (EvP.builtin rfl N.min rfl (by decide)) (.cons (.local hm) .nil) (op_min K hc hn ho)) ?_)
  refine Ex.cons (Ex.assign (EvP.callB (EvP.builtin rfl N.max rfl (by decide)) (.cons (.local (upd_other (by decide) hm)) .nil) (op_max K hc hn ho)) ?_)
  generalize minRow rows = a at *
  generalize maxRow rows = b at *
  refine Ex.cons (Ex.forEnum (EvP.builtin rfl N.enumerate rfl (by decide)) (.local (upd_other (by decide) (upd_same rfl))) (fun g s v kk r => K.enum _ g s v a (ho a m1) kk r)
    (fun i τ' => τ'.lookup ("s1" : Str) = some (.dat (mk a)) ∧ τ'.lookup ("s2" : Str) = some (.dat (mk b)) ∧ a.take i = b.take i)
    ⟨upd_other (by decide) (upd_same rfl), upd_same rfl, by simp⟩ (fun i τ' d hd ⟨h1, h2, h3⟩ => ?_) (fun τ' ⟨h1, h2, h3⟩ => ?_))
  · obtain ⟨x, hx, rfl⟩ : ∃ x, a[i]? = some x ∧ d = it x := by
      rw [List.getElem?_map] at hd
      cases e : a[i]? with
      | none => rw [e] at hd; cases hd
      | some x => rw [e] at hd; exact ⟨x, rfl, by cases hd; rfl⟩
    obtain ⟨hi, hx'⟩ := List.getElem?_eq_some_iff.mp hx
    have hib : i < b.length := in_bounds h3 hi hle
    have hib' : b[i]? = some b[i] := by simp [hib]
    have hlb := hl b m2
    have l1 := upd_other (x := ("c" : Str)) (lv := .dat (it x)) (by decide) (upd_other (x := ("i" : Str)) (lv := .dat (.int i)) (by decide) h1)
    have l2 := upd_other (x := ("c" : Str)) (lv := .dat (it x)) (by decide) (upd_other (x := ("i" : Str)) (lv := .dat (.int i)) (by decide) h2)
    have li := upd_other (x := ("c" : Str)) (lv := .dat (it x)) (by decide) (upd_same (x := ("i" : Str)) (y := ("i" : Str)) (lv := .dat (.int i)) (τ := τ') rfl)
    refine Ex.last (Ex.if (EvT.cmp (.local (upd_same rfl)) (K.item (ho b m2) (.local l2) (.local li) hib' (by omega)) (K.ne _ a b _ _ (ho a m1) (ho b m2) (List.mem_of_getElem? hx) (List.mem_of_getElem? hib'))) (fun hc => ?_) fun hc => ?_)
    · refine Ex.last (Ex.return (K.slice (ho a m1) (.local l1) (.local li)) ?_)
      have hne : x ≠ b[i] := by simpa using hc
      show _ = mk (lcp2 a b)
      rw [lcp2_stop h3 hi hib (by rw [hx']; exact hne)]
    · refine Ex.nil ⟨l1, l2, ?_⟩
      have he : x = b[i] := by simpa using hc
      rw [List.take_add_one, List.take_add_one, h3, hx, hib', he]
  · refine Ex.last (Ex.return (.local h1) ?_)
    have hp : a <+: b := by
      rw [List.length_map] at h3
      rw [List.take_of_length_le (Nat.le_refl _)] at h3
      rw [h3]; exact List.take_prefix _ _
    show _ = mk (lcp2 a b)
    rw [lcp2_whole hp]

theorem fspath_text (N : Free X) {mr : List (Str × Const)} (D : IsDef X "fspath" (fnP fsS) (fnB fsS) (fnS fsS mr)) {x : Str} : FnD X (k + 1) "fspath" [.str x] (.str x) := by
  refine FnD.intro D ["path"] rfl (fun pm code doc vs hv => ?_) (by decide) (by rfl) ?_
  · match vs, hv with
    | [v], _ => rfl
  refine Ex.cons (Ex.assignV (u := .type "str") (EvP.callT (EvP.builtin rfl N.type rfl (by decide)) (.cons (.local rfl) .nil) (op_type (T := "str") (fun g v s r _ => by cases r; exact typeIs_str _ _ _))) ?_)
  refine Ex.cons (Ex.if (EvT.val (Ev.issub (D := "str") (b1 := true) (b2 := false) (EvP.builtin rfl N.issubclass rfl (by decide)) (EvP.localV rfl) (EvP.builtin rfl N.str rfl (by decide)) (EvP.builtin rfl N.bytes rfl (by decide)) F.isi_meta_str ⟨⟨_, rfl, F.isi_meta_str, F.sub_str_str⟩, ⟨_, rfl, F.isi_meta_bytes, F.sub_str_bytes⟩, trivial⟩) trivial) (fun _ => ?_) fun hc => ?_)
  · exact Ex.last (Ex.return (.local rfl) rfl)
  · cases hc

theorem cp_texts (N : Free X) {mr mf : List (Str × Const)} (D : IsDef X "commonprefix" (fnP cpS) (fnB cpS) (fnS cpS mr)) (Df : IsDef X "fspath" (fnP fsS) (fnB fsS) (fnS fsS mf)) {rows : List (List Int)} (hn : rows ≠ []) (ho : ∀ r ∈ rows, okT r) (hz : rows.length ≤ sizeLine) :
    FnD X (k + 6) "commonprefix" [.list (rows.map dText)] (dText (lcp2 (minRow rows) (maxRow rows))) := by
  refine FnD.intro D ["m"] rfl (fun pm code doc vs hv => ?_) (by decide) (by rfl) ?_
  · match vs, hv with
    | [v], _ => rfl
  obtain ⟨r, rs, rfl⟩ := List.exists_cons_of_ne_nil hn
  have hzz : (rs.length + 1 : Nat) ≤ sizeLine := hz
  have hbig : sizeLine < 2 ^ 62 := by decide
  refine Ex.cons (Ex.if (EvT.not (EvT.val (.local rfl) (by show ((List.map dText (r :: rs)).length : Int) < 2 ^ 63; rw [List.length_map, List.length_cons]; omega))) (fun hc => ?_) fun hc => ?_)
  · cases hc
  refine Ex.nil ?_
  refine Ex.cons (Ex.if (EvT.not (EvT.val (Ev.isin (Tx := "str") (d := dText r) (b1 := false) (b2 := false) (EvP.builtin rfl N.isinstance rfl (by decide)) (Ev.item (.local rfl) .int (by decide) (by decide) rfl) (EvP.builtin rfl N.list rfl (by decide)) (EvP.builtin rfl N.tuple rfl (by decide)) ?_ (fun g x hr => ?_)) trivial)) (fun hc => ?_) fun hc => ?_)
  · intro g v s hr kk
    cases hr
    exact typeIs_str _ _ _
  · cases hr
    exact .cons (Answers.of_false_str (by decide +kernel) F.isi_meta_list F.sub_str_list) (.cons (Answers.of_false_str (by decide +kernel) F.isi_meta_tuple F.sub_str_tuple) .nil)
  · refine Ex.last (Ex.assign (d := .tuple ((r :: rs).map dText)) (Ev.tupleMap (k := k + 1) (EvP.builtin rfl N.tuple rfl (by decide)) (EvP.builtin rfl N.map rfl (by decide)) (.local rfl) rfl (fun d hd => ?_) (by simp) (fun d hd => ?_) (by rw [List.length_map]; exact hz)) ?_)
    · obtain ⟨x, _, rfl⟩ := List.mem_map.mp hd; trivial
    · obtain ⟨x, _, rfl⟩ := List.mem_map.mp hd; exact fspath_text N Df
    · exact cp_tail (k := k + 3) N (seqK_text X) rfl (.inr rfl) hn ho fun x hx => Nat.lt_of_le_of_lt (ho x hx).2 (by decide)
  · cases hc
end
end Mine

namespace Mine
open PySem PySem.W PyProof.Rows PySem.Calls
set_option Elab.async false
set_option maxRecDepth 100000
set_option linter.unusedVariables false
/-- the piece from i to j was seen at an earlier place -/
def Old (w : List Int) (i j : Nat) : Prop := ∃ e, e < i ∧ (w.drop e).take (j - i) = (w.drop i).take (j - i)
def Piece (w : List Int) (i j : Nat) : Prop := j = i + 1 ∨ Old w i j
theorem piece_sub {w : List Int} {i i' j : Nat} (h : Piece w i j) (h1 : i ≤ i') (h2 : i' < j) : Piece w i' j := by
  rcases h with h | ⟨e, he, h⟩
  · have : i' = i := by omega
    subst this; exact .inl h
  · refine .inr ⟨e + (i' - i), by omega, ?_⟩
    have h3 := congrArg (List.drop (i' - i)) h
    rw [List.drop_take, List.drop_take, List.drop_drop, List.drop_drop] at h3
    have e1 : j - i - (i' - i) = j - i' := by omega
    have e2 : i + (i' - i) = i' := by omega
    rw [e1, e2] at h3
    exact h3
/-- F counts the fewest pieces of the rest, from place i on -/
structure FewFrom (w : List Int) (F : Nat → Int) (i : Nat) : Prop where
  last : F w.length = 0
  some : ∀ a, i ≤ a → a < w.length → ∃ j, a < j ∧ j ≤ w.length ∧ Piece w a j ∧ F a = 1 + F j
  all : ∀ a, i ≤ a → a < w.length → ∀ j, a < j → j ≤ w.length → Piece w a j → F a ≤ 1 + F j
theorem few_mono {w : List Int} {F : Nat → Int} (h : FewFrom w F 0) : ∀ (m i i' : Nat), w.length - i ≤ m → i ≤ i' → i' ≤ w.length → F i' ≤ F i := by
  intro m
  induction m with
  | zero => intro i i' h1 h2 h3; rw [show i' = i by omega]; exact Int.le_refl _
  | succ m ih =>
    intro i i' h1 h2 h3
    rcases Nat.lt_or_ge i w.length with h4 | h4
    · obtain ⟨j, p1, p2, p3, p4⟩ := h.some i (Nat.zero_le _) h4
      rcases Nat.lt_or_ge i' j with h5 | h5
      · have := h.all i' (Nat.zero_le _) (by omega) j h5 p2 (piece_sub p3 h2 h5)
        omega
      · have := ih j i' (by omega) h5 h3
        omega
    · rw [show i' = i by omega]; exact Int.le_refl _
/-- the longest piece is a best first piece -/
theorem few_greedy {w : List Int} {F : Nat → Int} (h : FewFrom w F 0) {i j : Nat} (hi : i < j) (hj : j ≤ w.length) (hp : Piece w i j) (hmax : ∀ j', i < j' → j' ≤ w.length → Piece w i j' → j' ≤ j) : F i = 1 + F j := by
  obtain ⟨j', p1, p2, p3, p4⟩ := h.some i (Nat.zero_le _) (by omega)
  have h1 := few_mono h _ j' j (Nat.le_refl _) (hmax j' p1 p2 p3) hj
  have h2 := h.all i (Nat.zero_le _) (by omega) j hi hj hp
  omega

/-- the best length of a meeting of the rest from p with the rest from an earlier place below e -/
structure Best (w : List Int) (p e L : Nat) : Prop where
  up : ∀ e', e' < e → (lcp2 (w.drop p) (w.drop e')).length ≤ L
  at_ : L = 0 ∨ ∃ e', e' < e ∧ lcp2 (w.drop p) (w.drop e') = (w.drop p).take L ∧ p + L ≤ w.length
theorem lcp2_take (a b : List Int) : lcp2 a b = a.take (lcp2 a b).length := (List.prefix_iff_eq_take.mp (lcp2_left a b))
theorem best_zero (w : List Int) (p : Nat) : Best w p 0 0 := ⟨fun e' h => by omega, .inl rfl⟩
theorem best_same {w : List Int} {p e L : Nat} (h : Best w p e L) (hl : ¬ L < (lcp2 (w.drop p) (w.drop e)).length) : Best w p (e + 1) L := by
  refine ⟨fun e' h' => ?_, ?_⟩
  · rcases Nat.lt_or_ge e' e with h2 | h2
    · exact h.up e' h2
    · rw [show e' = e by omega]; omega
  · rcases h.at_ with h3 | ⟨e', h3, h4⟩
    · exact .inl h3
    · exact .inr ⟨e', by omega, h4⟩
theorem best_next {w : List Int} {p e L : Nat} (h : Best w p e L) (hl : L < (lcp2 (w.drop p) (w.drop e)).length) (hp : p ≤ w.length) : Best w p (e + 1) (lcp2 (w.drop p) (w.drop e)).length := by
  refine ⟨fun e' h' => ?_, .inr ⟨e, by omega, lcp2_take _ _, ?_⟩⟩
  · rcases Nat.lt_or_ge e' e with h2 | h2
    · have := h.up e' h2; omega
    · rw [show e' = e by omega]; exact Nat.le_refl _
  · have := (lcp2_left (w.drop p) (w.drop e)).length_le
    rw [List.length_drop] at this
    omega
theorem old_le {w : List Int} {p L j : Nat} (h : Best w p p L) (hj : p < j) (hn : j ≤ w.length) (ho : Old w p j) : j ≤ p + L := by
  obtain ⟨e, he, h1⟩ := ho
  have h2 : (w.drop p).take (j - p) <+: lcp2 (w.drop p) (w.drop e) := lcp2_most (List.take_prefix _ _) (by rw [← h1]; exact List.take_prefix _ _)
  have h3 := h2.length_le
  rw [List.length_take, List.length_drop] at h3
  have h4 := h.up e he
  omega
theorem best_piece {w : List Int} {p L : Nat} (h : Best w p p L) (hL : 0 < L) : Piece w p (p + L) ∧ p + L ≤ w.length := by
  rcases h.at_ with h1 | ⟨e, h1, h2, h3⟩
  · omega
  · refine ⟨.inr ⟨e, h1, ?_⟩, h3⟩
    have h4 := lcp2_right (w.drop p) (w.drop e)
    rw [h2] at h4
    have h5 := List.prefix_iff_eq_take.mp h4
    rw [List.length_take, List.length_drop] at h5
    rw [show p + L - p = L by omega]
    rw [show min L (w.length - p) = L by omega] at h5
    exact h5.symm
theorem best_few {w : List Int} {F : Nat → Int} (hF : FewFrom w F 0) {p L : Nat} (h : Best w p p L) (hp : p < w.length) : F p = 1 + F (p + max 1 L) := by
  rcases Nat.eq_zero_or_pos L with h0 | h0
  · subst h0
    refine few_greedy hF (by omega) (by omega) (.inl rfl) fun j' h1 h2 h3 => ?_
    rcases h3 with h3 | h3
    · omega
    · have := old_le h h1 h2 h3; omega
  · obtain ⟨h1, h2⟩ := best_piece h h0
    rw [show max 1 L = L by omega]
    refine few_greedy hF (by omega) h2 h1 fun j' h3 h4 h5 => ?_
    rcases h5 with h5 | h5
    · omega
    · exact old_le h h3 h4 h5

/-- the sign at i is new -/
def newAt (w : List Int) (i : Nat) : Bool := !decide (w.getD i 0 ∈ w.take i)
def newTo (w : List Int) (p : Nat) : List Int := ((List.range p).filter (newAt w)).map (w.getD · 0)
theorem newTo_succ_new {w : List Int} {p : Nat} (h : newAt w p = true) : newTo w (p + 1) = newTo w p ++ [w.getD p 0] := by
  unfold newTo
  rw [List.range_succ, List.filter_append, List.map_append]
  simp [h]
theorem newTo_old {w : List Int} {p : Nat} : ∀ L : Nat, (∀ i, p ≤ i → i < p + L → newAt w i = false) → newTo w (p + L) = newTo w p
  | 0, _ => rfl
  | L + 1, h => by
    have ih := newTo_old L fun i h1 h2 => h i h1 (by omega)
    rw [← ih]
    unfold newTo
    rw [← Nat.add_assoc, List.range_succ, List.filter_append, List.map_append]
    have := h (p + L) (by omega) (by omega)
    simp [this]
theorem best_new {w : List Int} {p : Nat} (h : Best w p p 0) (hp : p < w.length) : newAt w p = true := by
  unfold newAt
  rw [Bool.not_eq_true', decide_eq_false_iff_not]
  intro hm
  obtain ⟨e, he, h1⟩ := List.mem_iff_getElem.mp hm
  rw [List.length_take] at he
  rw [List.getElem_take] at h1
  have := old_le h (j := p + 1) (by omega) (by omega) ⟨e, by omega, ?_⟩
  · omega
  · rw [show p + 1 - p = 1 by omega, List.drop_eq_getElem_cons (by omega), List.drop_eq_getElem_cons hp, List.take_succ_cons, List.take_succ_cons, List.take_zero, List.take_zero, h1]
    simp [hp]
theorem best_seen {w : List Int} {p L : Nat} (h : Best w p p L) (i : Nat) (h1 : p ≤ i) (h2 : i < p + L) : newAt w i = false := by
  have hL : 0 < L := by omega
  obtain ⟨h3, h4⟩ := best_piece h hL
  have h5 : Old w p (p + L) := by
    rcases h.at_ with q | ⟨e, q1, q2, q3⟩
    · omega
    · have h4 := lcp2_right (w.drop p) (w.drop e)
      rw [q2] at h4
      have h5 := List.prefix_iff_eq_take.mp h4
      rw [List.length_take, List.length_drop] at h5
      refine ⟨e, q1, ?_⟩
      rw [show p + L - p = L by omega]
      rw [show min L (w.length - p) = L by omega] at h5
      exact h5.symm
  obtain ⟨e, he, h6⟩ := h5
  rw [show p + L - p = L by omega] at h6
  have h7 := congrArg (fun l : List Int => l[i - p]?) h6
  simp only [List.getElem?_take, List.getElem?_drop] at h7
  rw [if_pos (by omega), show p + (i - p) = i by omega] at h7
  unfold newAt
  rw [Bool.not_eq_false', decide_eq_true_iff]
  have hi : i < w.length := by omega
  have e1 : w.getD i 0 = w[i] := by simp [hi]
  rw [e1]
  rw [if_pos (by omega), List.getElem?_eq_getElem hi, List.getElem?_eq_getElem (by omega)] at h7
  refine List.mem_iff_getElem.mpr ⟨e + (i - p), by rw [List.length_take]; omega, ?_⟩
  rw [List.getElem_take]
  exact Option.some.inj h7
end Mine

namespace Mine
open PySem PySem.W PyProof.Rows PySem.Calls
set_option Elab.async false
set_option maxRecDepth 100000
set_option linter.unusedVariables false
abbrev phrasesS : Stmt := stAt body 13
abbrev fewestS : Stmt := stAt body 14
abbrev lawS : Stmt := stAt body 15
theorem Ex.mid {X : Cx} {k : Nat} {sc : Scope} {τ : Sto} {st : Stmt} {rest : List Stmt} {R : Out → Prop} (Mid : Sto → Prop) (h : Ex X k sc τ (exec st) (fun o => ∃ τ', o = .next τ' ∧ Mid τ')) (r : ∀ τ', Mid τ' → Ex X k sc τ' (execs rest) R) : Ex X k sc τ (execs (st :: rest)) R :=
  Ex.cons (h.mono fun o ⟨τ', e, q⟩ => by subst e; exact r τ' q)
/-- a text of the law's: up to 63 of the signs a, b, c -/
def Abc (w : List Int) : Prop := w.length ≤ 63 ∧ ∀ c ∈ w, c = 97 ∨ c = 98 ∨ c = 99
theorem abc_okT {w : List Int} (h : Abc w) : okT w := ⟨fun n hn => by rcases h.2 n hn with e | e | e <;> omega, small _ (by have := h.1; omega)⟩
theorem abc_drop {w : List Int} (h : Abc w) (n : Nat) : Abc (w.drop n) := ⟨by rw [List.length_drop]; have := h.1; omega, fun c hc => h.2 c (List.mem_of_mem_drop hc)⟩
theorem abc_take {w : List Int} (h : Abc w) (n : Nat) : Abc (w.take n) := ⟨by rw [List.length_take]; have := h.1; omega, fun c hc => h.2 c (List.mem_of_mem_take hc)⟩
theorem cp_two (a b : List Int) : lcp2 (minRow [a, b]) (maxRow [a, b]) = lcp2 a b :=
  (isCp_minMax (rows := [a, b]) (by simp)).uniq ⟨fun r hr => by
    rcases List.mem_cons.mp hr with h | h
    · subst h; exact lcp2_left _ _
    · rw [List.mem_singleton.mp h]; exact lcp2_right _ _, fun p hp => lcp2_most (hp a (by simp)) (hp b (by simp))⟩
section
variable {X : Cx} {k : Nat}
theorem phrases_fn (N : Free X) (Sf : Stands X "fspath" fsS) (Sc : Stands X "commonprefix" cpS) (S : Stands X "_law_phrases" phrasesS) {w : List Int} (hw : Abc w) :
    Fn X (k + 7) "_law_phrases" [dText w] fun g v => ∃ d, (∃ rows : List (List Int), d = .tuple [.list (rows.map dText), dText (newTo w w.length)] ∧ rows.flatten = w ∧ rows.length ≤ 63 ∧ ∀ F, FewFrom w F 0 → F 0 = rows.length) ∧ Rep g v d := by
  obtain ⟨m1, Dc⟩ := Sc
  obtain ⟨m2, Df⟩ := Sf
  obtain ⟨mm, D⟩ := S
  have h63 := hw.1
  refine Fn.intro D ["text"] rfl (fun pm code doc vs hv => ?_) (by decide) (by rfl) ?_
  · match vs, hv with
    | [v], _ => rfl
  refine Ex.cons (Ex.assignNil ?_)
  refine Ex.cons (Ex.assign (d := dText []) .str ?_)
  refine Ex.cons (Ex.assign .int ?_)
  refine Ex.mid (fun τ => ∃ rows : List (List Int), τ.lookup ("phrases" : Str) = some (LV.list (rows.map dText)) ∧ τ.lookup ("fresh" : Str) = some (.dat (dText (newTo w w.length))) ∧ rows.flatten = w ∧ rows.length ≤ 63 ∧ ∀ F, FewFrom w F 0 → F 0 = rows.length)
    (Ex.while_ (fun n τ => ∃ (p : Nat) (rows : List (List Int)), n = w.length - p ∧ p ≤ w.length ∧ τ.lookup ("text" : Str) = some (.dat (dText w)) ∧ τ.lookup ("place" : Str) = some (.dat (.int (p : Nat))) ∧ τ.lookup ("phrases" : Str) = some (LV.list (rows.map dText)) ∧ τ.lookup ("fresh" : Str) = some (.dat (dText (newTo w p))) ∧ rows.flatten = w.take p ∧ rows.length ≤ p ∧ ∀ F, FewFrom w F 0 → F 0 = rows.length + F p) _
      ⟨0, [], rfl, Nat.zero_le _, rfl, rfl, rfl, rfl, rfl, Nat.le_refl _, fun F hF => by simp⟩ (fun n τ ⟨p, rows, en, hp, h1, h2, h3, h4, h5, h6, h7⟩ =>
      ⟨_, EvT.cmp (.local h2) (EvP.callB (EvP.builtin rfl N.len rfl (by decide)) (.cons (.local h1) .nil) (len_text (by omega))) op_lt, fun hc => ?_, fun hc => ?_⟩)) (fun τ ⟨rows, h1, h2, h3, h4, h5⟩ => ?_)
  · have hlt : p < w.length := by have : (p : Int) < w.length := by simpa using hc
                                  omega
    refine Ex.cons (Ex.assign (d := dText []) .str ?_)
    have a1 := upd_other (x := ("phrase" : Str)) (lv := .dat (dText [])) (by decide) h1
    have a2 := upd_other (x := ("phrase" : Str)) (lv := .dat (dText [])) (by decide) h2
    have a3 := upd_other (x := ("phrase" : Str)) (lv := .dat (dText [])) (by decide) h3
    have a4 := upd_other (x := ("phrase" : Str)) (lv := .dat (dText [])) (by decide) h4
    have a5 := upd_same (x := ("phrase" : Str)) (y := ("phrase" : Str)) (lv := .dat (dText [])) (τ := τ) rfl
    generalize upd ("phrase" : Str) (.dat (dText [])) τ = τ1 at *
    refine Ex.mid (fun τ => ∃ L, Best w p p L ∧ τ.lookup ("text" : Str) = some (.dat (dText w)) ∧ τ.lookup ("place" : Str) = some (.dat (.int (p : Nat))) ∧ τ.lookup ("phrases" : Str) = some (LV.list (rows.map dText)) ∧ τ.lookup ("fresh" : Str) = some (.dat (dText (newTo w p))) ∧ τ.lookup ("phrase" : Str) = some (.dat (dText ((w.drop p).take L))))
      (Ex.for_ (Its.range1 (EvP.builtin rfl N.range rfl (by decide)) (.local a2) (by omega) (by omega)) (fun e τ => ∃ L, Best w p e L ∧ τ.lookup ("text" : Str) = some (.dat (dText w)) ∧ τ.lookup ("place" : Str) = some (.dat (.int (p : Nat))) ∧ τ.lookup ("phrases" : Str) = some (LV.list (rows.map dText)) ∧ τ.lookup ("fresh" : Str) = some (.dat (dText (newTo w p))) ∧ τ.lookup ("phrase" : Str) = some (.dat (dText ((w.drop p).take L))))
        ⟨0, best_zero w p, a1, a2, a3, a4, a5⟩ (fun e τ' d hd ⟨L, b0, b1, b2, b3, b4, b5⟩ => ?_) (fun τ' ⟨L, b0, b1, b2, b3, b4, b5⟩ => ⟨τ', rfl, L, ?_, b1, b2, b3, b4, b5⟩)) (fun τ2 ⟨L, b0, b1, b2, b3, b4, b5⟩ => ?_)
    · have he : e < p := by have := (List.getElem?_eq_some_iff.mp hd).1; rw [rangeD_length] at this; omega
      rw [rangeD_get (by omega)] at hd
      have ed : d = .int (e : Nat) := by cases hd; congr 1; omega
      subst ed
      have c1 := upd_other (x := ("earlier" : Str)) (lv := .dat (.int (e : Nat))) (by decide) b1
      have c2 := upd_other (x := ("earlier" : Str)) (lv := .dat (.int (e : Nat))) (by decide) b2
      have c3 := upd_other (x := ("earlier" : Str)) (lv := .dat (.int (e : Nat))) (by decide) b3
      have c4 := upd_other (x := ("earlier" : Str)) (lv := .dat (.int (e : Nat))) (by decide) b4
      have c5 := upd_other (x := ("earlier" : Str)) (lv := .dat (.int (e : Nat))) (by decide) b5
      have c6 := upd_same (x := ("earlier" : Str)) (y := ("earlier" : Str)) (lv := .dat (.int (e : Nat))) (τ := τ') rfl
      generalize upd ("earlier" : Str) (.dat (.int (e : Nat))) τ' = τ3 at *
      have hcall := cp_texts (k := k) N Dc Df (rows := [w.drop p, w.drop e]) (by simp) (fun r hr => by
        rcases List.mem_cons.mp hr with h | h
        · subst h; exact abc_okT (abc_drop hw _)
        · rw [List.mem_singleton.mp h]; exact abc_okT (abc_drop hw _)) (by show 2 ≤ sizeLine; decide)
      rw [cp_two] at hcall
      have hsl : (strOf w).length ≤ sizeLine := by rw [strOf_length]; exact small _ (by omega)
      have hll := (lcp2_left (w.drop p) (w.drop e)).length_le
      rw [List.length_drop] at hll
      refine Ex.cons (Ex.assign (EvP.callF rfl (.cons (Ev.list (.cons (Ev.to (d' := dText (w.drop p)) (Ev.sliceS (.local c1) (.some (.local c2)) .none hsl) (by rw [cutS_strOf, cut_from]; rfl)) (.cons (Ev.to (d' := dText (w.drop e)) (Ev.sliceS (.local c1) (.some (.local c6)) .none hsl) (by rw [cutS_strOf, cut_from]; rfl)) .nil))) .nil) (hcall.le (by omega))) ?_)
      have d1 := upd_other (x := ("told" : Str)) (lv := .dat (dText (lcp2 (w.drop p) (w.drop e)))) (by decide) c1
      have d2 := upd_other (x := ("told" : Str)) (lv := .dat (dText (lcp2 (w.drop p) (w.drop e)))) (by decide) c2
      have d3 := upd_other (x := ("told" : Str)) (lv := .dat (dText (lcp2 (w.drop p) (w.drop e)))) (by decide) c3
      have d4 := upd_other (x := ("told" : Str)) (lv := .dat (dText (lcp2 (w.drop p) (w.drop e)))) (by decide) c4
      have d5 := upd_other (x := ("told" : Str)) (lv := .dat (dText (lcp2 (w.drop p) (w.drop e)))) (by decide) c5
      have d6 := upd_same (x := ("told" : Str)) (y := ("told" : Str)) (lv := .dat (dText (lcp2 (w.drop p) (w.drop e)))) (τ := τ3) rfl
      generalize upd ("told" : Str) (.dat (dText (lcp2 (w.drop p) (w.drop e)))) τ3 = τ4 at *
      have hL : ((w.drop p).take L).length = L := by
        rcases b0.at_ with h | ⟨_, _, _, h⟩
        · subst h; simp
        · rw [List.length_take, List.length_drop]; omega
      refine Ex.last (Ex.if (EvT.cmp (EvP.callB (EvP.builtin rfl N.len rfl (by decide)) (.cons (.local d6) .nil) (len_text (by omega))) (EvP.callB (EvP.builtin rfl N.len rfl (by decide)) (.cons (.local d5) .nil) (len_text (by rw [List.length_take, List.length_drop]; omega))) op_gt) (fun hc => ?_) fun hc => ?_)
      · rw [hL] at hc
        have hg : L < (lcp2 (w.drop p) (w.drop e)).length := by have : ((lcp2 (w.drop p) (w.drop e)).length : Int) > L := by simpa using hc
                                                                omega
        refine Ex.last (Ex.assign (.local d6) ⟨_, best_next b0 hg hp, upd_other (by decide) d1, upd_other (by decide) d2, upd_other (by decide) d3, upd_other (by decide) d4, ?_⟩)
        rw [← lcp2_take]; exact upd_same rfl
      · rw [hL] at hc
        have hg : ¬ L < (lcp2 (w.drop p) (w.drop e)).length := by have : ¬ ((lcp2 (w.drop p) (w.drop e)).length : Int) > L := by simpa using hc
                                                                  omega
        exact Ex.nil ⟨L, best_same b0 hg, d1, d2, d3, d4, d5⟩
    · rw [rangeD_length] at b0
      have : (p : Int).toNat = p := by omega
      rw [this] at b0
      exact b0
    · have hsl : (strOf w).length ≤ sizeLine := by rw [strOf_length]; exact small _ (by omega)
      have hL : ((w.drop p).take L).length = L := by
        rcases b0.at_ with h | ⟨_, _, _, h⟩
        · subst h; simp
        · rw [List.length_take, List.length_drop]; omega
      have hpn : p + L ≤ w.length := by
        rcases b0.at_ with h | ⟨_, _, _, h⟩
        · omega
        · exact h
      refine Ex.mid (fun τ => ∃ L', 1 ≤ L' ∧ p + L' ≤ w.length ∧ (∀ F, FewFrom w F 0 → F p = 1 + F (p + L')) ∧ τ.lookup ("text" : Str) = some (.dat (dText w)) ∧ τ.lookup ("place" : Str) = some (.dat (.int (p : Nat))) ∧ τ.lookup ("phrases" : Str) = some (LV.list (rows.map dText)) ∧ τ.lookup ("fresh" : Str) = some (.dat (dText (newTo w (p + L')))) ∧ τ.lookup ("phrase" : Str) = some (.dat (dText ((w.drop p).take L'))))
        (Ex.if (EvT.cmp (.local b5) .str op_eqS) (fun hc => ?_) fun hc => ?_) (fun τ3 ⟨L', q1, q2, q3, q4, q5, q6, q7, q8⟩ => ?_)
      · have h0 : (w.drop p).take L = [] := by
          by_cases h : (w.drop p).take L = []
          · exact h
          · have h1 : strOf ((w.drop p).take L) = strOf [] := by
              have : Str.ofString "" = strOf [] := by decide
              rw [← this]
              exact beq_iff_eq.mp hc
            exact strOf_inj (abc_okT (abc_take (abc_drop hw _) _)).1 (fun c hc => (nomatch hc)) h1
        have hL0 : L = 0 := by rw [h0] at hL; exact hL.symm
        subst hL0
        have hget : (strOf w).cps[((p : Nat) : Int).toNat]? = some (w[p]).toNat := by
          unfold strOf
          simp [hlt]
        have e1 : (w.drop p).take 1 = [w[p]] := by rw [List.drop_eq_getElem_cons hlt, List.take_succ_cons, List.take_zero]
        have hnew := best_new b0 hlt
        have hnl : (newTo w p).length ≤ 63 := by
          unfold newTo
          rw [List.length_map]
          have := List.length_filter_le (newAt w) (List.range p)
          rw [List.length_range] at this
          omega
        refine Ex.cons (Ex.assign (d := dText [w[p]]) (Ev.itemS (.local b1) (.local b2) (by omega) (by omega) hget) ?_)
        refine Ex.last (Ex.assign (d := dText (newTo w (p + 1))) (Ev.to (Ev.bin (.local (upd_other (by decide) b4)) (.local (upd_same rfl)) (op_addS (by rw [strOf_length, strOf_length]; exact small _ (by simp; omega)))) ?_) ⟨_, rfl, 1, Nat.le_refl _, hlt, fun F hF => best_few hF b0 hlt, upd_other (by decide) (upd_other (by decide) b1), upd_other (by decide) (upd_other (by decide) b2), upd_other (by decide) (upd_other (by decide) b3), upd_same rfl, ?_⟩)
        · rw [newTo_succ_new hnew, show w.getD p 0 = w[p] by simp [hlt]]
          unfold dText
          rw [strOf_append]
        · rw [e1]; exact upd_other (by decide) (upd_same rfl)
      · have hL1 : 1 ≤ L := by
          rcases Nat.eq_zero_or_pos L with h | h
          · subst h
            exact absurd hc (by rw [List.take_zero]; decide)
          · exact h
        have e1 := fun F (hF : FewFrom w F 0) => best_few hF b0 hlt
        rw [show max 1 L = L by omega] at e1
        refine Ex.nil ⟨_, rfl, L, hL1, hpn, e1, b1, b2, b3, ?_, b5⟩
        rw [newTo_old L fun i h1 h2 => best_seen b0 i h1 h2]; exact b4
      · have hl' : ((w.drop p).take L').length = L' := by rw [List.length_take, List.length_drop]; omega
        refine Ex.cons (Ex.append q6 (.local q8) ?_ (by rw [List.length_map]; exact small _ (by omega)))
        refine Ex.last (Ex.assign (Ev.bin (.local (upd_other (by decide) q5)) (EvP.callB (EvP.builtin rfl N.len rfl (by decide)) (.cons (.local (upd_other (by decide) q8)) .nil) (len_text (by omega))) op_add) ?_)
        refine ⟨w.length - (p + L'), by omega, p + L', rows ++ [(w.drop p).take L'], rfl, q2, upd_other (by decide) (upd_other (by decide) q4), ?_, ?_, upd_other (by decide) (upd_other (by decide) q7), ?_, by simp; omega, fun F hF => ?_⟩
        · rw [upd_same rfl, hl']; rfl
        · rw [upd_other (by decide) (upd_same rfl)]; simp
        · rw [List.flatten_append, h5]
          simp [List.take_add]
        · rw [h7 F hF, q3 F hF]
          simp
          omega
  · have hge : p = w.length := by have : ¬ (p : Int) < w.length := by simpa using hc
                                  omega
    subst hge
    refine ⟨τ, rfl, rows, h3, h4, by rw [h5, List.take_of_length_le (Nat.le_refl _)], by omega, fun F hF => ?_⟩
    rw [h7 F hF, hF.last]; omega
  · exact Ex.freeze h1 (Ex.last (Ex.return (Ev.tuple (.cons (.local (upd_same rfl)) (.cons (.local (upd_other (by decide) h2)) .nil))) ⟨rows, rfl, h3, h4, h5⟩))
end
end Mine

namespace Mine
open PySem PySem.W PyProof.Rows PySem.Calls
set_option Elab.async false
set_option maxRecDepth 100000
set_option linter.unusedVariables false
def pc (w : List Int) (i j : Nat) : List Int := (w.drop i).take (j - i)
theorem pc_len {w : List Int} {i j : Nat} (h1 : i < j) (h2 : j ≤ w.length) : (pc w i j).length = j - i := by
  unfold pc; rw [List.length_take, List.length_drop]; omega
/-- e is the first place of the piece from i to j -/
def First (w : List Int) (i j e : Nat) : Prop := e ≤ i ∧ pc w e (e + (j - i)) = pc w i j ∧ ∀ e', e' < e → pc w e' (e' + (j - i)) ≠ pc w i j
theorem first_old {w : List Int} {i j e : Nat} (h : First w i j e) : e < i ↔ Old w i j := by
  obtain ⟨h1, h2, h3⟩ := h
  unfold pc at h2 h3
  constructor
  · intro q
    exact ⟨e, q, by rw [show e + (j - i) - e = j - i by omega] at h2; exact h2⟩
  · rintro ⟨e', q1, q2⟩
    rcases Nat.lt_or_ge e' e with q | q
    · exact absurd (by rw [show e' + (j - i) - e' = j - i by omega]; exact q2) (h3 e' q)
    · omega
def Done (i j a b : Nat) : Prop := a < i ∨ (a = i ∧ b < j)
/-- the table tells, of every piece that was seen, its first place -/
structure Firsts (w : List Int) (al : Tab) (i j : Nat) : Prop where
  get : ∀ a b, a < b → b ≤ w.length → Done i j a b → ∃ e : Nat, First w a b e ∧ tget al (strOf (pc w a b)) = some (.int (e : Nat))
  key : ∀ k, (tget al k).isSome = true → ∃ a b, a < b ∧ b ≤ w.length ∧ Done i j a b ∧ k = strOf (pc w a b)
theorem firsts_nil (w : List Int) : Firsts w [] 0 0 := ⟨fun a b h1 h2 h3 => by rcases h3 with h | h <;> omega, fun k h => by simp [tget] at h⟩
theorem firsts_row {w : List Int} {al : Tab} {i : Nat} (h : Firsts w al i 0) : Firsts w al i (i + 1) :=
  ⟨fun a b h1 h2 h3 => h.get a b h1 h2 (by rcases h3 with h | h; exact .inl h; omega), fun k hk => by
    obtain ⟨a, b, h1, h2, h3, h4⟩ := h.key k hk
    exact ⟨a, b, h1, h2, by rcases h3 with h | h; exact .inl h; omega, h4⟩⟩
theorem firsts_end {w : List Int} {al : Tab} {i : Nat} (h : Firsts w al i (w.length + 1)) : Firsts w al (i + 1) 0 :=
  ⟨fun a b h1 h2 h3 => h.get a b h1 h2 (by
      rcases h3 with h | h
      · rcases Nat.lt_or_ge a i with q | q
        · exact .inl q
        · exact .inr ⟨by omega, by omega⟩
      · omega), fun k hk => by
    obtain ⟨a, b, h1, h2, h3, h4⟩ := h.key k hk
    exact ⟨a, b, h1, h2, by rcases h3 with h | h; exact .inl (by omega); exact .inl (by omega), h4⟩⟩
theorem pc_pos {w : List Int} (h : Pos0 w) (a b : Nat) : Pos0 (pc w a b) := fun n hn => h n (List.mem_of_mem_drop (List.mem_of_mem_take hn))
theorem firsts_seen {w : List Int} (hp : Pos0 w) {al : Tab} {i j : Nat} (h : Firsts w al i j) (hi : i < j) (hj : j ≤ w.length) (hs : (tget al (strOf (pc w i j))).isSome = true) : Firsts w al i (j + 1) := by
  refine ⟨fun a b h1 h2 h3 => ?_, fun k hk => ?_⟩
  · by_cases hd : Done i j a b
    · exact h.get a b h1 h2 hd
    · have e1 : a = i ∧ b = j := by unfold Done at hd h3; omega
      obtain ⟨rfl, rfl⟩ := e1
      obtain ⟨a', b', p1, p2, p3, p4⟩ := h.key _ hs
      have p5 := strOf_inj (pc_pos hp _ _) (pc_pos hp _ _) p4
      obtain ⟨e, ⟨q1, q2, q3⟩, q4⟩ := h.get a' b' p1 p2 p3
      have l1 := congrArg List.length p5
      rw [pc_len h1 h2, pc_len p1 p2] at l1
      rw [← p5] at q2 q3 q4
      rw [← l1] at q2 q3
      exact ⟨e, ⟨by unfold Done at p3; omega, q2, q3⟩, q4⟩
  · obtain ⟨a, b, h1, h2, h3, h4⟩ := h.key k hk
    exact ⟨a, b, h1, h2, by unfold Done at *; omega, h4⟩
theorem firsts_new {w : List Int} (hp : Pos0 w) {al : Tab} {i j : Nat} (h : Firsts w al i j) (hi : i < j) (hj : j ≤ w.length) (hs : (tget al (strOf (pc w i j))).isSome = false) : Firsts w (tput al (strOf (pc w i j)) (.int (i : Nat))) i (j + 1) := by
  refine ⟨fun a b h1 h2 h3 => ?_, fun k hk => ?_⟩
  · rw [tget_tput]
    by_cases hd : Done i j a b
    · obtain ⟨e, q1, q2⟩ := h.get a b h1 h2 hd
      refine ⟨e, q1, ?_⟩
      rw [if_neg]
      · exact q2
      · intro q
        rw [← q, q2] at hs
        cases hs
    · have e1 : a = i ∧ b = j := by unfold Done at hd h3; omega
      obtain ⟨rfl, rfl⟩ := e1
      refine ⟨a, ⟨Nat.le_refl _, by rw [show a + (b - a) = b by omega], fun e' he q => ?_⟩, if_pos rfl⟩
      obtain ⟨e, q1, q2⟩ := h.get e' (e' + (b - a)) (by omega) (by omega) (.inl he)
      rw [q] at q2
      rw [q2] at hs
      cases hs
  · rw [tget_tput] at hk
    by_cases q : k = strOf (pc w i j)
    · exact ⟨i, j, hi, hj, .inr ⟨rfl, by omega⟩, q⟩
    · rw [if_neg q] at hk
      obtain ⟨a, b, h1, h2, h3, h4⟩ := h.key k hk
      exact ⟨a, b, h1, h2, by unfold Done at *; omega, h4⟩
def fstOf (al : Tab) (k : Str) : Nat := match tget al k with | some (.int e) => e.toNat | _ => 0
theorem fstOf_spec {w : List Int} {al : Tab} (h : Firsts w al w.length 0) {i j : Nat} (h1 : i < j) (h2 : j ≤ w.length) : tget al (strOf (pc w i j)) = some (.int (fstOf al (strOf (pc w i j)) : Nat)) ∧ (fstOf al (strOf (pc w i j)) < i ↔ Old w i j) := by
  obtain ⟨e, q1, q2⟩ := h.get i j h1 h2 (.inl (by omega))
  have e1 : fstOf al (strOf (pc w i j)) = e := by unfold fstOf; rw [q2]; rfl
  rw [e1]
  exact ⟨q2, first_old q1⟩
end Mine

namespace Mine
open PySem PySem.W PyProof.Rows PySem.Calls
set_option Elab.async false
set_option maxRecDepth 100000
set_option linter.unusedVariables false
theorem few_set {w : List Int} {l : List Int} {i : Nat} {c : Int} (hl : l.length = w.length + 1) (h : FewFrom w (l.getD · 0) (i + 1)) (hi : i < w.length)
    (h1 : ∃ j, i < j ∧ j ≤ w.length ∧ Piece w i j ∧ c = 1 + l.getD j 0) (h2 : ∀ j, i < j → j ≤ w.length → Piece w i j → c ≤ 1 + l.getD j 0) : FewFrom w ((l.set i c).getD · 0) i := by
  have same : ∀ j, i < j → (l.set i c).getD j 0 = l.getD j 0 := fun j hj => by
    simp only [List.getD_eq_getElem?_getD]
    rw [List.getElem?_set_ne (by omega)]
  have at_ : (l.set i c).getD i 0 = c := by
    simp only [List.getD_eq_getElem?_getD]
    rw [List.getElem?_set_self (by omega)]; rfl
  refine ⟨?_, fun a ha hw => ?_, fun a ha hw j hj hn hp => ?_⟩
  · show (l.set i c).getD w.length 0 = 0
    rw [same _ hi]; exact h.last
  · rcases Nat.eq_or_lt_of_le ha with q | q
    · subst q
      obtain ⟨j, p1, p2, p3, p4⟩ := h1
      refine ⟨j, p1, p2, p3, ?_⟩
      show (l.set i c).getD i 0 = 1 + (l.set i c).getD j 0
      rw [at_, same j p1]; exact p4
    · obtain ⟨j, p1, p2, p3, p4⟩ := h.some a q hw
      refine ⟨j, p1, p2, p3, ?_⟩
      show (l.set i c).getD a 0 = 1 + (l.set i c).getD j 0
      rw [same a q, same j (by omega)]; exact p4
  · rcases Nat.eq_or_lt_of_le ha with q | q
    · subst q
      show (l.set i c).getD i 0 ≤ 1 + (l.set i c).getD j 0
      rw [at_, same j hj]; exact h2 j hj hn hp
    · show (l.set i c).getD a 0 ≤ 1 + (l.set i c).getD j 0
      rw [same a q, same j (by omega)]; exact h.all a q hw j hj hn hp
theorem EvT.notInTab {X : Cx} {k : Nat} {sc : Scope} {σ : Sto} {x : Str} {px pos : Pos} {e : Expr} {al : Tab} {y : Str} (hx : σ.lookup x = some (LV.tab X al)) (he : Ev X k sc σ e (.str y)) (hm : behindInMarks .NotIn (.Name x px) = false := by with_unfolding_all rfl)
    (hd1 : (x == ("__debug__" : Str)) = false := by decide) (hn1 : (x == ("__classdict__" : Str)) = false := by decide) :
    EvT X k sc σ (.Compare e [.NotIn] [.Name x px] pos) (!(tget al y).isSome) := by
  intro A env g s E rm o bs q
  refine wpAny_isTrue_Compare1 (wp_ev (he A env g s E rm o bs q) fun u g1 s1 k1 x1 p1 => wp_nameO o (q.step x1) hx (fun a ob ho ⟨hb, vs, hd, hv⟩ => ?_) hd1 hn1) hm
  cases p1
  have dm : s1.heap.DictOf (strKind X.prog X.w) a (keysV al vs) := Heap.dictOf_iff.mpr ⟨ob, ho, hd⟩
  refine wpAny_notIn_of (isText _ _ y _) (by simpa using Nat.ne_of_gt hb) dm.mapOf ?_
  have e : (valueAt (keysV al vs) y).isSome = (tget al y).isSome := by
    have := keysV_get hv y
    cases h : tget al y with
    | none => rw [h] at this; simp only at this; rw [this]; rfl
    | some d => rw [h] at this; obtain ⟨v, e1, _⟩ := this; rw [e1]; rfl
  rw [e]
  exact wpAny_truthy_bool ⟨rfl, kp_trans k1 (kp_mk .rfl), g1, x1⟩
theorem Its.to {X : Cx} {k : Nat} {sc : Scope} {σ : Sto} {e : Expr} {ds ds' : List Dat} (h : Its X k sc σ e ds) (q : ds = ds') : Its X k sc σ e ds' := q ▸ h
theorem map_set' {l : List Int} {i : Nat} {c : Int} : (l.map Dat.int).set i (.int c) = (l.set i c).map Dat.int := by rw [List.map_set]
section
variable {X : Cx} {k : Nat}
theorem fewest_fn (N : Free X) (S : Stands X "_law_fewest" fewestS) {w : List Int} (hw : Abc w) {c : Int} (hc : ∀ F, FewFrom w F 0 → F 0 = c) : FnD X (k + 4) "_law_fewest" [dText w] (.int c) := by
  obtain ⟨mm, D⟩ := S
  have h63 := hw.1
  have hpos := (abc_okT hw).1
  have hsl : (strOf w).length ≤ sizeLine := by rw [strOf_length]; exact small _ (by omega)
  refine FnD.intro D ["text"] rfl (fun pm code doc vs hv => ?_) (by decide) (by rfl) ?_
  · match vs, hv with
    | [v], _ => rfl
  refine Ex.cons (Ex.assignTab ?_)
  refine Ex.mid (fun τ => ∃ al, Firsts w al w.length 0 ∧ τ.lookup ("text" : Str) = some (.dat (dText w)) ∧ τ.lookup ("first" : Str) = some (LV.tab X al))
    (Ex.for_ (Its.range1 (EvP.builtin rfl N.range rfl (by decide)) (EvP.callB (EvP.builtin rfl N.len rfl (by decide)) (.cons (.local rfl) .nil) (len_text (by omega))) (by omega) (by omega)) (fun i τ => ∃ al, Firsts w al i 0 ∧ al.length ≤ i * 64 ∧ τ.lookup ("text" : Str) = some (.dat (dText w)) ∧ τ.lookup ("first" : Str) = some (LV.tab X al))
      ⟨[], firsts_nil w, Nat.zero_le _, rfl, rfl⟩ (fun i τ' d hd ⟨al, a1, a2, a3, a4⟩ => ?_) (fun τ' ⟨al, a1, a2, a3, a4⟩ => ⟨τ', rfl, al, ?_, a3, a4⟩)) (fun τ ⟨al, a1, a3, a4⟩ => ?_)
  · have hi : i < w.length := by have := (List.getElem?_eq_some_iff.mp hd).1; rw [rangeD_length] at this; omega
    rw [rangeD_get (by omega)] at hd
    have ed : d = .int (i : Nat) := by cases hd; congr 1; omega
    subst ed
    have b3 := upd_other (x := ("i" : Str)) (lv := .dat (.int (i : Nat))) (by decide) a3
    have b4 := upd_other (x := ("i" : Str)) (lv := .dat (.int (i : Nat))) (by decide) a4
    have bi := upd_same (x := ("i" : Str)) (y := ("i" : Str)) (lv := .dat (.int (i : Nat))) (τ := τ') rfl
    generalize upd ("i" : Str) (.dat (.int (i : Nat))) τ' = τ at *
    refine Ex.last (Ex.for_ (Its.range2 (EvP.builtin rfl N.range rfl (by decide)) (Ev.bin (.local bi) .int op_add) (Ev.bin (EvP.callB (EvP.builtin rfl N.len rfl (by decide)) (.cons (.local b3) .nil) (len_text (by omega))) .int op_add) (by omega) (by omega) (by omega) (by omega)) (fun t τ => ∃ al, Firsts w al i (i + 1 + t) ∧ al.length ≤ i * 64 + t ∧ τ.lookup ("text" : Str) = some (.dat (dText w)) ∧ τ.lookup ("first" : Str) = some (LV.tab X al) ∧ τ.lookup ("i" : Str) = some (.dat (.int (i : Nat))))
      ⟨al, firsts_row a1, a2, b3, b4, bi⟩ (fun t τ2 d hd ⟨al, c1, c2, c3, c4, c5⟩ => ?_) (fun τ2 ⟨al, c1, c2, c3, c4, c5⟩ => ⟨al, ?_, ?_, c3, c4⟩))
    · have ht : i + 1 + t ≤ w.length := by have := (List.getElem?_eq_some_iff.mp hd).1; rw [rangeD_length] at this; omega
      rw [rangeD_get (by omega)] at hd
      have ed : d = .int ((i + 1 + t : Nat) : Int) := by cases hd; congr 1; omega
      subst ed
      have d3 := upd_other (x := ("j" : Str)) (lv := .dat (.int ((i + 1 + t : Nat) : Int))) (by decide) c3
      have d4 := upd_other (x := ("j" : Str)) (lv := .dat (.int ((i + 1 + t : Nat) : Int))) (by decide) c4
      have d5 := upd_other (x := ("j" : Str)) (lv := .dat (.int ((i + 1 + t : Nat) : Int))) (by decide) c5
      have dj := upd_same (x := ("j" : Str)) (y := ("j" : Str)) (lv := .dat (.int ((i + 1 + t : Nat) : Int))) (τ := τ2) rfl
      generalize upd ("j" : Str) (.dat (.int ((i + 1 + t : Nat) : Int))) τ2 = τ3 at *
      have ec : cutS (strOf w) (some ((i : Nat) : Int)) (some ((i + 1 + t : Nat) : Int)) = strOf (pc w i (i + 1 + t)) := by rw [cutS_strOf, cut_mid]; rfl
      refine Ex.last (Ex.if (EvT.notInTab (y := strOf (pc w i (i + 1 + t))) d4 (Ev.to (Ev.sliceS (.local d3) (.some (.local d5)) (.some (.local dj)) hsl) (by rw [ec]))) (fun hc => ?_) fun hc => ?_)
      · have hn : (tget al (strOf (pc w i (i + 1 + t)))).isSome = false := by
          cases q : (tget al (strOf (pc w i (i + 1 + t)))).isSome with
          | false => rfl
          | true => rw [q] at hc; cases hc
        refine Ex.last (Ex.setTab (y := strOf (pc w i (i + 1 + t))) d4 (.local d5) (Ev.to (Ev.sliceS (.local d3) (.some (.local d5)) (.some (.local dj)) hsl) (by rw [ec])) (small _ (by omega)) ?_)
        exact ⟨_, firsts_new hpos c1 (show i < i + 1 + t by omega) ht hn, Nat.le_trans (tput_length_le _ _ _) (by omega), upd_other (by decide) d3, upd_same rfl, upd_other (by decide) d5⟩
      · have hn : (tget al (strOf (pc w i (i + 1 + t)))).isSome = true := by
          cases q : (tget al (strOf (pc w i (i + 1 + t)))).isSome with
          | true => rfl
          | false => rw [q] at hc; cases hc
        exact Ex.nil ⟨al, firsts_seen hpos c1 (show i < i + 1 + t by omega) ht hn, by omega, d3, d4, d5⟩
    · rw [rangeD_length] at c1
      have e1 : i + 1 + ((w.length : Int) + 1 - ((i : Int) + 1)).toNat = w.length + 1 := by omega
      rw [e1] at c1
      exact firsts_end c1
    · rw [rangeD_length] at c2
      omega
  · rw [rangeD_length] at a1
    have e1 : ((w.length : Nat) : Int).toNat = w.length := by omega
    rw [e1] at a1
    exact a1
  · have hF := a1
    refine Ex.cons (Ex.assignMul (n := w.length + 1) .int (Ev.to (Ev.bin (EvP.callB (EvP.builtin rfl N.len rfl (by decide)) (.cons (.local a3) .nil) (len_text (by omega))) .int op_add) (by congr 1)) (by omega) ?_)
    have b3 := upd_other (x := ("fewest" : Str)) (lv := LV.list (List.replicate (w.length + 1) (.int 0))) (by decide) a3
    have b4 := upd_other (x := ("fewest" : Str)) (lv := LV.list (List.replicate (w.length + 1) (.int 0))) (by decide) a4
    have b5 := upd_same (x := ("fewest" : Str)) (y := ("fewest" : Str)) (lv := LV.list (List.replicate (w.length + 1) (.int 0))) (τ := τ) rfl
    generalize upd ("fewest" : Str) (LV.list (List.replicate (w.length + 1) (.int 0))) τ = τ1 at *
    refine Ex.mid (fun τ => ∃ l : List Int, l.length = w.length + 1 ∧ FewFrom w (l.getD · 0) 0 ∧ τ.lookup ("fewest" : Str) = some (LV.list (l.map .int)))
      (Ex.for_ (Its.range3 (a := (w.length : Int) - 1) (b := -1) (EvP.builtin rfl N.range rfl (by decide)) (Ev.bin (EvP.callB (EvP.builtin rfl N.len rfl (by decide)) (.cons (.local b3) .nil) (len_text (by omega))) .int op_sub) (Ev.neg .int) (Ev.neg .int) (by omega) (by omega) (by omega) (by omega))
        (fun t τ => ∃ l : List Int, l.length = w.length + 1 ∧ FewFrom w (l.getD · 0) (w.length - t) ∧ τ.lookup ("fewest" : Str) = some (LV.list (l.map .int)) ∧ τ.lookup ("text" : Str) = some (.dat (dText w)) ∧ τ.lookup ("first" : Str) = some (LV.tab X al))
        ⟨List.replicate (w.length + 1) 0, by simp, ⟨by simp, fun a h1 h2 => by omega, fun a h1 h2 => by omega⟩, by rw [b5]; simp, b3, b4⟩ (fun t τ' d hd ⟨l, c1, c2, c3, c4, c5⟩ => ?_) (fun τ' ⟨l, c1, c2, c3, c4, c5⟩ => ⟨τ', rfl, l, c1, ?_, c3⟩)) (fun τ2 ⟨l, c1, c2, c3⟩ => ?_)
    · have ht : t < w.length := by have := (List.getElem?_eq_some_iff.mp hd).1; rw [rangeD_length] at this; omega
      obtain ⟨i, hi⟩ : ∃ i, i = w.length - (t + 1) := ⟨_, rfl⟩
      rw [rangeD_get (by omega)] at hd
      have ed : d = .int (i : Nat) := by cases hd; congr 1; omega
      subst ed
      rw [show w.length - t = i + 1 by omega] at c2
      rw [← hi]
      have hiw : i < w.length := by omega
      have d3 := upd_other (x := ("i" : Str)) (lv := .dat (.int (i : Nat))) (by decide) c3
      have d4 := upd_other (x := ("i" : Str)) (lv := .dat (.int (i : Nat))) (by decide) c4
      have d5 := upd_other (x := ("i" : Str)) (lv := .dat (.int (i : Nat))) (by decide) c5
      have di := upd_same (x := ("i" : Str)) (y := ("i" : Str)) (lv := .dat (.int (i : Nat))) (τ := τ') rfl
      generalize upd ("i" : Str) (.dat (.int (i : Nat))) τ' = τ3 at *
      refine Ex.cons (Ex.assignCompFilt (l := List.range (w.length - i)) (toD := fun u => .int (((i : Nat) : Int) + 1 + (u : Int) * 1)) (p := fun u : Nat => (((i : Nat) : Int) + 1 + (u : Int) * 1 == ((i : Nat) : Int) + 1) || decide ((fstOf al (strOf (pc w i (i + 1 + u))) : Int) < (i : Nat))) (f := fun u => .int (l.getD (i + 1 + u) 0))
        (Its.to (Its.range2 (EvP.builtin rfl N.range rfl (by decide)) (Ev.bin (.local di) .int op_add) (Ev.bin (EvP.callB (EvP.builtin rfl N.len rfl (by decide)) (.cons (.local d4) .nil) (len_text (by omega))) .int op_add) (by omega) (by omega) (by omega) (by omega)) (by rw [show ((w.length : Int) + 1 - ((i : Int) + 1)).toNat = w.length - i by omega]; rfl))
        [("fewest", LV.list (l.map .int)), ("first", LV.tab X al), ("text", .dat (dText w)), ("i", .dat (.int (i : Nat)))] .of (.consObj d3 (.consObj d5 (.cons d4 (.cons di .nil)))) rfl (fun u hu => ?_) (fun u hu _ => ?_) (small _ (by rw [List.length_range]; omega)) ?_ rfl ?_)
      · have huw := List.mem_range.mp hu
        have ej : (((i : Nat) : Int) + 1 + (u : Int) * 1) = ((i + 1 + u : Nat) : Int) := by omega
        have ec : cutS (strOf w) (some ((i : Nat) : Int)) (some (((i : Nat) : Int) + 1 + (u : Int) * 1)) = strOf (pc w i (i + 1 + u)) := by rw [ej, cutS_strOf, cut_mid]; rfl
        exact EvT.or (EvT.cmp (.local rfl) (Ev.bin (.local rfl) .int op_add) op_eq) fun _ => EvT.cmp (Ev.itemTab (y := strOf (pc w i (i + 1 + u))) rfl (Ev.to (Ev.sliceS (.local rfl) (.some (.local rfl)) (.some (.local rfl)) hsl) (by rw [ec])) (fstOf_spec hF (by omega) (by omega)).1) (.local rfl) op_lt
      · have huw := List.mem_range.mp hu
        refine Ev.itemO rfl (.local rfl) (by omega) (by omega) ?_
        rw [show (((i : Nat) : Int) + 1 + (u : Int) * 1).toNat = i + 1 + u by omega, List.getElem?_map]
        simp only [List.getD_eq_getElem?_getD]
        rw [List.getElem?_eq_getElem (by omega)]
        rfl
      · obtain ⟨ns, hns⟩ : ∃ ns : List Int, ns = ((List.range (w.length - i)).filter (fun u : Nat => (((i : Nat) : Int) + 1 + (u : Int) * 1 == ((i : Nat) : Int) + 1) || decide ((fstOf al (strOf (pc w i (i + 1 + u))) : Int) < (i : Nat)))).map (fun u => l.getD (i + 1 + u) 0) := ⟨_, rfl⟩
        have en : ((List.range (w.length - i)).filter (fun u : Nat => (((i : Nat) : Int) + 1 + (u : Int) * 1 == ((i : Nat) : Int) + 1) || decide ((fstOf al (strOf (pc w i (i + 1 + u))) : Int) < (i : Nat)))).map (fun u : Nat => Dat.int (l.getD (i + 1 + u) 0)) = dInts ns := by rw [hns]; unfold dInts; rw [List.map_map]; rfl
        rw [en]
        have mem : ∀ x, x ∈ ns ↔ ∃ j, i < j ∧ j ≤ w.length ∧ Piece w i j ∧ x = l.getD j 0 := by
          intro x
          rw [hns, List.mem_map]
          constructor
          · rintro ⟨u, hu, rfl⟩
            obtain ⟨h1, h2⟩ := List.mem_filter.mp hu
            have h1 := List.mem_range.mp h1
            refine ⟨i + 1 + u, by omega, by omega, ?_, rfl⟩
            rw [Bool.or_eq_true, beq_iff_eq, decide_eq_true_iff] at h2
            rcases h2 with h2 | h2
            · exact .inl (by omega)
            · exact .inr ((fstOf_spec hF (show i < i + 1 + u by omega) (by omega)).2.mp (by omega))
          · rintro ⟨j, h1, h2, h3, rfl⟩
            refine ⟨j - (i + 1), List.mem_filter.mpr ⟨List.mem_range.mpr (by omega), ?_⟩, by rw [show i + 1 + (j - (i + 1)) = j by omega]⟩
            rw [Bool.or_eq_true, beq_iff_eq, decide_eq_true_iff, show i + 1 + (j - (i + 1)) = j by omega]
            rcases h3 with h3 | h3
            · exact .inl (by omega)
            · have := (fstOf_spec hF h1 h2).2.mpr h3
              exact .inr (by omega)
        have hne : ns ≠ [] := List.ne_nil_of_mem ((mem (l.getD (i + 1) 0)).mpr ⟨i + 1, by omega, by omega, .inl rfl, rfl⟩)
        have l3 := upd_other (x := ("ways" : Str)) (lv := .dat (.list (dInts ns))) (by decide) d3
        have l4 := upd_other (x := ("ways" : Str)) (lv := .dat (.list (dInts ns))) (by decide) d4
        have l5 := upd_other (x := ("ways" : Str)) (lv := .dat (.list (dInts ns))) (by decide) d5
        have li := upd_other (x := ("ways" : Str)) (lv := .dat (.list (dInts ns))) (by decide) di
        have lw := upd_same (x := ("ways" : Str)) (y := ("ways" : Str)) (lv := .dat (.list (dInts ns))) (τ := τ3) rfl
        generalize upd ("ways" : Str) (.dat (.list (dInts ns))) τ3 = τ4 at *
        refine Ex.last (Ex.setItemO (d := .int (1 + minI ns)) l3 (Ev.bin .int (EvP.callB (EvP.builtin rfl N.min rfl (by decide)) (.cons (.local lw) .nil) (op_minI (k := k + 1) (.inl rfl) hne)) op_add) (.local li) (by omega) (by rw [List.length_map]; omega) (by rw [List.length_map]; omega) ?_)
        refine ⟨l.set i (1 + minI ns), by rw [List.length_set]; exact c1, few_set c1 c2 hiw ?_ ?_, ?_, upd_other (by decide) l4, upd_other (by decide) l5⟩
        · obtain ⟨j, p1, p2, p3, p4⟩ := (mem _).mp (minI_mem hne)
          exact ⟨j, p1, p2, p3, by rw [p4]⟩
        · intro j p1 p2 p3
          have := minI_le ((mem (l.getD j 0)).mpr ⟨j, p1, p2, p3, rfl⟩)
          omega
        · rw [upd_same rfl, ← map_set']; rfl
      · intro env hk hl; exact swaps_comp hk hl
    · rw [rangeD_length] at c2
      have e1 : w.length - ((w.length : Int) - 1 - -1).toNat = 0 := by omega
      rw [e1] at c2
      exact c2
    · refine Ex.last (Ex.return (d := .int c) (Ev.to (Ev.itemO (d := .int (l.getD 0 0)) c3 .int (by decide) (by decide) ?_) ?_) rfl)
      · rw [List.getElem?_map]
        simp only [List.getD_eq_getElem?_getD]
        rw [show (0 : Int).toNat = 0 from rfl, List.getElem?_eq_getElem (by omega)]
        rfl
      · rw [← hc _ c2]
end
end Mine

namespace Mine
open PySem PySem.W PyProof.Rows PySem.Calls
set_option Elab.async false
set_option maxRecDepth 100000
set_option linter.unusedVariables false
def wOf (ns : List Int) : List Int := ns.map fun x => 97 + x.fmod 3
theorem wOf_abc {ns : List Int} (h : ns.length ≤ 63) : Abc (wOf ns) := by
  refine ⟨by unfold wOf; rw [List.length_map]; exact h, fun c hc => ?_⟩
  obtain ⟨x, _, rfl⟩ := List.mem_map.mp hc
  have h1 := Int.fmod_nonneg_of_pos x (show (0 : Int) < 3 by decide)
  have h2 := Int.fmod_lt_of_pos x (show (0 : Int) < 3 by decide)
  omega
theorem flatten_one {α : Type} (f : α → Int) : ∀ l : List α, (l.map fun x => [f x]).flatten = l.map f
  | [] => rfl
  | x :: l => by rw [List.map_cons, List.flatten_cons, flatten_one f l]; rfl
theorem sum_one {α : Type} (f : α → Int) : ∀ l : List α, ((l.map fun x => [f x]).map List.length).sum = l.length
  | [] => rfl
  | x :: l => by rw [List.map_cons, List.map_cons, List.sum_cons, sum_one f l]; simp; omega
theorem sum_flat : ∀ l : List (List Int), (l.map List.length).sum = l.flatten.length
  | [] => rfl
  | x :: l => by rw [List.map_cons, List.sum_cons, sum_flat l, List.flatten_cons, List.length_append]
theorem mem_toNat {c : Int} {l : List Int} (h : 0 ≤ c) (hl : Pos0 l) : (c.toNat ∈ (strOf l).cps.toList) ↔ c ∈ l := by
  unfold strOf
  rw [List.toList_toArray, List.mem_map]
  constructor
  · rintro ⟨d, h1, h2⟩
    have := hl d h1
    rw [show c = d by omega]; exact h1
  · intro q; exact ⟨c, q, rfl⟩
section
variable {X : Cx} {k : Nat} {sc : Scope} {τ : Sto}
/-- a, b = e, e a pair of some data -/
theorem Ex.assignP2 {a b : Str} {pa pb pt pos : Pos} {n : Nat} {e : Expr} {P : Dat → Prop} {R : Out → Prop} (h : EvP X k sc τ e fun g v => ∃ d, P d ∧ Rep g v d) (hP : ∀ d, P d → ∃ d0 d1, d = .tuple [d0, d1] ∧ R (.next (upd b (.dat d1) (upd a (.dat d0) τ)))) (ha : canStore sc a = true := by rfl) (hb : canStore sc b = true := by rfl)
    (hs : ∀ env, swapsWithSole [.Tuple [.Name a pa, .Name b pb] n pt] e pos.line env = pure false := by intro _; rfl) (hw : ∀ env, EnvOk env sc → swappedStores [.Tuple [.Name a pa, .Name b pb] n pt] e env = pure Option.none := by intro _ _; rfl) :
    Ex X k sc τ (exec (.Assign [.Tuple [.Name a pa, .Name b pb] n pt] e pos)) R := by
  intro A env s₀ g₀ H g m cm s E r o b F
  refine Assign_Tuple (wp_ev (h A env g s E r o (b.trans F.st.gg) F.sto) fun v g' s' k1 x1 ⟨d, hd, p1⟩ => ?_) (hs env) (hw env o)
  have F1 := F.ev k1 x1
  obtain ⟨d0, d1, rfl, hr⟩ := hP d hd
  cases p1 with
  | tuple it rr =>
    obtain ⟨v0, v1, he, r0, r1⟩ := rep2 rr
    subst he
    exact wp_assign2 F1 o r (isTup_sub x1.gh it) r0 r1 ha hb fun m' cm' s'' F' => ⟨_, g', m', cm', hr, F'⟩
theorem law_fn (N : Free X) (Sf : Stands X "fspath" fsS) (Sc : Stands X "commonprefix" cpS) (Sp : Stands X "_law_phrases" phrasesS) (Sw : Stands X "_law_fewest" fewestS) (Sl : Stands X "law" lawS)
    {ns : List Int} (hn : ns.length ≤ 63) : FnD X (k + 8) "law" [dList ns] (.bool true) := by
  obtain ⟨m4, D⟩ := Sl
  have hw := wOf_abc hn
  have h63 := hw.1
  refine FnD.intro D ["script"] rfl (fun pm code doc vs hv => ?_) (by decide) (by rfl) ?_
  · match vs, hv with
    | [v], _ => rfl
  refine Ex.cons (Ex.assign (d := dText (wOf ns)) (Ev.to (Ev.join0 (rows := ns.map fun x => [97 + x.fmod 3]) (Ev.to (Ev.compMap (l := ns) (toD := .int) (f := fun x => dText [97 + x.fmod 3]) (Its.list (.local rfl)) [] .of .nil rfl (fun x hx => ?_) (small _ (by omega))) (by rw [List.map_map]; rfl)) (by rw [sum_one]; omega)) (by rw [flatten_one]; rfl)) ?_)
  · have h1 := Int.fmod_nonneg_of_pos x (show (0 : Int) < 3 by decide)
    have h2 := Int.fmod_lt_of_pos x (show (0 : Int) < 3 by decide)
    refine Ev.itemS (c := (97 + x.fmod 3).toNat) .str (Ev.bin (.local rfl) .int (op_mod (by decide))) h1 (by omega) ?_
    rcases (show x.fmod 3 = 0 ∨ x.fmod 3 = 1 ∨ x.fmod 3 = 2 by omega) with h | h | h <;> rw [h] <;> decide
  generalize wOf ns = w at *
  refine Ex.cons (Ex.assignP2 (EvP.callF rfl (.cons (.local rfl) .nil) ((phrases_fn (k := k) N Sf Sc Sp hw).le (by omega))) fun d ⟨rows, e, r1, r2, r3⟩ => ⟨_, _, e, ?_⟩)
  have hpos := (abc_okT hw).1
  have hsl : (strOf w).length ≤ sizeLine := by rw [strOf_length]; exact small _ (by omega)
  refine Ex.cons (Ex.if (c := false) (EvT.or (a := false) (EvT.to (EvT.cmp (Ev.to (d' := dText w) (Ev.join0 (rows := rows) (.local rfl) (by rw [sum_flat, r1]; omega)) (by rw [r1])) (.local rfl) op_neS) (by simp)) fun _ => EvT.to (EvT.cmp (EvP.callB (EvP.builtin rfl N.len rfl (by decide)) (.cons (.local rfl) .nil) (len_list (by rw [List.length_map]; omega))) (EvP.callF rfl (.cons (.local rfl) .nil) ((fewest_fn (k := k) N Sw hw r3).le (by omega))) op_ne) (by simp)) (fun hc => by cases hc) fun _ => Ex.nil ?_)
  refine Ex.last (Ex.return (Ev.cmp (.local rfl) (Ev.to (d' := dText (newTo w w.length)) (Ev.join0 (rows := ((List.range w.length).filter (newAt w)).map fun i => [w.getD i 0])
    (Ev.to (Ev.compFilt (l := List.range w.length) (toD := fun i => .int (0 + (i : Int) * 1)) (p := newAt w) (f := fun i => dText [w.getD i 0]) (Its.range1 (EvP.builtin rfl N.range rfl (by decide)) (EvP.callB (EvP.builtin rfl N.len rfl (by decide)) (.cons (.local rfl) .nil) (len_text (by omega))) (by omega) (by omega)) [("text", .dat (dText w))] .of (.cons rfl .nil) rfl (fun i hi => ?_) (fun i hi _ => ?_) (small _ (by rw [List.length_range]; omega))) (by rw [List.map_map]; rfl)) ?_) (by rw [flatten_one]; rfl)) op_eqS) ?_)
  · have hi := List.mem_range.mp hi
    have hget : (strOf w).cps[(0 + ((i : Nat) : Int) * 1).toNat]? = some (w.getD i 0).toNat := by
      rw [show (0 + ((i : Nat) : Int) * 1).toNat = i by omega]
      unfold strOf
      simp [hi]
    refine EvT.to (EvT.cmp (Ev.itemS (.local rfl) (.local rfl) (by omega) (by omega) hget) (Ev.sliceS (.local rfl) .none (.some (.local rfl)) hsl) op_notinS) ?_
    have hc : 0 ≤ w.getD i 0 := by
      have : w.getD i 0 = w[i] := by simp [hi]
      rw [this]; exact hpos _ (List.getElem_mem hi)
    unfold newAt
    congr 1
    rw [show (0 + ((i : Nat) : Int) * 1) = ((i : Nat) : Int) by omega, cutS_strOf, cut_upto]
    exact decide_eq_decide.mpr (mem_toNat hc fun n hn => hpos n (List.mem_of_mem_take hn))
  · have hi := List.mem_range.mp hi
    refine Ev.itemS (.local rfl) (.local rfl) (by omega) (by omega) ?_
    rw [show (0 + ((i : Nat) : Int) * 1).toNat = i by omega]
    unfold strOf
    simp [hi]
  · rw [sum_one]
    have := List.length_filter_le (newAt w) (List.range w.length)
    rw [List.length_range] at this
    omega
  · show Dat.bool (strOf _ == strOf _) = _
    rw [beq_self_eq_true]
end
end Mine

open PySem PySem.W PyProof.Rows
set_option Elab.async false
set_option maxRecDepth 100000 in
set_option maxHeartbeats 8000000 in
theorem PySem.Challenge.cw_kq0014_01_holds : PySem.Challenge.rw_kq0014_01.Holds := by
  w_on; o_law; k_head; (case hw => w_witness2)
  w_strict (
    k_fill
    intro w s₀ s₁ mg mb G Y fa o pm cd doc dV kV ho hd hcd hD hmg hg args vals as hpre hlay hrd hwl hlo
    refine Ground.open G ?_
    intro T B D TE TW
    wrow_args hpre hlay hrd hwl hlo
    rename_i ns _ _ _ _ _ _ _ l vs _ _ _ wl _ _ _ hlen _
    have free := Mine.free_of T
    have D1 := Mine.fn_of T (Str.ofString "fspath") (d := _) (by with_unfolding_all rfl)
    have D2 := Mine.fn_of T (Str.ofString "commonprefix") (d := _) (by with_unfolding_all rfl)
    have D3 := Mine.fn_of T (Str.ofString "_law_phrases") (d := _) (by with_unfolding_all rfl)
    have D4 := Mine.fn_of T (Str.ofString "_law_fewest") (d := _) (by with_unfolding_all rfl)
    have D5 := Mine.fn_of T (Str.ofString "law") (d := _) (by with_unfolding_all rfl)
    refine Mine.law_ends (X := ⟨PySem.Challenge.rw_kq0014_01.row.prog, w, mg, mb, s₁.heap, T.g, T.b, T.nolimit, T.builtins⟩) (k := 95 + 8) (f := Str.ofString "law") (ns := ns) ?_ hmg rfl (Mine.rep_of_well wl) hg ⟨rfl, by decide, by decide⟩ (raisesW_false ?_) ?_
    rotate_left 1
    · wrow_none_raised
    · wrow_post
    refine Mine.law_fn (k := 95) ⟨free _ (by decide +kernel), free _ (by decide +kernel), free _ (by decide +kernel), free _ (by decide +kernel), free _ (by decide +kernel), free _ (by decide +kernel), free _ (by decide +kernel), free _ (by decide +kernel), free _ (by decide +kernel), free _ (by decide +kernel), free _ (by decide +kernel), free _ (by decide +kernel), free _ (by decide +kernel), free _ (by decide +kernel), free _ (by decide +kernel), free _ (by decide +kernel), free _ (by decide +kernel), free _ (by decide +kernel), free _ (by decide +kernel)⟩ ?_ ?_ ?_ ?_ ?_ (by omega)
    · exact ⟨_, D1⟩
    · exact ⟨_, D2⟩
    · exact ⟨_, D3⟩
    · exact ⟨_, D4⟩
    · exact ⟨_, D5⟩)
