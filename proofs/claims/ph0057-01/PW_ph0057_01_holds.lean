import PyProof.Rows.All
import Wide.All
import OpenK.AllK
import Wide.FinOn
import Lean
import PySem.Challenge.RW_ph0057_01
open PySem PySem.W PyProof.Rows
set_option Elab.async false
set_option maxRecDepth 100000
set_option linter.unusedVariables false
-- Core
namespace Mine

inductive D where
  | none | bool (b : Bool) | int (i : Int) | str (s : List Nat) | tup (l : List D) | list (l : List D) | cell (k : Nat)

abbrev Fz := Addr → Option Obj

def SeqAt (fz : Fz) (T : String) (a : Addr) (vs : List Value) : Prop :=
  ∃ n, fz a = some { cls := .type T, dict := .none, data := .seq vs.toArray n, slots := #[] }

mutual
def Rep (fz : Fz) (μ : List (Option Addr)) : D → Value → Prop
  | .none, v => v = .none
  | .bool b, v => v = .bool b
  | .int i, v => ∃ t, v = .int i t
  | .str x, v => ∃ t, v = .str ⟨x.toArray⟩ t
  | .tup l, v => ∃ a vs, v = .ref a ∧ SeqAt fz "tuple" a vs ∧ Reps fz μ l vs
  | .list l, v => ∃ a vs, v = .ref a ∧ SeqAt fz "list" a vs ∧ Reps fz μ l vs
  | .cell k, v => ∃ a, v = .ref a ∧ μ[k]? = some (some a)
def Reps (fz : Fz) (μ : List (Option Addr)) : List D → List Value → Prop
  | [], vs => vs = []
  | d :: ds, vs => ∃ v vs', vs = v :: vs' ∧ Rep fz μ d v ∧ Reps fz μ ds vs'
end

theorem SeqAt.mono {fz fz' : Fz} {T a vs} (h : ∀ a o, fz a = some o → fz' a = some o) (x : SeqAt fz T a vs) : SeqAt fz' T a vs :=
  let ⟨n, e⟩ := x; ⟨n, h _ _ e⟩

mutual
theorem Rep.mono {fz fz' : Fz} {μ ν : List (Option Addr)} (h : ∀ a o, fz a = some o → fz' a = some o) : ∀ {d : D} {v : Value}, Rep fz μ d v → Rep fz' (μ ++ ν) d v
  | .none, _, x => x
  | .bool _, _, x => x
  | .int _, _, x => x
  | .str _, _, x => x
  | .tup l, _, x => by
    obtain ⟨a, vs, e, q, r⟩ := x
    exact ⟨a, vs, e, q.mono h, Reps.mono h r⟩
  | .list l, _, x => by
    obtain ⟨a, vs, e, q, r⟩ := x
    exact ⟨a, vs, e, q.mono h, Reps.mono h r⟩
  | .cell k, _, x => by
    obtain ⟨a, e, q⟩ := x
    refine ⟨a, e, ?_⟩
    obtain ⟨h1, h2⟩ := List.getElem?_eq_some_iff.mp q
    rw [List.getElem?_append_left h1]; exact q
theorem Reps.mono {fz fz' : Fz} {μ ν : List (Option Addr)} (h : ∀ a o, fz a = some o → fz' a = some o) : ∀ {ds : List D} {vs : List Value}, Reps fz μ ds vs → Reps fz' (μ ++ ν) ds vs
  | [], _, x => x
  | d :: ds, _, x => by
    obtain ⟨v, vs', e, q, r⟩ := x
    exact ⟨v, vs', e, Rep.mono h q, Reps.mono h r⟩
end

theorem Rep.mono0 {fz fz' : Fz} {μ : List (Option Addr)} (h : ∀ a o, fz a = some o → fz' a = some o) {d : D} {v : Value} (x : Rep fz μ d v) : Rep fz' μ d v := by
  have := x.mono (ν := []) h
  rwa [List.append_nil] at this
theorem Reps.mono0 {fz fz' : Fz} {μ : List (Option Addr)} (h : ∀ a o, fz a = some o → fz' a = some o) {d : List D} {v : List Value} (x : Reps fz μ d v) : Reps fz' μ d v := by
  have := x.mono (ν := []) h
  rwa [List.append_nil] at this

theorem Reps.length {fz : Fz} {μ : List (Option Addr)} : ∀ {ds : List D} {vs : List Value}, Reps fz μ ds vs → vs.length = ds.length
  | [], _, x => by cases x; rfl
  | d :: ds, _, x => by
    obtain ⟨v, vs', rfl, _, r⟩ := x
    simp [Reps.length r]

theorem Reps.get {fz : Fz} {μ : List (Option Addr)} : ∀ {ds : List D} {vs : List Value} {i : Nat} {d : D}, Reps fz μ ds vs → ds[i]? = some d → ∃ v, vs[i]? = some v ∧ Rep fz μ d v
  | [], _, _, _, _, h => by simp at h
  | d :: ds, _, 0, _, x, h => by
    obtain ⟨v, vs', rfl, q, r⟩ := x
    simp at h; subst h; exact ⟨v, rfl, q⟩
  | d :: ds, _, i + 1, _, x, h => by
    obtain ⟨v, vs', rfl, q, r⟩ := x
    obtain ⟨w, h1, h2⟩ := Reps.get r (by simpa using h)
    exact ⟨w, by simpa using h1, h2⟩

theorem Reps.append {fz : Fz} {μ : List (Option Addr)} : ∀ {ds es : List D} {vs ws : List Value}, Reps fz μ ds vs → Reps fz μ es ws → Reps fz μ (ds ++ es) (vs ++ ws)
  | [], _, _, _, x, y => by cases x; exact y
  | d :: ds, _, _, _, x, y => by
    obtain ⟨v, vs', rfl, q, r⟩ := x
    exact ⟨v, _, rfl, q, r.append y⟩

theorem Reps.one {fz : Fz} {μ : List (Option Addr)} {d : D} {v : Value} (x : Rep fz μ d v) : Reps fz μ [d] [v] := ⟨v, [], rfl, x, rfl⟩

theorem Reps.take {fz : Fz} {μ : List (Option Addr)} : ∀ {ds : List D} {vs : List Value} (n : Nat), Reps fz μ ds vs → Reps fz μ (ds.take n) (vs.take n)
  | _, _, 0, x => by simp [Reps]
  | [], _, _ + 1, x => by cases x; rfl
  | d :: ds, _, n + 1, x => by
    obtain ⟨v, vs', rfl, q, r⟩ := x
    exact ⟨v, _, rfl, q, r.take n⟩
theorem Reps.drop {fz : Fz} {μ : List (Option Addr)} : ∀ {ds : List D} {vs : List Value} (n : Nat), Reps fz μ ds vs → Reps fz μ (ds.drop n) (vs.drop n)
  | _, _, 0, x => x
  | [], _, _ + 1, x => by cases x; rfl
  | d :: ds, _, n + 1, x => by
    obtain ⟨v, vs', rfl, q, r⟩ := x
    exact r.drop n

/-- how a name of a frame is found -/
def Look (h : Heap) (env : Env) (x : Str) (v : Value) : Prop :=
  (env.kindOf x = some .local ∧ ∃ m, h.Ns env.locals m ∧ m x = some v) ∨
  ((env.kindOf x = some .cell ∨ env.kindOf x = some .free) ∧ ∃ c, env.cells.lookup x = some c ∧ h.IsCell c (some v))

structure Sta (hT : Heap) (env : Env) (ρ : List (Str × D)) (σ : List (List D)) (μ : List (Option Addr)) (fz : Fz) (s : Shared) : Prop where
  sub : ∀ a o, fz a = some o → s.heap.get? a = some o
  top : ∀ a o, hT.get? a = some o → fz a = some o
  isFn : env.scope.kind = .function
  ns : ∃ m, s.heap.Ns env.locals m
  vars : ∀ x d, ρ.lookup x = some d → ∃ v, Look s.heap env x v ∧ Rep fz μ d v
  len : μ.length = σ.length
  lists : ∀ (k : Nat) (a : Addr) (l : List D), μ[k]? = some (some a) → σ[k]? = some l → ∃ vs, SeqAt s.heap.get? "list" a vs ∧ Reps fz μ l vs
  sepL : fz env.locals = none
  sepM : ∀ (k : Nat) (a : Addr), μ[k]? = some (some a) → fz a = none ∧ a ≠ env.locals
  nodup : ∀ (k j : Nat) (a : Addr), μ[k]? = some (some a) → μ[j]? = some (some a) → k = j
  sepC : ∀ x c, env.cells.lookup x = some c → (∃ v, s.heap.IsCell c v) ∧ fz c = none ∧ c ≠ env.locals ∧ ∀ k : Nat, μ[k]? ≠ some (some c)
  injC : ∀ x y c, env.cells.lookup x = some c → env.cells.lookup y = some c → x = y

/-- the heap only grew; what is frozen grew by new objects alone -/
structure Ext (s : Shared) (fz : Fz) (s' : Shared) (fz' : Fz) : Prop where
  keeps : Keeps s s'
  up : ∀ a o, fz a = some o → fz' a = some o
  sub : ∀ a o, fz' a = some o → s'.heap.get? a = some o
  fresh : ∀ a o, fz' a = some o → fz a = some o ∨ s.heap.get? a = none

theorem keeps_refl (s : Shared) : Keeps s s := ⟨s.heap, s.toks, rfl, fun _ _ e => e⟩
theorem keeps_trans {a b c : Shared} (x : Keeps a b) (y : Keeps b c) : Keeps a c := by
  obtain ⟨h1, t1, rfl, k1⟩ := x
  obtain ⟨h2, t2, rfl, k2⟩ := y
  exact ⟨h2, t2, rfl, fun b o e => k2 _ _ (k1 _ _ e)⟩
theorem keeps_get {a b : Shared} (x : Keeps a b) : ∀ c o, a.heap.get? c = some o → b.heap.get? c = some o := by
  obtain ⟨h1, t1, rfl, k1⟩ := x
  exact k1
theorem keeps_tok (s : Shared) (t : Nat) : Keeps s { s with toks := t } := ⟨s.heap, t, rfl, fun _ _ e => e⟩
theorem keeps_push (s : Shared) (o : Obj) : Keeps s { s with heap := s.heap.push o } := ⟨_, s.toks, rfl, fun _ _ e => Heap.get?_push_of_some _ e⟩

theorem Ext.refl {s : Shared} {fz : Fz} (h : ∀ a o, fz a = some o → s.heap.get? a = some o) : Ext s fz s fz := ⟨keeps_refl s, fun _ _ e => e, h, fun _ _ e => .inl e⟩
theorem Ext.trans {s s' s'' : Shared} {fz fz' fz'' : Fz} (x : Ext s fz s' fz') (y : Ext s' fz' s'' fz'') : Ext s fz s'' fz'' where
  keeps := keeps_trans x.keeps y.keeps
  up := fun a o e => y.up _ _ (x.up _ _ e)
  sub := y.sub
  fresh := fun a o e => by
    rcases y.fresh a o e with h | h
    · exact x.fresh a o h
    · refine .inr ?_
      cases h' : s.heap.get? a with
      | none => rfl
      | some o' => rw [keeps_get x.keeps _ _ h'] at h; cases h
/-- no new frozen thing -/
theorem Ext.keep {s s' : Shared} {fz : Fz} (h : ∀ a o, fz a = some o → s.heap.get? a = some o) (k : Keeps s s') : Ext s fz s' fz :=
  ⟨k, fun _ _ e => e, fun a o e => keeps_get k _ _ (h a o e), fun _ _ e => .inl e⟩

/-- all new objects frozen -/
def frozen (s : Shared) (fz : Fz) (s' : Shared) : Fz := fun a => match s.heap.get? a with | some _ => fz a | none => s'.heap.get? a
theorem Ext.all {s s' : Shared} {fz : Fz} (h : ∀ a o, fz a = some o → s.heap.get? a = some o) (k : Keeps s s') : Ext s fz s' (frozen s fz s') where
  keeps := k
  up := fun a o e => by unfold frozen; rw [h a o e]; exact e
  sub := fun a o e => by
    unfold frozen at e
    cases h' : s.heap.get? a with
    | none => rw [h'] at e; exact e
    | some o' => rw [h'] at e; exact keeps_get k _ _ (h a o e)
  fresh := fun a o e => by
    unfold frozen at e
    cases h' : s.heap.get? a with
    | none => exact .inr rfl
    | some o' => rw [h'] at e; exact .inl e
theorem frozen_new {s s' : Shared} {fz : Fz} {a : Addr} {o : Obj} (h : s.heap.get? a = none) (e : s'.heap.get? a = some o) : frozen s fz s' a = some o := by
  unfold frozen; rw [h]; exact e

theorem Look.keeps {h h' : Heap} {env : Env} {x : Str} {v : Value} (k : ∀ b o, h.get? b = some o → h'.get? b = some o) (L : Look h env x v) : Look h' env x v := by
  rcases L with ⟨h1, m, h2, h3⟩ | ⟨h1, c, h2, h3⟩
  · exact .inl ⟨h1, m, h2.keeps k, h3⟩
  · exact .inr ⟨h1, c, h2, h3.keeps k⟩

theorem SeqAt.keeps {h h' : Heap} {T a vs} (k : ∀ b o, h.get? b = some o → h'.get? b = some o) (x : SeqAt h.get? T a vs) : SeqAt h'.get? T a vs := x.mono k

theorem IsCell_get {h : Heap} {c : Addr} {v} (x : h.IsCell c v) : ∃ o, h.get? c = some o := let ⟨o, e, _⟩ := x; ⟨o, e⟩

theorem Sta.ext {hT : Heap} {env ρ σ μ fz s fz' s'} (S : Sta hT env ρ σ μ fz s) (X : Ext s fz s' fz') : Sta hT env ρ σ μ fz' s' where
  sub := X.sub
  top := fun a o e => X.up _ _ (S.top a o e)
  isFn := S.isFn
  ns := let ⟨m, h⟩ := S.ns; ⟨m, h.keeps (keeps_get X.keeps)⟩
  vars := fun x d e => let ⟨v, l, r⟩ := S.vars x d e; ⟨v, l.keeps (keeps_get X.keeps), r.mono0 X.up⟩
  len := S.len
  lists := fun k a l e e' => let ⟨vs, h, r⟩ := S.lists k a l e e'; ⟨vs, h.keeps (keeps_get X.keeps), r.mono0 X.up⟩
  sepL := by
    cases e : fz' env.locals with
    | none => rfl
    | some o =>
      rcases X.fresh _ _ e with h | h
      · rw [S.sepL] at h; cases h
      · obtain ⟨m, o', _, _, ho, _⟩ := S.ns
        rw [h] at ho; cases ho
  sepM := fun k a hk => by
    refine ⟨?_, (S.sepM k a hk).2⟩
    cases e : fz' a with
    | none => rfl
    | some o =>
      rcases X.fresh _ _ e with h | h
      · rw [(S.sepM k a hk).1] at h; cases h
      · have hlt := (List.getElem?_eq_some_iff.mp hk).1
        rw [S.len] at hlt
        obtain ⟨vs, ⟨n, ho⟩, _⟩ := S.lists k a _ hk (List.getElem?_eq_getElem hlt)
        rw [h] at ho; cases ho
  nodup := S.nodup
  sepC := fun x c e => by
    obtain ⟨⟨v, h1⟩, h2, h3, h4⟩ := S.sepC x c e
    refine ⟨⟨v, h1.keeps (keeps_get X.keeps)⟩, ?_, h3, h4⟩
    cases e' : fz' c with
    | none => rfl
    | some o =>
      rcases X.fresh _ _ e' with h | h
      · rw [h2] at h; cases h
      · obtain ⟨o', ho⟩ := IsCell_get h1
        rw [h] at ho; cases ho
  injC := S.injC

/-- room in the frame -/
structure Rm (A : Around) (n : Nat) : Prop where
  handled : A.handled = none
  depth : A.depth + n < recursionLimit
  units : A.units + 16 * n + 16 < cLine

theorem Rm.le {A : Around} {n m : Nat} (x : Rm A n) (h : m ≤ n) : Rm A m := ⟨x.handled, by have := x.depth; omega, by have := x.units; omega⟩

section
variable (prog : Program) (w : World) (hT : Heap)

structure Ev (n : Nat) (env : Env) (ρ : List (Str × D)) (σ : List (List D)) (e : Expr) (d : D) : Prop where of ::
  run : ∀ A, Rm A n → ∀ s μ fz, Sta hT env ρ σ μ fz s → ∀ (Q : Value → Shared → Prop) (E : Value → Shared → Prop),
    (∀ v fz' s', Ext s fz s' fz' → Rep fz' μ d v → Q v s') → wpAny (model prog w) A (eval e env) Q E s

structure EvT (n : Nat) (env : Env) (ρ : List (Str × D)) (σ : List (List D)) (e : Expr) (b : Bool) : Prop where of ::
  run : ∀ A, Rm A n → ∀ s μ fz, Sta hT env ρ σ μ fz s → ∀ (Q : Bool → Shared → Prop) (E : Value → Shared → Prop),
    (∀ fz' s', Ext s fz s' fz' → Q b s') → wpAny (model prog w) A (isTrue e env (eval e env)) Q E s

structure Evs (n : Nat) (env : Env) (ρ : List (Str × D)) (σ : List (List D)) (es : List Expr) (ds : List D) : Prop where of ::
  run : ∀ A, Rm A n → ∀ s μ fz, Sta hT env ρ σ μ fz s → ∀ (pos : Pos) (Q : List Value → Shared → Prop) (E : Value → Shared → Prop),
    (∀ vs fz' s', Ext s fz s' fz' → Reps fz' μ ds vs → Q vs s') → wpAny (model prog w) A (spliced (backTo pos (starEach es env))) Q E s
end

end Mine

-- Rules1
namespace Mine

def plainE : Expr → Bool
  | .Starred .. => false
  | _ => true
def plainEs : List Expr → Bool
  | [] => true
  | e :: es => plainE e && plainEs es
theorem starEach_plain {e : Expr} {es : List Expr} {env : Env} (h : plainE e = true) : starEach (e :: es) env = (false, eval e env) :: starEach es env := by
  cases e <;> first | rfl | cases h
theorem starEach_two {e1 e2 : Expr} {env : Env} (h1 : plainE e1 = true) (h2 : plainE e2 = true) : starEach [e1, e2] env = [(false, eval e1 env), (false, eval e2 env)] := by
  rw [starEach_plain h1, starEach_plain h2]; rfl
theorem starEach_three {e1 e2 e3 : Expr} {env : Env} (h1 : plainE e1 = true) (h2 : plainE e2 = true) (h3 : plainE e3 = true) : starEach [e1, e2, e3] env = [(false, eval e1 env), (false, eval e2 env), (false, eval e3 env)] := by
  rw [starEach_plain h1, starEach_plain h2, starEach_plain h3]; rfl
theorem noStar_aux {env : Env} : ∀ {es : List Expr}, plainEs es = true → ∀ pos, (backTo pos (starEach es env)).any (·.1) = false
  | [], _, pos => rfl
  | e :: es, h, pos => by
    have h' := Bool.and_eq_true_iff.mp h
    rw [starEach_plain h'.1]
    have ih := noStar_aux (env := env) h'.2 pos
    unfold backTo at ih ⊢
    simpa using ih
theorem noStar {env : Env} {es : List Expr} (h : plainEs es = true) : ∀ pos, (backTo pos (starEach es env)).any (·.1) = false := noStar_aux h

section
variable {prog : Program} {w : World} {hT : Heap} {n : Nat} {env : Env} {ρ : List (Str × D)} {σ : List (List D)}

structure Op2 (prog : Program) (w : World) (hT : Heap) (n : Nat) (env : Env) (ρ : List (Str × D)) (σ : List (List D)) (f : Value → Value → Sem Value) (d1 d2 d : D) : Prop where of ::
  run : ∀ A, Rm A n → ∀ s μ fz, Sta hT env ρ σ μ fz s → ∀ v1 v2, Rep fz μ d1 v1 → Rep fz μ d2 v2 → ∀ (Q : Value → Shared → Prop) (E : Value → Shared → Prop),
    (∀ v fz' s', Ext s fz s' fz' → Rep fz' μ d v → Q v s') → wpAny (model prog w) A (f v1 v2) Q E s
structure Op1 (prog : Program) (w : World) (hT : Heap) (n : Nat) (env : Env) (ρ : List (Str × D)) (σ : List (List D)) (f : Value → Sem Value) (d1 d : D) : Prop where of ::
  run : ∀ A, Rm A n → ∀ s μ fz, Sta hT env ρ σ μ fz s → ∀ v1, Rep fz μ d1 v1 → ∀ (Q : Value → Shared → Prop) (E : Value → Shared → Prop),
    (∀ v fz' s', Ext s fz s' fz' → Rep fz' μ d v → Q v s') → wpAny (model prog w) A (f v1) Q E s
/-- a call with evaluated arguments -/
structure OpN (prog : Program) (w : World) (hT : Heap) (n : Nat) (env : Env) (ρ : List (Str × D)) (σ : List (List D)) (f : List Value → Sem Value) (ds : List D) (d : D) : Prop where of ::
  run : ∀ A, Rm A n → ∀ s μ fz, Sta hT env ρ σ μ fz s → ∀ vs, Reps fz μ ds vs → ∀ (Q : Value → Shared → Prop) (E : Value → Shared → Prop),
    (∀ v fz' s', Ext s fz s' fz' → Rep fz' μ d v → Q v s') → wpAny (model prog w) A (f vs) Q E s
structure Tru (prog : Program) (w : World) (hT : Heap) (n : Nat) (env : Env) (ρ : List (Str × D)) (σ : List (List D)) (d : D) (b : Bool) : Prop where of ::
  run : ∀ A, Rm A n → ∀ s μ fz, Sta hT env ρ σ μ fz s → ∀ v, Rep fz μ d v → ∀ (Q : Bool → Shared → Prop) (E : Value → Shared → Prop),
    (∀ s', Keeps s s' → Q b s') → wpAny (model prog w) A (truthy v) Q E s

theorem Ev.int {i : Int} {k pos} : Ev prog w hT n env ρ σ (.Constant (.int i) k pos) (.int i) := .of
  fun _ _ s _ _ S _ _ h => wpAny_Constant_int (h _ _ _ (.keep S.sub (keeps_tok s _)) ⟨_, rfl⟩)
theorem Ev.str {x : Str} {k pos} : Ev prog w hT n env ρ σ (.Constant (.str x) k pos) (.str x.cps.toList) := .of
  fun _ _ s _ _ S _ _ h => wpAny_Constant_str (h _ _ _ (.keep S.sub (keeps_tok s _)) ⟨_, by simp; rfl⟩)
theorem Ev.bool {b : Bool} {k pos} : Ev prog w hT n env ρ σ (.Constant (.bool b) k pos) (.bool b) := .of
  fun _ _ s _ _ S _ _ h => wpAny_Constant_bool (h _ _ _ (.refl S.sub) rfl)

theorem look_wp {M : Model} {A : Around} {s : Shared} {x : Str} {v : Value} {Q : Value → Shared → Prop} {E : Value → Shared → Prop} (hk : env.scope.kind = .function) (L : Look s.heap env x v)
    (h : Q v s) (hc : (x == ("__classdict__" : Str)) = false) : wpAny M A (loadName env x) Q E s := by
  rcases L with ⟨h1, m, h2, h3⟩ | ⟨h1 | h1, c, h2, h3⟩
  · exact wpAny_loadName_local hk h1 h2 h3 h
  · exact wpAny_loadName_cell hk h1 h2 h3 h
  · exact wpAny_loadName_free hk h1 h2 h3 h hc

theorem Ev.name {x : Str} {d : D} {pos} (h : ρ.lookup x = some d) (hd : (x == ("__debug__" : Str)) = false := by decide) (hc : (x == ("__classdict__" : Str)) = false := by decide) :
    Ev prog w hT n env ρ σ (.Name x pos) d := .of fun _ _ s _ _ S _ _ hQ => by
  obtain ⟨v, L, r⟩ := S.vars x d h
  exact wpAny_Name (look_wp S.isFn L (hQ _ _ _ (.refl S.sub) r) hc) hd

theorem Ev.bin {l op r pos d1 d2 d} (h1 : Ev prog w hT n env ρ σ l d1) (h2 : Ev prog w hT n env ρ σ r d2) (ho : Op2 prog w hT n env ρ σ (binaryOp op) d1 d2 d) :
    Ev prog w hT n env ρ σ (.BinOp l op r pos) d := .of fun A hA s μ fz S Q E hQ =>
  wpAny_BinOp (h1.run A hA s μ fz S _ _ fun v1 fz1 s1 X1 r1 => h2.run A hA s1 μ fz1 (S.ext X1) _ _ fun v2 fz2 s2 X2 r2 =>
    ho.run A hA s2 μ fz2 ((S.ext X1).ext X2) v1 v2 (r1.mono0 X2.up) r2 _ _ fun v fz' s' X r => hQ v fz' s' ((X1.trans X2).trans X) r)

theorem Ev.cmp {l op r pos d1 d2 d} (h1 : Ev prog w hT n env ρ σ l d1) (h2 : Ev prog w hT n env ρ σ r d2) (ho : Op2 prog w hT n env ρ σ (compareOp op) d1 d2 d)
    (hm : behindInMarks op r = false := by with_unfolding_all rfl) :
    Ev prog w hT n env ρ σ (.Compare l [op] [r] pos) d := .of fun A hA s μ fz S Q E hQ =>
  wpAny_Compare1 (h1.run A hA s μ fz S _ _ fun v1 fz1 s1 X1 r1 => h2.run A hA s1 μ fz1 (S.ext X1) _ _ fun v2 fz2 s2 X2 r2 =>
    ho.run A hA s2 μ fz2 ((S.ext X1).ext X2) v1 v2 (r1.mono0 X2.up) r2 _ _ fun v fz' s' X r => hQ v fz' s' ((X1.trans X2).trans X) r) hm

theorem EvT.cmp {l op r pos d1 d2 b} (h1 : Ev prog w hT n env ρ σ l d1) (h2 : Ev prog w hT n env ρ σ r d2) (ho : Op2 prog w hT n env ρ σ (compareOp op) d1 d2 (.bool b))
    (hm : behindInMarks op r = false := by with_unfolding_all rfl) :
    EvT prog w hT n env ρ σ (.Compare l [op] [r] pos) b := .of fun A hA s μ fz S Q E hQ =>
  wpAny_isTrue_Compare1 (h1.run A hA s μ fz S _ _ fun v1 fz1 s1 X1 r1 => h2.run A hA s1 μ fz1 (S.ext X1) _ _ fun v2 fz2 s2 X2 r2 =>
    ho.run A hA s2 μ fz2 ((S.ext X1).ext X2) v1 v2 (r1.mono0 X2.up) r2 _ _ fun v fz' s' X r => by
      cases r; exact wpAny_truthy_bool (hQ fz' s' ((X1.trans X2).trans X))) hm

theorem EvT.not {x pos b} (h : EvT prog w hT n env ρ σ x b) : EvT prog w hT n env ρ σ (.UnaryOp .Not x pos) (!b) := .of fun A hA s μ fz S Q E hQ =>
  isTrue_not (h.run A hA s μ fz S _ _ fun fz' s' X => hQ fz' s' X)

/-- a plain expression as a test -/
theorem EvT.plain {e d b} (h : Ev prog w hT n env ρ σ e d) (ht : Tru prog w hT n env ρ σ d b)
    (he : ∀ whole, isTrue e env whole = (do let v ← whole; standAt e.pos; holding [v] (truthy v)) := by intro _; rfl) : EvT prog w hT n env ρ σ e b := .of fun A hA s μ fz S Q E hQ =>
  isTrue_plain (h.run A hA s μ fz S _ _ fun v fz' s' X r => ht.run A hA s' μ fz' (S.ext X) v r _ _ fun s'' k => hQ fz' s'' (X.trans (.keep X.sub k))) (he _)

theorem Tru.bool {b : Bool} : Tru prog w hT n env ρ σ (.bool b) b := .of fun A hA s μ fz S v r Q E hQ => by
  cases r; exact wpAny_truthy_bool (hQ s (keeps_refl s))

theorem EvT.and {x rest pos b c} (h : EvT prog w hT n env ρ σ x b) (h2 : b = true → EvT prog w hT n env ρ σ (.BoolOp .And rest pos) c) (h3 : b = false → c = false) :
    EvT prog w hT n env ρ σ (.BoolOp .And (x :: rest) pos) c := .of fun A hA s μ fz S Q E hQ =>
  isTrue_and (h.run A hA s μ fz S _ _ fun fz' s' X => by
    cases b with
    | true => exact (h2 rfl).run A hA s' μ fz' (S.ext X) _ _ fun fz2 s2 X2 => hQ fz2 s2 (X.trans X2)
    | false => have := h3 rfl; subst this; exact hQ fz' s' X)
theorem EvT.and_nil {pos} : EvT prog w hT n env ρ σ (.BoolOp .And [] pos) true := .of fun A hA s μ fz S Q E hQ => isTrue_and_nil (hQ fz s (.refl S.sub))
theorem EvT.or {x rest pos b c} (h : EvT prog w hT n env ρ σ x b) (h2 : b = false → EvT prog w hT n env ρ σ (.BoolOp .Or rest pos) c) (h3 : b = true → c = true) :
    EvT prog w hT n env ρ σ (.BoolOp .Or (x :: rest) pos) c := .of fun A hA s μ fz S Q E hQ =>
  isTrue_or (h.run A hA s μ fz S _ _ fun fz' s' X => by
    cases b with
    | false => exact (h2 rfl).run A hA s' μ fz' (S.ext X) _ _ fun fz2 s2 X2 => hQ fz2 s2 (X.trans X2)
    | true => have := h3 rfl; subst this; exact hQ fz' s' X)
theorem EvT.or_nil {pos} : EvT prog w hT n env ρ σ (.BoolOp .Or [] pos) false := .of fun A hA s μ fz S Q E hQ => isTrue_or_nil (hQ fz s (.refl S.sub))

/-- the two ands of the text, as values of bools -/
theorem Ev.and2 {x y pos b c} (h : Ev prog w hT n env ρ σ x (.bool b)) (h2 : b = true → Ev prog w hT n env ρ σ y (.bool c)) :
    Ev prog w hT n env ρ σ (.BoolOp .And [x, y] pos) (.bool (b && c)) := .of fun A hA s μ fz S Q E hQ =>
  BoolOp_and (h.run A hA s μ fz S _ _ fun v fz' s' X r => by
    cases r
    refine wpAny_truthy_bool ?_
    cases b with
    | true => exact BoolOp_one ((h2 rfl).run A hA s' μ fz' (S.ext X) _ _ fun v2 fz2 s2 X2 r2 => hQ v2 fz2 s2 (X.trans X2) r2)
    | false => exact hQ _ fz' s' X rfl)

theorem Ev.ifexp {t a b pos c d} (ht : EvT prog w hT n env ρ σ t c) (h1 : c = true → Ev prog w hT n env ρ σ a d) (h2 : c = false → Ev prog w hT n env ρ σ b d) :
    Ev prog w hT n env ρ σ (.IfExp t a b pos) d := .of fun A hA s μ fz S Q E hQ =>
  IfExp_ (ht.run A hA s μ fz S _ _ fun fz' s' X => by
    cases c with
    | true => exact (h1 rfl).run A hA s' μ fz' (S.ext X) _ _ fun v2 fz2 s2 X2 r2 => hQ v2 fz2 s2 (X.trans X2) r2
    | false => exact (h2 rfl).run A hA s' μ fz' (S.ext X) _ _ fun v2 fz2 s2 X2 r2 => hQ v2 fz2 s2 (X.trans X2) r2)

-- operations on ints, strs
theorem Op2.add_int {a b : Int} : Op2 prog w hT n env ρ σ (binaryOp .Add) (.int a) (.int b) (.int (a + b)) := .of fun A hA s μ fz S v1 v2 r1 r2 Q E hQ => by
  obtain ⟨t, rfl⟩ := r1; obtain ⟨u, rfl⟩ := r2
  exact PyProof.Rows.add_int (hQ _ fz _ (.keep S.sub (keeps_tok s _)) ⟨_, rfl⟩)
theorem Op2.sub_int {a b : Int} : Op2 prog w hT n env ρ σ (binaryOp .Sub) (.int a) (.int b) (.int (a - b)) := .of fun A hA s μ fz S v1 v2 r1 r2 Q E hQ => by
  obtain ⟨t, rfl⟩ := r1; obtain ⟨u, rfl⟩ := r2
  exact PyProof.Rows.sub_int (hQ _ fz _ (.keep S.sub (keeps_tok s _)) ⟨_, rfl⟩)
theorem Op2.mul_int {a b : Int} (hm : IntMulOk a b) : Op2 prog w hT n env ρ σ (binaryOp .Mult) (.int a) (.int b) (.int (a * b)) := .of fun A hA s μ fz S v1 v2 r1 r2 Q E hQ => by
  obtain ⟨t, rfl⟩ := r1; obtain ⟨u, rfl⟩ := r2
  exact PyProof.Rows.mul_int (hQ _ fz _ (.keep S.sub (keeps_tok s _)) ⟨_, rfl⟩) hm
theorem Op2.and_int {a b : Int} : Op2 prog w hT n env ρ σ (binaryOp .BitAnd) (.int a) (.int b) (.int (Builtin.bitAnd a b)) := .of fun A hA s μ fz S v1 v2 r1 r2 Q E hQ => by
  obtain ⟨t, rfl⟩ := r1; obtain ⟨u, rfl⟩ := r2
  exact PyProof.Rows.and_int (hQ _ fz _ (.keep S.sub (keeps_tok s _)) ⟨_, rfl⟩)
theorem Op2.mod_int {a b : Int} (hb : b ≠ 0) : Op2 prog w hT n env ρ σ (binaryOp .Mod) (.int a) (.int b) (.int (a.fmod b)) := .of fun A hA s μ fz S v1 v2 r1 r2 Q E hQ => by
  obtain ⟨t, rfl⟩ := r1; obtain ⟨u, rfl⟩ := r2
  exact PyProof.Rows.mod_int' hb (hQ _ fz _ (.keep S.sub (keeps_tok s _)) ⟨_, rfl⟩)
theorem Op2.eq_int {a b : Int} : Op2 prog w hT n env ρ σ (compareOp .Eq) (.int a) (.int b) (.bool (a == b)) := .of fun A hA s μ fz S v1 v2 r1 r2 Q E hQ => by
  obtain ⟨t, rfl⟩ := r1; obtain ⟨u, rfl⟩ := r2
  exact PyProof.Rows.eq_int (hQ _ fz _ (.refl S.sub) rfl)
theorem Op2.ne_int {a b : Int} : Op2 prog w hT n env ρ σ (compareOp .NotEq) (.int a) (.int b) (.bool (a != b)) := .of fun A hA s μ fz S v1 v2 r1 r2 Q E hQ => by
  obtain ⟨t, rfl⟩ := r1; obtain ⟨u, rfl⟩ := r2
  exact PyProof.Rows.ne_int (hQ _ fz _ (.refl S.sub) rfl)
theorem Op2.gt_int {a b : Int} : Op2 prog w hT n env ρ σ (compareOp .Gt) (.int a) (.int b) (.bool (decide (b < a))) := .of fun A hA s μ fz S v1 v2 r1 r2 Q E hQ => by
  obtain ⟨t, rfl⟩ := r1; obtain ⟨u, rfl⟩ := r2
  exact PyProof.Rows.gt_int (hQ _ fz _ (.refl S.sub) rfl)
theorem beq_mk (a b : List Nat) : ((⟨a.toArray⟩ : Str) == ⟨b.toArray⟩) = (a == b) := by
  rw [Bool.eq_iff_iff]; simp
theorem Op2.eq_str {a b : List Nat} : Op2 prog w hT n env ρ σ (compareOp .Eq) (.str a) (.str b) (.bool (a == b)) := .of fun A hA s μ fz S v1 v2 r1 r2 Q E hQ => by
  obtain ⟨t, rfl⟩ := r1; obtain ⟨u, rfl⟩ := r2
  exact PyProof.Rows.eq_str (hQ _ fz _ (.refl S.sub) (by rw [beq_mk]; rfl))
theorem app_mk (a b : List Nat) : ((⟨a.toArray⟩ : Str) ++ (⟨b.toArray⟩ : Str)) = ⟨(a ++ b).toArray⟩ := by
  show Str.append _ _ = _
  simp [Str.append]
theorem Op2.add_str {a b : List Nat} (hsz : a.length + b.length ≤ sizeLine) : Op2 prog w hT n env ρ σ (binaryOp .Add) (.str a) (.str b) (.str (a ++ b)) := .of fun A hA s μ fz S v1 v2 r1 r2 Q E hQ => by
  obtain ⟨t, rfl⟩ := r1; obtain ⟨u, rfl⟩ := r2
  exact PyProof.Rows.add_str (fun t' tk => hQ _ fz _ (.keep S.sub (keeps_tok s _)) ⟨_, by rw [app_mk]⟩) (by simpa [Str.length] using hsz)
theorem Op2.in_str {a b : List Nat} : Op2 prog w hT n env ρ σ (compareOp .In) (.str b) (.str a) (.bool !(Builtin.Str.occurrences ⟨a.toArray⟩ ⟨b.toArray⟩ 0 a.length 1).isEmpty) := .of fun A hA s μ fz S v1 v2 r1 r2 Q E hQ => by
  obtain ⟨t, rfl⟩ := r1; obtain ⟨u, rfl⟩ := r2
  exact PyProof.Rows.in_str (hQ _ fz _ (.refl S.sub) (by simp [Str.length, Rep]))
theorem Op2.floordiv_int {a b : Int} (hb : b ≠ 0) (hp : Builtin.divisionGoesByPylong a b = false) : Op2 prog w hT n env ρ σ (binaryOp .FloorDiv) (.int a) (.int b) (.int (a.fdiv b)) := .of fun A hA s μ fz S v1 v2 r1 r2 Q E hQ => by
  obtain ⟨t, rfl⟩ := r1; obtain ⟨u, rfl⟩ := r2
  exact PyProof.Rows.floordiv_int hb (hQ _ fz _ (.keep S.sub (keeps_tok s _)) ⟨_, rfl⟩) (.inl hp)
end
end Mine

-- Rules2
namespace Mine

def clipN (n dflt : Nat) : Option Int → Nat
  | none => dflt
  | some i => (max 0 (min (if i < 0 then i + n else i) (n : Int))).toNat

def dsl {α : Type} (l : List α) (lo hi : Option Int) : List α :=
  (l.drop (clipN l.length 0 lo)).take (clipN l.length l.length hi - clipN l.length 0 lo)

theorem bounds_clip (lo hi : Option Int) (n : Nat) : sliceBounds lo hi none n = ((clipN n 0 lo : Int), (clipN n n hi : Int), 1) := by
  cases lo <;> cases hi <;> simp [sliceBounds, clipN] <;> omega

theorem slicePick_dsl (items : List Value) (lo hi : Option Int) : slicePick items.toArray lo hi none = (dsl items lo hi).toArray := by
  unfold slicePick dsl
  rw [List.size_toArray, bounds_clip]
  simp only
  rw [sliceRange_one, pick_run]

theorem strIdx_clip (lo hi : Option Int) (n : Nat) : Builtin.Str.strSliceIndices lo hi 1 n = sliceRange (clipN n 0 lo : Int) (clipN n n hi : Int) 1 := by
  cases lo <;> cases hi <;> simp only [Builtin.Str.strSliceIndices, clipN, show (1 : Int) > 0 by decide, if_true] <;> congr 1 <;> omega

theorem dsl_length {α : Type} (l : List α) (lo hi : Option Int) : (dsl l lo hi).length = min (clipN l.length l.length hi - clipN l.length 0 lo) (l.length - clipN l.length 0 lo) := by
  simp [dsl]
theorem clipN_le (n dflt : Nat) (h : dflt ≤ n) : ∀ i, clipN n dflt i ≤ n
  | none => h
  | some i => by simp [clipN]; omega

theorem strSlice_dsl (x : List Nat) (lo hi : Option Int) : Txt.slice ⟨x.toArray⟩ lo hi = ⟨(dsl x lo hi).toArray⟩ := by
  have e : (Builtin.Str.strSliceIndices lo hi 1 x.length).filterMap (x.toArray[·]?) = dsl x lo hi := by
    rw [strIdx_clip, sliceRange_one, pick_run]; rfl
  have hl : (Builtin.Str.strSliceIndices lo hi 1 x.length).length = clipN x.length x.length hi - clipN x.length 0 lo := by
    rw [strIdx_clip, sliceRange_one]; simp
  unfold Txt.slice
  have hx : (⟨x.toArray⟩ : Str).length = x.length := by simp [Str.length]
  rw [hx]
  split
  · rename_i h
    rw [hl] at h
    have h' : clipN x.length x.length hi - clipN x.length 0 lo = x.length := by simpa using h
    have h1 := clipN_le x.length x.length (Nat.le_refl _) hi
    have h0 := clipN_le x.length 0 (Nat.zero_le _) lo
    have h2 : clipN x.length 0 lo = 0 := by omega
    have h3 : clipN x.length x.length hi = x.length := by omega
    simp [dsl, h2, h3]
  · rw [e]

theorem Reps.dsl {fz : Fz} {μ : List (Option Addr)} {l : List D} {vs : List Value} (r : Reps fz μ l vs) (lo hi : Option Int) : Reps fz μ (Mine.dsl l lo hi) (Mine.dsl vs lo hi) := by
  unfold Mine.dsl
  rw [r.length]
  exact (r.drop _).take _

theorem seqIdx_cases {i : Int} {n j : Nat} (h : seqIndex? i n = some j) : (0 ≤ i ∧ i < n ∧ j = i.toNat) ∨ (i < 0 ∧ 0 ≤ i + n ∧ j = (i + n).toNat) := by
  unfold seqIndex? at h
  by_cases h0 : i < 0
  · simp [h0] at h; right; omega
  · simp [h0] at h; left; omega

section
variable {prog : Program} {w : World} {hT : Heap} {n : Nat} {env : Env} {ρ : List (Str × D)} {σ : List (List D)}

/-- a part of a slice -/
inductive EvP (prog : Program) (w : World) (hT : Heap) (n : Nat) (env : Env) (ρ : List (Str × D)) (σ : List (List D)) : Option Expr → Option Int → Prop
  | none : EvP prog w hT n env ρ σ .none .none
  | some {e i} : Ev prog w hT n env ρ σ e (.int i) → EvP prog w hT n env ρ σ (.some e) (.some i)

theorem EvP.run {e : Option Expr} {i : Option Int} (h : EvP prog w hT n env ρ σ e i) {A} (hA : Rm A n) {s μ fz} (S : Sta hT env ρ σ μ fz s) {Q : Value → Shared → Prop} {E : Value → Shared → Prop}
    (hQ : ∀ p fz' s', p.map (·.1) = i → Ext s fz s' fz' → Q (partValue p) s') : wpAny (model prog w) A (evalPart e env) Q E s := by
  cases h with
  | none => exact wpAny_pure (hQ .none fz s rfl (.refl S.sub))
  | some h => 
    refine h.run A hA s μ fz S _ _ fun v fz' s' X r => ?_
    obtain ⟨t, rfl⟩ := r
    exact hQ (.some (_, t)) fz' s' rfl X

theorem seq_of_list {fz : Fz} {μ : List (Option Addr)} {l : List D} {v : Value} (r : Rep fz μ (.list l) v) : ∃ a vs, v = .ref a ∧ SeqAt fz "list" a vs ∧ Reps fz μ l vs := r
theorem isList_of {s : Shared} {fz : Fz} (h : ∀ a o, fz a = some o → s.heap.get? a = some o) {a vs} (x : SeqAt fz "list" a vs) : s.heap.IsList a vs.toArray :=
  let ⟨n, e⟩ := x; ⟨_, h _ _ e, rfl, n, rfl⟩

theorem isPart_of {p : Option (Int × Tok)} : IsPart (partValue p) (p.map (·.1)) := by
  cases p with
  | none => exact .none
  | some q => exact .int _ _

theorem Ev.slice_list {value lower upper p pos l lo hi} (h1 : Ev prog w hT n env ρ σ value (.list l)) (hl : EvP prog w hT n env ρ σ lower lo) (hu : EvP prog w hT n env ρ σ upper hi) (hsz : l.length ≤ sizeLine) :
    Ev prog w hT n env ρ σ (.Subscript value (.Slice lower upper .none p) pos) (.list (dsl l lo hi)) := .of fun A hA s μ fz S Q E hQ => by
  refine Subscript_ (h1.run A hA s μ fz S _ _ fun v1 fz1 s1 X1 r1 => wpAny_Slice (hl.run hA (S.ext X1) fun p1 fz2 s2 e2 X2 => hu.run hA ((S.ext X1).ext X2) fun p2 fz3 s3 e3 X3 => wpAny_pure ?_))
  obtain ⟨a, vs, rfl, q, rs⟩ := r1
  have X := (X1.trans X2).trans X3
  have q3 : SeqAt fz3 "list" a vs := (q.mono X2.up).mono X3.up
  have il : s3.heap.IsList a vs.toArray := isList_of X3.sub q3
  refine tail_any (ops := [.ref s3.heap.objs.size, .ref a]) (il.push _).typeIs list_getitem_lookup (wpAny_getItem_list_slice (il.push _) (Heap.IsSliceOf.new ..) isPart_of isPart_of .none (by simp) ?_ (by rw [List.size_toArray, rs.length]; exact hsz)) rfl
  subst e2 e3
  rw [slicePick_dsl]
  have k1 : Keeps s3 { s3 with heap := (s3.heap.push { cls := .type "slice", data := .fields #[partValue p1, partValue p2, .none] }).push { cls := .type "list", data := .seq (dsl vs (p1.map (·.1)) (p2.map (·.1))).toArray } } :=
    ⟨_, s3.toks, rfl, fun _ _ e => Heap.get?_push_of_some _ (Heap.get?_push_of_some _ e)⟩
  have Y : Ext s3 fz3 _ (frozen s3 fz3 _) := .all X3.sub k1
  refine hQ _ _ _ (X.trans Y) ⟨_, dsl vs (p1.map (·.1)) (p2.map (·.1)), rfl, ⟨0, frozen_new ?_ (Heap.get?_push_size _ rfl)⟩, ?_⟩
  · cases e : s3.heap.get? (s3.heap.push { cls := .type "slice", data := .fields #[partValue p1, partValue p2, .none] }).objs.size with
    | none => rfl
    | some o => have := Heap.lt_size e; rw [Heap.size_push] at this; exact absurd (Nat.lt_of_succ_lt this) (Nat.lt_irrefl _)
  · exact (((rs.mono0 X2.up).mono0 X3.up).mono0 Y.up).dsl _ _

theorem Ev.slice_str {value lower upper p pos l lo hi} (h1 : Ev prog w hT n env ρ σ value (.str l)) (hl : EvP prog w hT n env ρ σ lower lo) (hu : EvP prog w hT n env ρ σ upper hi) (hsz : l.length ≤ sizeLine) :
    Ev prog w hT n env ρ σ (.Subscript value (.Slice lower upper .none p) pos) (.str (dsl l lo hi)) := .of fun A hA s μ fz S Q E hQ => by
  refine Subscript_ (h1.run A hA s μ fz S _ _ fun v1 fz1 s1 X1 r1 => wpAny_Slice (hl.run hA (S.ext X1) fun p1 fz2 s2 e2 X2 => hu.run hA ((S.ext X1).ext X2) fun p2 fz3 s3 e3 X3 => wpAny_pure ?_))
  obtain ⟨t, rfl⟩ := r1
  have X := (X1.trans X2).trans X3
  have hx : (⟨l.toArray⟩ : Str).length = l.length := by simp [Str.length]
  refine tail_any (ops := [.ref s3.heap.objs.size, .str ⟨l.toArray⟩ t]) (typeIs_str _ _ _) F.slot_str_getitem.lookup (wpAny_getItem_str_slice (l := p1) (u := p2) (st := .none) ⟨_, Heap.get?_push_size _ rfl, rfl, rfl⟩ rfl
    (post_val_or_str ⟨Nat.le_trans (Txt.slice_le ⟨l.toArray⟩ _ _) (by rw [hx]; exact hsz), fun t' k => ?_⟩)) rfl
  subst e2 e3
  refine hQ _ fz3 _ (X.trans (.keep X3.sub ⟨_, k, rfl, fun _ _ e => Heap.get?_push_of_some _ e⟩)) ⟨t', ?_⟩
  have := strSlice_dsl l (p1.map (·.1)) (p2.map (·.1))
  unfold Txt.slice at this
  exact congrArg (Value.str · t') this

theorem Ev.item_str {value slice pos l i j c} (h1 : Ev prog w hT n env ρ σ value (.str l)) (h2 : Ev prog w hT n env ρ σ slice (.int i)) (hj : seqIndex? i l.length = some j) (hc : l[j]? = some c)
    (hr : (decide (i < -(2 ^ 63 : Int)) || decide (i ≥ 2 ^ 63)) = false) (hs : ∀ o i, subscripted slice false o i = operate [o, i] (getItem o i) := by intro _ _; rfl) :
    Ev prog w hT n env ρ σ (.Subscript value slice pos) (.str [c]) := .of fun A hA s μ fz S Q E hQ => by
  refine Subscript_ (h1.run A hA s μ fz S _ _ fun v1 fz1 s1 X1 r1 => h2.run A hA s1 μ fz1 (S.ext X1) _ _ fun v2 fz2 s2 X2 r2 => ?_)
  obtain ⟨t, rfl⟩ := r1
  obtain ⟨u, rfl⟩ := r2
  refine tail_any (typeIs_str _ _ _) F.slot_str_getitem.lookup (getItem_str hr (c := c) ?_ (hQ _ fz2 _ ((X1.trans X2).trans (.keep X2.sub (keeps_tok _ _))) ⟨_, rfl⟩)) (hs _ _)
  have hx : (⟨l.toArray⟩ : Str).length = l.length := by simp [Str.length]
  rw [hx, hj]
  simpa using hc

theorem Ev.item_list {value slice pos l i j d} (h1 : Ev prog w hT n env ρ σ value (.list l)) (h2 : Ev prog w hT n env ρ σ slice (.int i)) (hj : seqIndex? i l.length = some j) (hc : l[j]? = some d)
    (hlo : -(2 ^ 63 : Int) ≤ i) (hhi : i < 2 ^ 63) (hs : ∀ o i, subscripted slice false o i = operate [o, i] (getItem o i) := by intro _ _; rfl) :
    Ev prog w hT n env ρ σ (.Subscript value slice pos) d := .of fun A hA s μ fz S Q E hQ => by
  refine Subscript_ (h1.run A hA s μ fz S _ _ fun v1 fz1 s1 X1 r1 => h2.run A hA s1 μ fz1 (S.ext X1) _ _ fun v2 fz2 s2 X2 r2 => ?_)
  obtain ⟨a, vs, rfl, q, rs⟩ := r1
  obtain ⟨u, rfl⟩ := r2
  have il : s2.heap.IsList a vs.toArray := isList_of X2.sub (q.mono X2.up)
  obtain ⟨x, hx, rx⟩ := rs.get hc
  have hfin : Q x s2 := hQ x fz2 s2 (X1.trans X2) (rx.mono0 X2.up)
  refine tail_any il.typeIs list_getitem_lookup ?_ (hs _ _)
  have hlen := rs.length
  rcases seqIdx_cases hj with ⟨h0, h1, rfl⟩ | ⟨h0, h1, rfl⟩
  · exact wpAny_getItem_list il h0 hhi (x := x) (by simpa using hx) hfin
  · refine wpAny_getItem_list_neg il h0 (by rw [List.size_toArray, hlen]; omega) hlo (x := x) ?_ hfin
    rw [List.size_toArray, hlen]
    simpa using hx

theorem Evs.nil : Evs prog w hT n env ρ σ [] [] := .of fun A hA s μ fz S pos Q E hQ => wpAny_items_nil (hQ [] fz s (.refl S.sub) rfl)
theorem Evs.cons {e es d ds} (h1 : Ev prog w hT n env ρ σ e d) (h2 : Evs prog w hT n env ρ σ es ds) (hns : starEach (e :: es) env = (false, eval e env) :: starEach es env := by exact starEach_plain rfl) :
    Evs prog w hT n env ρ σ (e :: es) (d :: ds) := .of fun A hA s μ fz S pos Q E hQ => by
  rw [hns]
  show wpAny _ _ (spliced ((false, eval e env) :: backTo pos (starEach es env))) _ _ _
  refine Calls.spliced_cons (h1.run A hA s μ fz S _ _ fun v fz1 s1 X1 r1 => h2.run A hA s1 μ fz1 (S.ext X1) pos _ _ fun vs fz2 s2 X2 r2 => hQ _ fz2 s2 (X1.trans X2) ⟨v, vs, rfl, r1.mono0 X2.up, r2⟩)

theorem new_frozen {s : Shared} {fz : Fz} {o : Obj} (hs : ∀ a o, fz a = some o → s.heap.get? a = some o) (hf : o.isFreed = false) :
    Ext s fz { s with heap := s.heap.push o } (frozen s fz { s with heap := s.heap.push o }) ∧ frozen s fz { s with heap := s.heap.push o } s.heap.objs.size = some o := by
  refine ⟨.all hs (keeps_push s o), frozen_new ?_ (Heap.get?_push_size _ hf)⟩
  cases e : s.heap.get? s.heap.objs.size with
  | none => rfl
  | some o' => exact absurd (Heap.lt_size e) (Nat.lt_irrefl _)

theorem Ev.list {elts pos ds} (h : Evs prog w hT n env ρ σ elts ds) (hsz : ds.length ≤ sizeLine) : Ev prog w hT n env ρ σ (.List elts pos) (.list ds) := .of fun A hA s μ fz S Q E hQ => by
  refine List_ (h.run A hA s μ fz S pos _ _ fun vs fz1 s1 X1 r1 => ?_)
  obtain ⟨Y, hy⟩ := new_frozen (o := { cls := .type "list", data := .seq vs.toArray }) X1.sub rfl
  refine wpAny_newObj_type (hQ _ _ _ (X1.trans Y) ⟨_, vs, rfl, ⟨0, hy⟩, r1.mono0 Y.up⟩) (by show vs.toArray.size ≤ sizeLine; rw [List.size_toArray, r1.length]; exact hsz)
theorem Ev.tuple {elts k pos ds} (h : Evs prog w hT n env ρ σ elts ds) (hsz : ds.length ≤ sizeLine) : Ev prog w hT n env ρ σ (.Tuple elts k pos) (.tup ds) := .of fun A hA s μ fz S Q E hQ => by
  refine Tuple_ (h.run A hA s μ fz S pos _ _ fun vs fz1 s1 X1 r1 => ?_)
  obtain ⟨Y, hy⟩ := new_frozen (o := { cls := .type "tuple", data := .seq vs.toArray }) X1.sub rfl
  refine wpAny_newObj_type (hQ _ _ _ (X1.trans Y) ⟨_, vs, rfl, ⟨0, hy⟩, r1.mono0 Y.up⟩) (by show vs.toArray.size ≤ sizeLine; rw [List.size_toArray, r1.length]; exact hsz)

theorem Op2.add_list {l b : List D} (hsz : l.length + b.length ≤ sizeLine) : Op2 prog w hT n env ρ σ (binaryOp .Add) (.list l) (.list b) (.list (l ++ b)) := .of fun A hA s μ fz S v1 v2 r1 r2 Q E hQ => by
  obtain ⟨a1, vs1, rfl, ⟨n1, q1⟩, rs1⟩ := r1
  obtain ⟨a2, vs2, rfl, ⟨n2, q2⟩, rs2⟩ := r2
  obtain ⟨Y, hy⟩ := new_frozen (o := { cls := .type "list", data := .seq (vs1.toArray ++ vs2.toArray) }) S.sub rfl
  refine P.add_list (S.sub _ _ q1) (S.sub _ _ q2) (hQ _ _ _ Y ⟨_, vs1 ++ vs2, rfl, ⟨0, by rw [hy]; simp⟩, (rs1.append rs2).mono0 Y.up⟩) (by simp [rs1.length, rs2.length]; exact hsz)

theorem Op2.ne_bool {a b : Bool} : Op2 prog w hT n env ρ σ (compareOp .NotEq) (.bool a) (.bool b) (.bool (a != b)) := .of fun A hA s μ fz S v1 v2 r1 r2 Q E hQ => by
  cases r1; cases r2
  exact PyProof.Rows.ne_bool (hQ _ fz _ (.refl S.sub) rfl)

theorem Ev.neg {x pos i} (h : Ev prog w hT n env ρ σ x (.int i)) : Ev prog w hT n env ρ σ (.UnaryOp .USub x pos) (.int (-i)) := .of fun A hA s μ fz S Q E hQ =>
  UnaryOp_ (h.run A hA s μ fz S _ _ fun v fz1 s1 X1 r1 => by
    obtain ⟨t, rfl⟩ := r1
    exact PyProof.Rows.neg_int (hQ _ fz1 _ (X1.trans (.keep X1.sub (keeps_tok _ _))) ⟨_, rfl⟩))

theorem rep_foldl (k : Nat) (l : List Nat) : ∀ acc : Array Nat, ((List.replicate k l.toArray).foldl (· ++ ·) acc) = acc ++ ((List.replicate k l).flatten).toArray := by
  induction k with
  | zero => intro acc; simp
  | succ k ih => intro acc; rw [List.replicate_succ, List.foldl_cons, ih]; simp [List.replicate_succ]

theorem Op2.mul_str {a : List Nat} {i : Int} (h0 : 0 ≤ i) (hi : i ≤ 4096) (ha : a.length ≤ 64) : Op2 prog w hT n env ρ σ (binaryOp .Mult) (.str a) (.int i) (.str (List.replicate i.toNat a).flatten) := .of fun A hA s μ fz S v1 v2 r1 r2 Q E hQ => by
  obtain ⟨t, rfl⟩ := r1; obtain ⟨u, rfl⟩ := r2
  have hx : (⟨a.toArray⟩ : Str).length = a.length := by simp [Str.length]
  have hm : a.length * i.toNat ≤ 64 * 4096 := Nat.mul_le_mul ha (by omega)
  refine SB.mul (x := ⟨a.toArray⟩) ⟨by simp; omega, fun h1 _ => ?_, fun _ _ => ?_⟩ fun t' k => hQ _ fz _ (.keep S.sub (keeps_tok _ _)) ⟨t', ?_⟩
  · rw [hx]
    have : (64 : Int) ≤ (2 ^ 63 - 1) / i := by
      apply Int.le_ediv_of_mul_le (by omega)
      have : 64 * i ≤ 64 * 4096 := by omega
      omega
    omega
  · rw [hx]; unfold Builtin.Str.tooLong sizeLine; exact decide_eq_false (by omega)
  · congr 1
    unfold Txt.mul
    rw [hx]
    by_cases h1 : i < 1
    · have : i = 0 := by omega
      subst this; simp; rfl
    · rw [if_neg h1]
      split
      · rename_i hc
        simp only [Bool.or_eq_true, beq_iff_eq] at hc
        rcases hc with hc | hc
        · subst hc; simp
        · have : a = [] := List.length_eq_zero_iff.mp hc
          subst this; simp
      · rw [rep_foldl]; simp
end
end Mine

-- Rules3
namespace Mine

def upd : List (Str × D) → Str → D → List (Str × D)
  | [], x, d => [(x, d)]
  | (y, e) :: r, x, d => if y == x then (y, d) :: r else (y, e) :: upd r x d

theorem lookup_upd (x : Str) (d : D) (y : Str) : ∀ ρ : List (Str × D), (upd ρ x d).lookup y = if y = x then some d else ρ.lookup y
  | [] => by
    unfold upd
    by_cases h : y = x
    · subst h; simp [List.lookup]
    · have : (y == x) = false := by simpa using h
      simp [List.lookup, this, h]
  | (z, e) :: r => by
    unfold upd
    by_cases hz : z = x
    · subst hz
      by_cases h : y = z
      · subst h; simp [List.lookup]
      · have : (y == z) = false := by simpa using h
        simp [List.lookup, this, h]
    · have hz' : (z == x) = false := by simpa using hz
      rw [hz']
      simp only [Bool.false_eq_true, if_false]
      by_cases h : y = z
      · subst h
        simp [List.lookup, hz]
      · have : (y == z) = false := by simpa using h
        simp only [List.lookup, this]
        exact lookup_upd x d y r

theorem ns_unique {h : Heap} {a : Addr} {m m' : Str → Option Value} (x : h.Ns a m) (y : h.Ns a m') : m = m' := by
  obtain ⟨o, es, ep, e1, e2, _, e3⟩ := x
  obtain ⟨o', es', ep', f1, f2, _, f3⟩ := y
  rw [e1] at f1; cases f1
  rw [e2] at f2; cases f2
  funext z; rw [← e3, ← f3]

/-- where a name is stored -/
def Loc (env : Env) (x : Str) (a : Addr) : Prop := (env.kindOf x = some .local ∧ a = env.locals) ∨ env.cells.lookup x = some a

structure Step (W : Addr → Prop) (s : Shared) (μ : List (Option Addr)) (fz : Fz) (s' : Shared) (μ' : List (Option Addr)) (fz' : Fz) : Prop where
  same : ∃ h tk, s' = { s with heap := h, toks := tk }
  pres : ∀ a o, ¬ W a → (∀ k : Nat, μ[k]? ≠ some (some a)) → s.heap.get? a = some o → s'.heap.get? a = some o
  alive : ∀ a o, s.heap.get? a = some o → ∃ o', s'.heap.get? a = some o'
  up : ∀ a o, fz a = some o → fz' a = some o
  fresh : ∀ a o, fz' a = some o → fz a = some o ∨ s.heap.get? a = none ∨ ∃ k : Nat, μ[k]? = some (some a)
  mu : ∀ (k : Nat) (a : Addr), μ'[k]? = some (some a) → μ[k]? = some (some a) ∨ s.heap.get? a = none

theorem Step.refl {W : Addr → Prop} {s μ fz} : Step W s μ fz s μ fz :=
  ⟨⟨s.heap, s.toks, rfl⟩, fun _ _ _ _ e => e, fun a o e => ⟨o, e⟩, fun _ _ e => e, fun _ _ e => .inl e, fun _ _ e => .inl e⟩
theorem Step.mono {W W' : Addr → Prop} {s μ fz s' μ' fz'} (h : ∀ a, W a → W' a) (x : Step W s μ fz s' μ' fz') : Step W' s μ fz s' μ' fz' :=
  ⟨x.same, fun a o hw => x.pres a o fun h' => hw (h a h'), x.alive, x.up, x.fresh, x.mu⟩
theorem Step.trans {W : Addr → Prop} {s μ fz s' μ' fz' s'' μ'' fz''} (x : Step W s μ fz s' μ' fz') (y : Step W s' μ' fz' s'' μ'' fz'') : Step W s μ fz s'' μ'' fz'' where
  same := by obtain ⟨h, t, rfl⟩ := x.same; obtain ⟨h', t', rfl⟩ := y.same; exact ⟨h', t', rfl⟩
  pres := fun a o hw hm e => y.pres a o hw (fun k hk => by
    rcases x.mu k a hk with h | h
    · exact hm k h
    · rw [h] at e; cases e) (x.pres a o hw hm e)
  alive := fun a o e => let ⟨o', e'⟩ := x.alive a o e; y.alive a o' e'
  up := fun a o e => y.up a o (x.up a o e)
  fresh := fun a o e => by
    rcases y.fresh a o e with h | h | ⟨k, h⟩
    · exact x.fresh a o h
    · refine .inr (.inl ?_)
      cases e' : s.heap.get? a with
      | none => rfl
      | some o' => obtain ⟨o2, e2⟩ := x.alive a o' e'; rw [h] at e2; cases e2
    · rcases x.mu k a h with h | h
      · exact .inr (.inr ⟨k, h⟩)
      · exact .inr (.inl h)
  mu := fun k a e => by
    rcases y.mu k a e with h | h
    · exact x.mu k a h
    · refine .inr ?_
      cases e' : s.heap.get? a with
      | none => rfl
      | some o' => obtain ⟨o2, e2⟩ := x.alive a o' e'; rw [h] at e2; cases e2
theorem Ext.step {W : Addr → Prop} {s fz s' fz' μ} (x : Ext s fz s' fz') : Step W s μ fz s' μ fz' where
  same := by obtain ⟨h, t, rfl, _⟩ := x.keeps; exact ⟨h, t, rfl⟩
  pres := fun a o _ _ e => keeps_get x.keeps _ _ e
  alive := fun a o e => ⟨o, keeps_get x.keeps _ _ e⟩
  up := x.up
  fresh := fun a o e => (x.fresh a o e).elim .inl fun h => .inr (.inl h)
  mu := fun _ _ e => .inl e

/-- growth: only addresses within W are turned -/
structure Grow (W : Addr → Prop) (s : Shared) (μ : List (Option Addr)) (fz : Fz) (s' : Shared) (μ' : List (Option Addr)) (fz' : Fz) : Prop where
  same : ∃ h tk, s' = { s with heap := h, toks := tk }
  pres : ∀ a o, ¬ W a → s.heap.get? a = some o → s'.heap.get? a = some o
  alive : ∀ a o, s.heap.get? a = some o → ∃ o', s'.heap.get? a = some o'
  up : ∀ a o, fz a = some o → fz' a = some o
  fresh : ∀ a o, fz' a = some o → fz a = some o ∨ s.heap.get? a = none
  pre : ∃ ν, μ' = μ ++ ν
  mu : ∀ (k : Nat) (a : Addr), μ'[k]? = some (some a) → μ[k]? = some (some a) ∨ s.heap.get? a = none

theorem Grow.refl {W : Addr → Prop} {s μ fz} : Grow W s μ fz s μ fz :=
  ⟨⟨s.heap, s.toks, rfl⟩, fun _ _ _ e => e, fun a o e => ⟨o, e⟩, fun _ _ e => e, fun _ _ e => .inl e, ⟨[], by simp⟩, fun _ _ e => .inl e⟩
theorem Grow.mono {W W' : Addr → Prop} {s μ fz s' μ' fz'} (h : ∀ a, W a → W' a) (x : Grow W s μ fz s' μ' fz') : Grow W' s μ fz s' μ' fz' :=
  ⟨x.same, fun a o hw => x.pres a o fun h' => hw (h a h'), x.alive, x.up, x.fresh, x.pre, x.mu⟩
theorem Grow.trans {W : Addr → Prop} {s μ fz s' μ' fz' s'' μ'' fz''} (x : Grow W s μ fz s' μ' fz') (y : Grow W s' μ' fz' s'' μ'' fz'') : Grow W s μ fz s'' μ'' fz'' where
  same := by obtain ⟨h, t, rfl⟩ := x.same; obtain ⟨h', t', rfl⟩ := y.same; exact ⟨h', t', rfl⟩
  pres := fun a o hw e => y.pres a o hw (x.pres a o hw e)
  alive := fun a o e => let ⟨o', e'⟩ := x.alive a o e; y.alive a o' e'
  up := fun a o e => y.up a o (x.up a o e)
  fresh := fun a o e => by
    rcases y.fresh a o e with h | h
    · exact x.fresh a o h
    · refine .inr ?_
      cases e' : s.heap.get? a with
      | none => rfl
      | some o' => obtain ⟨o2, e2⟩ := x.alive a o' e'; rw [h] at e2; cases e2
  pre := by obtain ⟨ν, rfl⟩ := x.pre; obtain ⟨ν', rfl⟩ := y.pre; exact ⟨ν ++ ν', by simp⟩
  mu := fun k a e => by
    rcases y.mu k a e with h | h
    · exact x.mu k a h
    · refine .inr ?_
      cases e' : s.heap.get? a with
      | none => rfl
      | some o' => obtain ⟨o2, e2⟩ := x.alive a o' e'; rw [h] at e2; cases e2
theorem Ext.grow {W : Addr → Prop} {s fz s' fz' μ} (x : Ext s fz s' fz') : Grow W s μ fz s' μ fz' where
  same := by obtain ⟨h, t, rfl, _⟩ := x.keeps; exact ⟨h, t, rfl⟩
  pres := fun a o _ e => keeps_get x.keeps _ _ e
  alive := fun a o e => ⟨o, keeps_get x.keeps _ _ e⟩
  up := x.up
  fresh := x.fresh
  pre := ⟨[], by simp⟩
  mu := fun _ _ e => .inl e
theorem Grow.keeps {W : Addr → Prop} {s μ fz s' μ' fz'} (x : Grow W s μ fz s' μ' fz') (h : ∀ a, W a → s.heap.get? a = none) : Keeps s s' := by
  obtain ⟨h', t, rfl⟩ := x.same
  exact ⟨h', t, rfl, fun b o e => x.pres b o (fun hw => by rw [h b hw] at e; cases e) e⟩
theorem Grow.step {W W' : Addr → Prop} {s μ fz s' μ' fz'} (x : Grow W s μ fz s' μ' fz') (h : ∀ a, W a → W' a ∨ s.heap.get? a = none ∨ ∃ k : Nat, μ[k]? = some (some a)) : Step W' s μ fz s' μ' fz' where
  same := x.same
  pres := fun a o hw hm e => x.pres a o (fun ha => by
    rcases h a ha with h1 | h1 | ⟨k, h1⟩
    · exact hw h1
    · rw [h1] at e; cases e
    · exact hm k h1) e
  alive := x.alive
  up := x.up
  fresh := fun a o e => (x.fresh a o e).elim .inl fun h => .inr (.inl h)
  mu := x.mu

def storable (env : Env) (x : Str) : Prop := env.kindOf x = some .local ∨ (env.kindOf x = some .cell ∧ ∃ c, env.cells.lookup x = some c)

/-- the targets of an unpacking, each a name -/
inductive AsN (env : Env) : List Expr → List D → List (Str × D) → List (Str × D) → List Str → Prop
  | nil (ρ : List (Str × D)) : AsN env [] [] ρ ρ []
  | cons {x pos es d ds xs} {ρ ρ' : List (Str × D)} : storable env x → AsN env es ds (upd ρ x d) ρ' xs → AsN env (.Name x pos :: es) (d :: ds) ρ ρ' (x :: xs)


section
variable {prog : Program} {w : World} {hT : Heap} {n : Nat} {env : Env} {ρ : List (Str × D)} {σ : List (List D)}

/-- one address of the frame's own turned, the rest as it was -/
theorem Sta.turn {μ fz s h' tk a} (S : Sta hT env ρ σ μ fz s) (hs : Heap.SameBut a s.heap h') (hf : fz a = none) (hm : ∀ k : Nat, μ[k]? ≠ some (some a)) (hns : ∃ m, h'.Ns env.locals m)
    (hcell : ∀ x c, env.cells.lookup x = some c → ∃ v, h'.IsCell c v)
    {ρ' : List (Str × D)} (hv : ∀ x d, ρ'.lookup x = some d → ∃ v, Look h' env x v ∧ Rep fz μ d v) : Sta hT env ρ' σ μ fz { s with heap := h', toks := tk } where
  sub := fun b o e => by
    have hb : b ≠ a := by rintro rfl; rw [hf] at e; cases e
    exact (hs.2 b hb).trans (S.sub b o e)
  top := S.top
  isFn := S.isFn
  ns := hns
  vars := hv
  len := S.len
  lists := fun k b l e e' => by
    obtain ⟨vs, ⟨n, q⟩, r⟩ := S.lists k b l e e'
    have hb : b ≠ a := by rintro rfl; exact hm k e
    exact ⟨vs, ⟨n, (hs.2 b hb).trans q⟩, r⟩
  sepL := S.sepL
  sepM := S.sepM
  nodup := S.nodup
  sepC := fun x c e => ⟨hcell x c e, (S.sepC x c e).2⟩
  injC := S.injC

theorem sameBut_step {W : Addr → Prop} {s : Shared} {μ fz h' tk a} (hs : Heap.SameBut a s.heap h') (hw : W a) (hl : ∃ o, h'.get? a = some o) : Grow W s μ fz { s with heap := h', toks := tk } μ fz where
  same := ⟨h', tk, rfl⟩
  pres := fun b o hb e => (hs.2 b (by rintro rfl; exact hb hw)).trans e
  alive := fun b o e => by
    by_cases hb : b = a
    · subst hb; exact hl
    · exact ⟨o, (hs.2 b hb).trans e⟩
  up := fun _ _ e => e
  fresh := fun _ _ e => .inl e
  pre := ⟨[], by simp⟩
  mu := fun _ _ e => .inl e

theorem Sta.store {A : Around} {M : Model} {μ fz s x d v} (S : Sta hT env ρ σ μ fz s) (r : Rep fz μ d v)
    (hk : env.kindOf x = some .local ∨ (env.kindOf x = some .cell ∧ ∃ c, env.cells.lookup x = some c)) {Q : Unit → Shared → Prop} {E : Value → Shared → Prop}
    (hQ : ∀ s', Sta hT env (upd ρ x d) σ μ fz s' → Grow (Loc env x) s μ fz s' μ fz → Q () s') : wpAny M A (storeName env x v) Q E s := by
  have hfn := S.isFn
  rcases hk with hk | ⟨hk, c, hc⟩
  · obtain ⟨m, hn⟩ := S.ns
    refine wpAny_storeName_local hk hn (fun h' hn' hs' => ?_) (by rw [hfn]; rfl)
    have hLc : ∀ y c, env.cells.lookup y = some c → c ≠ env.locals := fun y c e => (S.sepC y c e).2.2.1
    refine hQ _ (S.turn hs' S.sepL (fun k e => (S.sepM k _ e).2 rfl) ⟨_, hn'⟩ (fun y c e => ?_) fun y d' e => ?_) (sameBut_step hs' (.inl ⟨hk, rfl⟩) ?_)
    · obtain ⟨v', h1⟩ := (S.sepC y c e).1
      exact ⟨v', h1.sameBut hs' (hLc y c e)⟩
    · rw [lookup_upd] at e
      by_cases hy : y = x
      · subst hy
        rw [if_pos rfl] at e; cases e
        exact ⟨v, .inl ⟨hk, _, hn', by simp⟩, r⟩
      · rw [if_neg hy] at e
        obtain ⟨v', L, r'⟩ := S.vars y d' e
        refine ⟨v', ?_, r'⟩
        rcases L with ⟨h1, m', h2, h3⟩ | ⟨h1, c, h2, h3⟩
        · refine .inl ⟨h1, _, hn', ?_⟩
          rw [ns_unique h2 hn] at h3
          simp [hy, h3]
        · exact .inr ⟨h1, c, h2, h3.sameBut hs' (hLc y c h2)⟩
    · obtain ⟨o, _, _, ho, _⟩ := hn'; exact ⟨o, ho⟩
  · obtain ⟨⟨v0, hc0⟩, hcf, hcL, hcm⟩ := S.sepC x c hc
    obtain ⟨m, hn⟩ := S.ns
    refine wpAny_storeName_cell hfn hk hc hc0 fun h' hc' hs' => ?_
    refine hQ _ (S.turn hs' hcf hcm ⟨m, hn.sameBut hs' (Ne.symm hcL)⟩ (fun y c' e => ?_) fun y d' e => ?_) (sameBut_step hs' (.inr hc) (IsCell_get hc'))
    · by_cases hcc : c' = c
      · subst hcc; exact ⟨_, hc'⟩
      · obtain ⟨v', h1⟩ := (S.sepC y c' e).1
        exact ⟨v', h1.sameBut hs' hcc⟩
    · rw [lookup_upd] at e
      by_cases hy : y = x
      · subst hy
        rw [if_pos rfl] at e; cases e
        exact ⟨v, .inr ⟨.inl hk, c, hc, hc'⟩, r⟩
      · rw [if_neg hy] at e
        obtain ⟨v', L, r'⟩ := S.vars y d' e
        refine ⟨v', ?_, r'⟩
        rcases L with ⟨h1, m', h2, h3⟩ | ⟨h1, c', h2, h3⟩
        · exact .inl ⟨h1, m', h2.sameBut hs' (Ne.symm hcL), h3⟩
        · refine .inr ⟨h1, c', h2, h3.sameBut hs' ?_⟩
          rintro rfl
          exact hy (S.injC _ _ _ h2 hc)

/-- assigning d to a target turns ρ into ρ'; xs: the names -/
structure As (prog : Program) (w : World) (hT : Heap) (n : Nat) (env : Env) (σ : List (List D)) (target : Expr) (d : D) (ρ ρ' : List (Str × D)) (xs : List Str) : Prop where of ::
  run : ∀ A, Rm A n → ∀ s μ fz, Sta hT env ρ σ μ fz s → ∀ v, Rep fz μ d v → ∀ (Q : Unit → Shared → Prop) (E : Value → Shared → Prop),
    (∀ s', Sta hT env ρ' σ μ fz s' → Grow (fun a => ∃ x ∈ xs, Loc env x a) s μ fz s' μ fz → Q () s') → wpAny (model prog w) A (assign target env v) Q E s

theorem As.name {x pos d} (hk : storable env x) : As prog w hT n env σ (.Name x pos) d ρ (upd ρ x d) [x] := .of fun A hA s μ fz S v r Q E hQ =>
  wpAny_assign_Name (S.store r hk fun s' S' X => hQ s' S' (X.mono fun a h => ⟨x, by simp, h⟩))

theorem AsN.len {es ds ρ ρ' xs} (h : AsN env es ds ρ ρ' xs) : (assignEach es env).length = ds.length ∧ (assignEach es env).findIdx? (·.1) = none := by
  induction h with
  | nil => exact ⟨rfl, rfl⟩
  | cons hk h ih =>
    show ((false, _) :: assignEach _ env).length = _ ∧ List.findIdx? _ ((false, _) :: assignEach _ env) = none
    rw [List.findIdx?_cons]
    simp [ih.1, ih.2]

theorem AsN.run {es ds ρ' xs} (h : AsN env es ds ρ ρ' xs) {A : Around} {M : Model} : ∀ {s μ fz}, Sta hT env ρ σ μ fz s → ∀ {vs}, Reps fz μ ds vs → ∀ {Q : Unit → Shared → Prop} {E : Value → Shared → Prop},
    (∀ s', Sta hT env ρ' σ μ fz s' → Grow (fun a => ∃ x ∈ xs, Loc env x a) s μ fz s' μ fz → Q () s') → wpAny M A (assignInOrder ((assignEach es env).map (·.2)) vs) Q E s := by
  induction h with
  | nil => intro s μ fz S vs r Q E hQ; cases r; exact wpAny_pure (hQ s S .refl)
  | @cons x pos es d ds ρ ρ' xs hk h ih =>
    intro s μ fz S vs r Q E hQ
    obtain ⟨v, vs', rfl, r1, r2⟩ := r
    show wpAny _ _ (assignInOrder (assign (.Name x pos) env :: (assignEach es env).map (·.2)) (v :: vs')) _ _ _
    unfold assignInOrder
    refine wpAny_bind (wpAny_holding (wpAny_assign_Name (S.store r1 hk fun s' S' X => ?_)))
    refine ih S' r2 fun s'' S'' X' => hQ s'' S'' ((X.mono fun a h => ?_).trans (X'.mono fun a h => ?_))
    · exact ⟨x, by simp, h⟩
    · obtain ⟨y, hy, h⟩ := h; exact ⟨y, by simp [hy], h⟩

theorem ext_of_extBut {s : Shared} {fz : Fz} {h' : Heap} (hs : ∀ a o, fz a = some o → s.heap.get? a = some o) (hx : Heap.ExtBut s.heap.objs.size s.heap h') : Ext s fz { s with heap := h' } fz :=
  .keep hs ⟨h', s.toks, rfl, fun b o e => hx b o (Nat.ne_of_lt (Heap.lt_size e)) e⟩

theorem As.tuple {es k pos ds ρ' xs} (h : AsN env es ds ρ ρ' xs) : As prog w hT n env σ (.Tuple es k pos) (.tup ds) ρ ρ' xs := .of fun A hA s μ fz S v r Q E hQ => by
  obtain ⟨a, vs, rfl, ⟨n', q⟩, rs⟩ := r
  have ht : s.heap.IsTuple a vs.toArray := ⟨_, S.sub _ _ q, rfl, _, rfl⟩
  refine wpAny_assign_Tuple hA.handled ht (by rw [h.len.1, List.size_toArray, rs.length]) h.len.2 fun h' hx => ?_
  have X := ext_of_extBut S.sub hx
  exact h.run (S.ext X) (by simpa using rs) fun s' S' X' => hQ s' S' (X.grow.trans X')
end
end Mine

-- Rules4
namespace Mine

structure Src (prog : Program) (w : World) (A : Around) (target : Expr) (I : Addr) (fp : List Addr) (n : Nat) (P : Nat → Value → Prop) (St : Nat → Heap → Prop) : Prop extends Walks prog w A I fp [I] n P St where
  own : ∀ i (s : Shared) (v : Value) (Q : Unit → Shared → Prop) (E : Value → Shared → Prop), St i s.heap → Q () s → wpAny (model prog w) A (letOwnedTupleGo target (.ref I) v) Q E s
  live : ∀ i h, St i h → ∃ o, h.get? I = some o

theorem own_plain {prog : Program} {w : World} {A : Around} {target : Expr} {I : Addr} {s : Shared} {v : Value} {Q : Unit → Shared → Prop} {E : Value → Shared → Prop} {o : Obj} {T : String}
    (ho : s.heap.get? I = some o) (hc : o.cls = .type T)
    (hT : (["enumerate", "zip", "dict_itemiterator", "dict_reverseitemiterator", "odict_iterator", "itertools.zip_longest", "itertools.pairwise"].contains T) = false)
    (h : Q () s) : wpAny (model prog w) A (letOwnedTupleGo target (.ref I) v) Q E s := by
  have key : wpAny (model prog w) A (do
      let (.ref r, .ref a) := ((.ref I : Value), v) | return
      let o ← load r
      match o.cls, o.data with
      | .type n, .fields vs =>
        if ["enumerate", "zip", "dict_itemiterator", "dict_reverseitemiterator", "odict_iterator", "itertools.zip_longest", "itertools.pairwise"].contains n && vs[0]? == some (rawInt a) then
          rule "for.unpacks-the-owned-tuple"
          updateField r 0 .none
      | _, _ => pure () : Sem Unit) Q E s := by
    cases v with
    | ref a =>
      refine wpAny_bind (wpAny_load ho ?_)
      rw [hc]
      cases o.data with
      | fields vs =>
        show wpAny _ _ (if (["enumerate", "zip", "dict_itemiterator", "dict_reverseitemiterator", "odict_iterator", "itertools.zip_longest", "itertools.pairwise"].contains T && vs[0]? == some (rawInt a)) = true then _ else _) _ _ _
        rw [hT]
        exact wpAny_pure h
      | _ => exact wpAny_pure h
    | _ => exact wpAny_pure h
  unfold letOwnedTupleGo
  split
  · exact key
  · exact key
  · exact wpAny_pure h

section
variable {prog : Program} {w : World} {hT : Heap} {n : Nat} {env : Env} {ρ : List (Str × D)} {σ : List (List D)}

theorem Src.list {A : Around} {target : Expr} (hh : A.handled = none) (I ax : Addr) (hne : ax ≠ I) (items : Array Value) :
    Src prog w A target I [I, ax] items.size (fun i v => items[i]? = some v) (fun i h => h.IsListIter I ax i ∧ h.IsList ax items) :=
  { Walks.list hh I ax hne items with
    own := fun i s v Q E st h => by
      obtain ⟨o, ho, hc, _⟩ := st.1
      exact own_plain ho hc (by decide) h
    live := fun i h st => let ⟨o, ho, _⟩ := st.1; ⟨o, ho⟩ }
theorem Src.tuple {A : Around} {target : Expr} (hh : A.handled = none) (I ax : Addr) (hne : ax ≠ I) (items : Array Value) :
    Src prog w A target I [I, ax] items.size (fun i v => items[i]? = some v) (fun i h => h.IsTupleIter I ax i ∧ h.IsTuple ax items) :=
  { Walks.tuple hh I ax hne items with
    own := fun i s v Q E st h => by
      obtain ⟨o, ho, hc, _⟩ := st.1
      exact own_plain ho hc (by decide) h
    live := fun i h st => let ⟨o, ho, _⟩ := st.1; ⟨o, ho⟩ }
theorem Src.range {A : Around} {target : Expr} (hh : A.handled = none) (I : Addr) (a c : Int) (n : Nat) :
    Src prog w A target I [I] n (fun i v => ∃ t, v = .int (a + i * c) t) (fun i h => IsRangeIter h I (a + (i : Nat) * c) ((n : Int) - (i : Nat)) c) :=
  { Walks.range hh I a c n with
    own := fun i s v Q E st h => own_plain st rfl (by decide) h
    live := fun i h st => ⟨_, st⟩ }

structure EvI (prog : Program) (w : World) (hT : Heap) (n : Nat) (env : Env) (ρ : List (Str × D)) (σ : List (List D)) (e target : Expr) (ds : List D) : Prop where of ::
  run : ∀ A, Rm A n → ∀ s μ fz, Sta hT env ρ σ μ fz s → ∀ (Q : Value → Shared → Prop) (E : Value → Shared → Prop),
    (∀ I fp P St fz' s', Ext s fz s' fz' → Src prog w A target I fp ds.length P St → St 0 s'.heap → (∀ i v d, P i v → ds[i]? = some d → Rep fz' μ d v) →
      s.heap.get? I = none → fz' I = none → (∃ o, s'.heap.get? I = some o) → (∀ b ∈ fp, b ≠ I → ∃ o, fz' b = some o) → Q (.ref I) s') →
    wpAny (model prog w) A (eval e env) (fun x s₁ => wpAny (model prog w) A (pyIter x) Q E s₁) E s

theorem not_there {h : Heap} : h.get? h.objs.size = none := by
  cases e : h.get? h.objs.size with
  | none => rfl
  | some o => exact absurd (Heap.lt_size e) (Nat.lt_irrefl _)
theorem fz_none {s : Shared} {fz : Fz} (hs : ∀ a o, fz a = some o → s.heap.get? a = some o) {a : Addr} (h : s.heap.get? a = none) : fz a = none := by
  cases e : fz a with
  | none => rfl
  | some o => rw [hs a o e] at h; cases h
theorem none_before {s s' : Shared} (k : Keeps s s') {a : Addr} (h : s'.heap.get? a = none) : s.heap.get? a = none := by
  cases e : s.heap.get? a with
  | none => rfl
  | some o => rw [keeps_get k _ _ e] at h; cases h

theorem EvI.list {e target l} (h : Ev prog w hT n env ρ σ e (.list l)) : EvI prog w hT n env ρ σ e target l := .of fun A hA s μ fz S Q E hQ =>
  h.run A hA s μ fz S _ _ fun v fz1 s1 X1 r1 => by
    obtain ⟨a, vs, rfl, q, rs⟩ := r1
    have il : s1.heap.IsList a vs.toArray := isList_of X1.sub q
    refine wpAny_pyIter_list il ?_
    have hne : a ≠ s1.heap.objs.size := by obtain ⟨o, ho, _⟩ := il; exact Nat.ne_of_lt (Heap.lt_size ho)
    have Y : Ext s1 fz1 { s1 with heap := s1.heap.push { cls := .type "list_iterator", data := .fields #[.ref a, .int 0 0] } } fz1 := .keep X1.sub (keeps_push _ _)
    have hlen : vs.toArray.size = l.length := by rw [List.size_toArray, rs.length]
    refine hQ _ _ _ _ fz1 _ (X1.trans Y) (hlen ▸ Src.list hA.handled s1.heap.objs.size a hne vs.toArray) ⟨⟨_, Heap.get?_push_size _ rfl, rfl, rfl⟩, il.push _⟩ (fun i v d hv hd => ?_)
      (none_before X1.keeps not_there) (fz_none X1.sub not_there) ⟨_, Heap.get?_push_size _ rfl⟩ (fun b hb hbI => ?_)
    · obtain ⟨v', hv', r⟩ := rs.get hd
      have : v = v' := by simpa [hv'] using hv.symm
      exact this ▸ r
    · simp at hb
      rcases hb with hb | hb
      · exact absurd hb hbI
      · subst hb; obtain ⟨n', e⟩ := q; exact ⟨_, e⟩

theorem EvI.tup {e target l} (h : Ev prog w hT n env ρ σ e (.tup l)) : EvI prog w hT n env ρ σ e target l := .of fun A hA s μ fz S Q E hQ =>
  h.run A hA s μ fz S _ _ fun v fz1 s1 X1 r1 => by
    obtain ⟨a, vs, rfl, q, rs⟩ := r1
    have il : s1.heap.IsTuple a vs.toArray := by obtain ⟨n', e⟩ := q; exact ⟨_, X1.sub _ _ e, rfl, n', rfl⟩
    refine wpAny_pyIter_tuple il ?_
    have hne : a ≠ s1.heap.objs.size := by obtain ⟨o, ho, _⟩ := il; exact Nat.ne_of_lt (Heap.lt_size ho)
    have Y : Ext s1 fz1 { s1 with heap := s1.heap.push { cls := .type "tuple_iterator", data := .fields #[.ref a, .int 0 0] } } fz1 := .keep X1.sub (keeps_push _ _)
    have hlen : vs.toArray.size = l.length := by rw [List.size_toArray, rs.length]
    refine hQ _ _ _ _ fz1 _ (X1.trans Y) (hlen ▸ Src.tuple hA.handled s1.heap.objs.size a hne vs.toArray) ⟨⟨_, Heap.get?_push_size _ rfl, rfl, rfl⟩, il.push _⟩ (fun i v d hv hd => ?_)
      (none_before X1.keeps not_there) (fz_none X1.sub not_there) ⟨_, Heap.get?_push_size _ rfl⟩ (fun b hb hbI => ?_)
    · obtain ⟨v', hv', r⟩ := rs.get hd
      have : v = v' := by simpa [hv'] using hv.symm
      exact this ▸ r
    · simp at hb
      rcases hb with hb | hb
      · exact absurd hb hbI
      · subst hb; obtain ⟨n', e⟩ := q; exact ⟨_, e⟩

inductive Fl where
  | next | brk | ret (d : D)
def FlRep (fz : Fz) (μ : List (Option Addr)) : Fl → Flow → Prop
  | .next, f => f = .next
  | .brk, f => f = .brk
  | .ret d, f => ∃ v, f = .ret v ∧ Rep fz μ d v

/-- the frame's own places -/
def WF (env : Env) (a : Addr) : Prop := a = env.locals ∨ ∃ x, env.cells.lookup x = some a
theorem Loc.wf {x a} (h : Loc env x a) : WF env a := h.elim (fun h => .inl h.2) fun h => .inr ⟨x, h⟩

abbrev PostT := Fl → List (Str × D) → List (List D) → Prop

structure Ex (prog : Program) (w : World) (hT : Heap) (n : Nat) (env : Env) (ρ : List (Str × D)) (σ : List (List D)) (c : List Stmt) (Post : PostT) : Prop where of ::
  run : ∀ A, Rm A n → ∀ s μ fz, Sta hT env ρ σ μ fz s → ∀ (Q : Flow → Shared → Prop) (E : Value → Shared → Prop),
    (∀ f fl ρ' σ' μ' fz' s', Post fl ρ' σ' → Sta hT env ρ' σ' μ' fz' s' → Step (WF env) s μ fz s' μ' fz' → FlRep fz' μ' fl f → Q f s') → wpAny (model prog w) A (execs c env) Q E s
structure Ex1 (prog : Program) (w : World) (hT : Heap) (n : Nat) (env : Env) (ρ : List (Str × D)) (σ : List (List D)) (c : Stmt) (Post : PostT) : Prop where of ::
  run : ∀ A, Rm A n → ∀ s μ fz, Sta hT env ρ σ μ fz s → ∀ (Q : Flow → Shared → Prop) (E : Value → Shared → Prop),
    (∀ f fl ρ' σ' μ' fz' s', Post fl ρ' σ' → Sta hT env ρ' σ' μ' fz' s' → Step (WF env) s μ fz s' μ' fz' → FlRep fz' μ' fl f → Q f s') → wpAny (model prog w) A (exec c env) Q E s

theorem Ex.mono {c} {P P' : PostT} (h : Ex prog w hT n env ρ σ c P) (hp : ∀ fl ρ' σ', P fl ρ' σ' → P' fl ρ' σ') : Ex prog w hT n env ρ σ c P' := .of
  fun A hA s μ fz S Q E hQ => h.run A hA s μ fz S Q E fun f fl ρ' σ' μ' fz' s' p => hQ f fl ρ' σ' μ' fz' s' (hp _ _ _ p)

theorem Ex.nil {Post : PostT} (h : Post .next ρ σ) : Ex prog w hT n env ρ σ [] Post := .of fun A hA s μ fz S Q E hQ =>
  wpAny_execs_nil (hQ _ .next ρ σ μ fz s h S .refl rfl)
def after (prog : Program) (w : World) (hT : Heap) (n : Nat) (env : Env) (rest : List Stmt) (Post : PostT) : PostT := fun fl ρ' σ' => match fl with
  | .next => Ex prog w hT n env ρ' σ' rest Post
  | fl => Post fl ρ' σ'
theorem Ex.cons {st rest} {Post : PostT} (h : Ex1 prog w hT n env ρ σ st (after prog w hT n env rest Post)) : Ex prog w hT n env ρ σ (st :: rest) Post := .of fun A hA s μ fz S Q E hQ =>
  wpAny_execs_cons (h.run A hA s μ fz S _ _ fun f fl ρ' σ' μ' fz' s' p S' X r => by
    cases fl with
    | next => cases r; exact p.run A hA s' μ' fz' S' _ _ fun f2 fl2 ρ2 σ2 μ2 fz2 s2 p2 S2 X2 r2 => hQ f2 fl2 ρ2 σ2 μ2 fz2 s2 p2 S2 (X.trans X2) r2
    | brk => cases r; exact hQ _ .brk ρ' σ' μ' fz' s' p S' X rfl
    | ret d => obtain ⟨v, rfl, r⟩ := r; exact hQ _ (.ret d) ρ' σ' μ' fz' s' p S' X ⟨v, rfl, r⟩)

/-- forget what is known of some names -/
theorem Sta.forget {ρ' μ fz s} (S : Sta hT env ρ σ μ fz s) (h : ∀ x d, ρ'.lookup x = some d → ρ.lookup x = some d) : Sta hT env ρ' σ μ fz s :=
  { S with vars := fun x d e => S.vars x d (h x d e) }
theorem Ex.forget {ρ' c} {Post : PostT} (h : ∀ x d, ρ'.lookup x = some d → ρ.lookup x = some d) (hx : Ex prog w hT n env ρ' σ c Post) : Ex prog w hT n env ρ σ c Post := .of
  fun A hA s μ fz S => hx.run A hA s μ fz (S.forget h)

theorem Ex1.ret {e pos d} {Post : PostT} (h : Ev prog w hT n env ρ σ e d) (hp : Post (.ret d) ρ σ) : Ex1 prog w hT n env ρ σ (.Return (some e) pos) Post := .of fun A hA s μ fz S Q E hQ =>
  wpAny_Return_some (h.run A hA s μ fz S _ _ fun v fz' s' X r => hQ _ (.ret d) ρ σ μ fz' s' hp (S.ext X) X.step ⟨v, rfl, r⟩)
theorem Ex1.brk {pos} {Post : PostT} (hp : Post .brk ρ σ) : Ex1 prog w hT n env ρ σ (.Break pos) Post := .of fun A hA s μ fz S Q E hQ =>
  wpAny_Break (hQ _ .brk ρ σ μ fz s hp S .refl rfl)
theorem Ex1.ite {t a b pos c} {Post : PostT} (ht : EvT prog w hT n env ρ σ t c) (h1 : c = true → Ex prog w hT n env ρ σ a Post) (h2 : c = false → Ex prog w hT n env ρ σ b Post) :
    Ex1 prog w hT n env ρ σ (.If t a b pos) Post := .of fun A hA s μ fz S Q E hQ =>
  wpAny_If (ht.run A hA s μ fz S _ _ fun fz' s' X => by
    cases c with
    | true => exact (h1 rfl).run A hA s' μ fz' (S.ext X) _ _ fun f fl ρ' σ' μ' fz2 s2 p S2 X2 r => hQ f fl ρ' σ' μ' fz2 s2 p S2 (X.step.trans X2) r
    | false => exact (h2 rfl).run A hA s' μ fz' (S.ext X) _ _ fun f fl ρ' σ' μ' fz2 s2 p S2 X2 r => hQ f fl ρ' σ' μ' fz2 s2 p S2 (X.step.trans X2) r)

theorem assign_one {M : Model} {A : Around} {s : Shared} {t value pos} {Q : Flow → Shared → Prop} {E : Value → Shared → Prop}
    (h : wpAny M A (eval value env) (fun v s₁ => wpAny M A (assign t env v) (fun _ s₂ => Q .next s₂) E s₁) E s)
    (hs : swapsWithSole [t] value pos.line env = pure false) (hw : swappedStores [t] value env = pure none)
    (ht : (assignEach [t] env).map (·.2) = [assign t env]) : wpAny M A (exec (.Assign [t] value pos) env) Q E s := by
  rw [arm_exec_Assign, hs, hw, ht]
  refine wpAny_bind (wpAny_standAt (wpAny_bind (wpAny_pure ?_)))
  show wpAny M A (eval value env >>= fun v => (pure none : Sem (Option (List Str))) >>= fun sw => assignStores env v sw [assign t env]) Q E s
  refine wpAny_bind (wpAny_mono h (fun v s₁ h₁ => wpAny_bind (wpAny_pure ?_)) fun _ _ x => x)
  show wpAny M A (assignAll v [assign t env] >>= fun _ => pure .next) Q E s₁
  exact wpAny_bind (wpAny_mono h₁ (fun _ s₂ h₂ => wpAny_pure h₂) fun _ _ x => x)

theorem Ex1.assign {t value pos d ρ' xs} {Post : PostT} (h : Ev prog w hT n env ρ σ value d) (ha : As prog w hT n env σ t d ρ ρ' xs) (hp : Post .next ρ' σ)
    (hs : swapsWithSole [t] value pos.line env = pure false := by rfl) (hw : swappedStores [t] value env = pure none := by rfl) (ht : (assignEach [t] env).map (·.2) = [assign t env] := by rfl) :
    Ex1 prog w hT n env ρ σ (.Assign [t] value pos) Post := .of fun A hA s μ fz S Q E hQ =>
  assign_one (h.run A hA s μ fz S _ _ fun v fz' s' X r => ha.run A hA s' μ fz' (S.ext X) v r _ _ fun s2 S2 X2 =>
    hQ _ .next ρ' σ μ fz' s2 hp S2 (X.step.trans (X2.step fun a ⟨x, _, h⟩ => .inl h.wf)) rfl) hs hw ht

end
end Mine

-- Rules5
namespace Mine

mutual
def D.pur : D → Bool
  | .cell _ => false
  | .tup l => D.purs l
  | .list l => D.purs l
  | _ => true
def D.purs : List D → Bool
  | [] => true
  | d :: ds => D.pur d && D.purs ds
end
mutual
theorem Rep.pur {fz : Fz} {μ ν : List (Option Addr)} : ∀ {d : D} {v : Value}, d.pur = true → Rep fz μ d v → Rep fz ν d v
  | .none, _, _, x => x
  | .bool _, _, _, x => x
  | .int _, _, _, x => x
  | .str _, _, _, x => x
  | .tup l, _, h, x => by
    obtain ⟨a, vs, e, q, r⟩ := x
    exact ⟨a, vs, e, q, Reps.pur h r⟩
  | .list l, _, h, x => by
    obtain ⟨a, vs, e, q, r⟩ := x
    exact ⟨a, vs, e, q, Reps.pur h r⟩
  | .cell k, _, h, x => by cases h
theorem Reps.pur {fz : Fz} {μ ν : List (Option Addr)} : ∀ {ds : List D} {vs : List Value}, D.purs ds = true → Reps fz μ ds vs → Reps fz ν ds vs
  | [], _, _, x => x
  | d :: ds, _, h, x => by
    obtain ⟨v, vs', e, q, r⟩ := x
    have h' := Bool.and_eq_true_iff.mp h
    exact ⟨v, vs', e, Rep.pur h'.1 q, Reps.pur h'.2 r⟩
end
theorem purs_iff : ∀ {l : List D}, D.purs l = true ↔ ∀ d ∈ l, d.pur = true
  | [] => by simp [D.purs]
  | d :: ds => by
    simp only [D.purs, Bool.and_eq_true, List.mem_cons, forall_eq_or_imp]
    exact and_congr_right fun _ => purs_iff

section
variable {prog : Program} {w : World} {hT : Heap} {n : Nat} {env : Env} {ρ : List (Str × D)} {σ : List (List D)}

theorem Sta.keepBut {μ fz s h' tk I} (S : Sta hT env ρ σ μ fz s) (hk : ∀ b o, b ≠ I → s.heap.get? b = some o → h'.get? b = some o) (hf : fz I = none) (hL : env.locals ≠ I)
    (hm : ∀ k : Nat, μ[k]? ≠ some (some I)) (hc : ∀ x c, env.cells.lookup x = some c → c ≠ I) : Sta hT env ρ σ μ fz { s with heap := h', toks := tk } where
  sub := fun b o e => hk b o (by rintro rfl; rw [hf] at e; cases e) (S.sub b o e)
  top := S.top
  isFn := S.isFn
  ns := let ⟨m, h⟩ := S.ns; ⟨m, h.at' fun o e => hk _ o hL e⟩
  vars := fun x d e => by
    obtain ⟨v, L, r⟩ := S.vars x d e
    refine ⟨v, ?_, r⟩
    rcases L with ⟨h1, m, h2, h3⟩ | ⟨h1, c, h2, o, h3, h4⟩
    · exact .inl ⟨h1, m, h2.at' fun o e => hk _ o hL e, h3⟩
    · exact .inr ⟨h1, c, h2, o, hk c o (hc x c h2) h3, h4⟩
  len := S.len
  lists := fun k a l e e' => by
    obtain ⟨vs, ⟨n', q⟩, r⟩ := S.lists k a l e e'
    exact ⟨vs, ⟨n', hk a _ (by rintro rfl; exact hm k e) q⟩, r⟩
  sepL := S.sepL
  sepM := S.sepM
  nodup := S.nodup
  sepC := fun x c e => by
    obtain ⟨⟨v, o, h1, h2⟩, h3⟩ := S.sepC x c e
    exact ⟨⟨v, o, hk c o (hc x c e) h1, h2⟩, h3⟩
  injC := S.injC

theorem Step.skip {W : Addr → Prop} {s μ fz s' μ' fz' h' tk I} (X : Step W s μ fz s' μ' fz') (hk : ∀ b o, b ≠ I → s'.heap.get? b = some o → h'.get? b = some o) (hI : s.heap.get? I = none) :
    Step W s μ fz { s' with heap := h', toks := tk } μ' fz' where
  same := by obtain ⟨h, t, rfl⟩ := X.same; exact ⟨h', tk, rfl⟩
  pres := fun a o hw hm e => hk a o (by rintro rfl; rw [hI] at e; cases e) (X.pres a o hw hm e)
  alive := fun a o e => let ⟨o', e'⟩ := X.alive a o e; ⟨o', hk a o' (by rintro rfl; rw [hI] at e; cases e) e'⟩
  up := X.up
  fresh := X.fresh
  mu := X.mu

/-- what stays true of an address that is none of the frame's -/
structure Off (env : Env) (μ : List (Option Addr)) (fz : Fz) (s : Shared) (I : Addr) : Prop where
  fz : fz I = none
  loc : env.locals ≠ I
  mu : ∀ k : Nat, μ[k]? ≠ some (some I)
  cell : ∀ x c, env.cells.lookup x = some c → c ≠ I
  live : ∃ o, s.heap.get? I = some o
theorem Off.not_wf {μ fz s I} (h : Off env μ fz s I) : ¬ WF env I := by
  rintro (h' | ⟨x, h'⟩)
  · exact h.loc h'.symm
  · exact h.cell x I h' rfl
theorem Off.step {μ fz s I s' μ' fz'} (h : Off env μ fz s I) (X : Step (WF env) s μ fz s' μ' fz') : Off env μ' fz' s' I where
  fz := by
    cases e : fz' I with
    | none => rfl
    | some o =>
      rcases X.fresh I o e with h' | h' | ⟨k, h'⟩
      · rw [h.fz] at h'; cases h'
      · obtain ⟨o', e'⟩ := h.live; rw [h'] at e'; cases e'
      · exact absurd h' (h.mu k)
  loc := h.loc
  mu := fun k e => by
    rcases X.mu k I e with h' | h'
    · exact h.mu k h'
    · obtain ⟨o', e'⟩ := h.live; rw [h'] at e'; cases e'
  cell := h.cell
  live := let ⟨o, e⟩ := h.live; X.alive I o e
theorem Off.same {μ fz s I s' μ' fz'} (h : Off env μ fz s I) (X : Step (WF env) s μ fz s' μ' fz') : ∀ o, s.heap.get? I = some o → s'.heap.get? I = some o :=
  fun o e => X.pres I o h.not_wf h.mu e
/-- a new address is off -/
theorem Off.of_new {μ fz s fz' s' I} (S : Sta hT env ρ σ μ fz s) (hI : s.heap.get? I = none) (hf : fz' I = none) (hl : ∃ o, s'.heap.get? I = some o) : Off env μ fz' s' I where
  fz := hf
  loc := by
    rintro rfl
    obtain ⟨m, o, _, _, ho, _⟩ := S.ns
    rw [hI] at ho; cases ho
  mu := fun k e => by
    have hlt := (List.getElem?_eq_some_iff.mp e).1
    rw [S.len] at hlt
    obtain ⟨vs, ⟨n', q⟩, _⟩ := S.lists k I _ e (List.getElem?_eq_getElem hlt)
    rw [hI] at q; cases q
  cell := fun x c e => by
    rintro rfl
    obtain ⟨⟨v, o, h1, _⟩, _⟩ := S.sepC x c e
    rw [hI] at h1; cases h1
  live := hl

theorem Ex1.for_ {target iter body orelse pos ds} {Post : PostT} (Inv : Nat → List (Str × D) → List (List D) → Prop) (hi : EvI prog w hT n env ρ σ iter target ds) (hpur : D.purs ds = true)
    (h0 : Inv 0 ρ σ)
    (hstep : ∀ i d ρ₁ σ₁, ds[i]? = some d → Inv i ρ₁ σ₁ → ∃ ρ₂ xs, As prog w hT n env σ₁ target d ρ₁ ρ₂ xs ∧ Ex prog w hT n env ρ₂ σ₁ body (fun fl ρ' σ' => match fl with
      | .next => Inv (i + 1) ρ' σ'
      | .brk => Post .next ρ' σ'
      | .ret v => Post (.ret v) ρ' σ'))
    (hend : ∀ ρ₁ σ₁, Inv ds.length ρ₁ σ₁ → Ex prog w hT n env ρ₁ σ₁ orelse Post)
    (hs : ∀ x, foldedSetIterable iter env x = pure x := by intro _; rfl) : Ex1 prog w hT n env ρ σ (.For target iter body orelse pos) Post := .of fun A hA s μ fz S Q E hQ => by
  refine wpAny_For (hi.run A hA s μ fz S _ _ fun I fp P St fz0 s0 X0 W hst hrep hnew hf hlive hfp => ?_) hs
  refine codeAny_forLoop_any (fun k s' => ∃ i ρ₁ σ₁ μ₁ fz₁, k = ds.length + 1 - i ∧ i ≤ ds.length ∧ Inv i ρ₁ σ₁ ∧ Sta hT env ρ₁ σ₁ μ₁ fz₁ s' ∧ Step (WF env) s μ fz s' μ₁ fz₁ ∧ (∀ a o, fz0 a = some o → fz₁ a = some o) ∧
    St i s'.heap ∧ Off env μ₁ fz₁ s' I) ?_ (ds.length + 1) ⟨0, ρ, σ, μ, fz0, rfl, Nat.zero_le _, h0, S.ext X0, X0.step, fun _ _ e => e, hst, Off.of_new S hnew hf hlive⟩
  rintro k s' ⟨i, ρ₁, σ₁, μ₁, fz₁, rfl, hile, hinv, S1, X1, hup, hst1, hoff⟩
  by_cases hlt : i < ds.length
  · refine W.item i s' _ _ hlt hst1 fun v h' tk hP hst' hk => ?_
    have hk' : ∀ b o, b ≠ I → s'.heap.get? b = some o → h'.get? b = some o := fun b o hb e => hk b o (by simpa using hb) e
    have S2 : Sta hT env ρ₁ σ₁ μ₁ fz₁ { s' with heap := h', toks := tk } := S1.keepBut hk' hoff.fz hoff.loc hoff.mu hoff.cell
    have X2 : Step (WF env) s μ fz { s' with heap := h', toks := tk } μ₁ fz₁ := X1.skip hk' hnew
    have hoff2 : Off env μ₁ fz₁ { s' with heap := h', toks := tk } I := ⟨hoff.fz, hoff.loc, hoff.mu, hoff.cell, W.live _ _ hst'⟩
    have hd : ds[i]? = some ds[i] := List.getElem?_eq_getElem hlt
    obtain ⟨ρ₂, xs, hA', hbody⟩ := hstep i ds[i] ρ₁ σ₁ hd hinv
    have hdp : (ds[i]).pur = true := purs_iff.mp hpur _ (List.getElem_mem hlt)
    have r : Rep fz₁ μ₁ ds[i] v := ((hrep i v ds[i] hP hd).mono0 hup).pur hdp
    refine W.own (i + 1) _ v _ _ hst' ?_
    refine hA'.run A hA _ μ₁ fz₁ S2 v r _ _ fun s3 S3 X3 => ?_
    have X3' := X3.step (W' := WF env) fun a ⟨x, _, h⟩ => .inl h.wf
    refine hbody.run A hA s3 μ₁ fz₁ S3 _ _ fun f fl ρ' σ' μ' fz' s4 p S4 X4 rf => ?_
    have X5 := X2.trans (X3'.trans X4)
    cases fl with
    | next =>
      cases rf
      refine ⟨ds.length + 1 - (i + 1), by omega, i + 1, ρ', σ', μ', fz', rfl, hlt, p, S4, X5, fun a o e => (X3'.trans X4).up a o (hup a o e), ?_, hoff2.step (X3'.trans X4)⟩
      refine W.frame _ _ _ hst' fun b hb o e => ?_
      by_cases hbI : b = I
      · subst hbI; exact hoff2.same (X3'.trans X4) o e
      · obtain ⟨o', ho'⟩ := hfp b hb hbI
        have e1 := S2.sub b o' (hup b o' ho')
        have e2 : o = o' := by have : some o = some o' := e.symm.trans e1; injection this
        rw [e2]
        exact S4.sub b o' ((X3'.trans X4).up b o' (hup b o' ho'))
    | brk => cases rf; exact hQ _ .next ρ' σ' μ' fz' s4 p S4 X5 rfl
    | ret d => obtain ⟨v', rfl, rv⟩ := rf; exact hQ _ (.ret d) ρ' σ' μ' fz' s4 p S4 X5 ⟨v', rfl, rv⟩
  · have hi' : i = ds.length := by omega
    subst hi'
    refine W.done s' _ _ hst1 fun h' tk hk => ?_
    have hk' : ∀ b o, b ≠ I → s'.heap.get? b = some o → h'.get? b = some o := fun b o hb e => hk b o (by simpa using hb) e
    have S2 : Sta hT env ρ₁ σ₁ μ₁ fz₁ { s' with heap := h', toks := tk } := S1.keepBut hk' hoff.fz hoff.loc hoff.mu hoff.cell
    have X2 : Step (WF env) s μ fz { s' with heap := h', toks := tk } μ₁ fz₁ := X1.skip hk' hnew
    exact (hend ρ₁ σ₁ hinv).run A hA _ μ₁ fz₁ S2 _ _ fun f fl ρ' σ' μ' fz' s4 p S4 X4 rf => hQ f fl ρ' σ' μ' fz' s4 p S4 (X2.trans X4) rf
end
end Mine

-- Rules6
namespace Mine

mutual
def D.sub (k : Nat) (l : List D) : D → D
  | .cell j => if j = k then .list l else .cell j
  | .tup ds => .tup (D.subs k l ds)
  | .list ds => .list (D.subs k l ds)
  | d => d
def D.subs (k : Nat) (l : List D) : List D → List D
  | [] => []
  | d :: ds => D.sub k l d :: D.subs k l ds
end
mutual
theorem sub_pur {k : Nat} {l : List D} : ∀ {d : D}, d.pur = true → d.sub k l = d
  | .none, _ => rfl
  | .bool _, _ => rfl
  | .int _, _ => rfl
  | .str _, _ => rfl
  | .tup ds, h => by show D.tup (D.subs k l ds) = _; rw [subs_pur h]
  | .list ds, h => by show D.list (D.subs k l ds) = _; rw [subs_pur h]
  | .cell _, h => by cases h
theorem subs_pur {k : Nat} {l : List D} : ∀ {ds : List D}, D.purs ds = true → D.subs k l ds = ds
  | [], _ => rfl
  | d :: ds, h => by
    have h' := Bool.and_eq_true_iff.mp h
    show D.sub k l d :: D.subs k l ds = _
    rw [sub_pur h'.1, subs_pur h'.2]
end
mutual
theorem Rep.sub {fz fz' : Fz} {μ μ' : List (Option Addr)} {k : Nat} {l : List D} {a : Addr} {vs : List Value} (h : ∀ a o, fz a = some o → fz' a = some o) (hk : μ[k]? = some (some a))
    (hμ : ∀ j : Nat, j ≠ k → ∀ b : Addr, μ[j]? = some (some b) → μ'[j]? = some (some b)) (q : SeqAt fz' "list" a vs) (r : Reps fz' μ' l vs) : ∀ {d : D} {v : Value}, Rep fz μ d v → Rep fz' μ' (d.sub k l) v
  | .none, _, x => x
  | .bool _, _, x => x
  | .int _, _, x => x
  | .str _, _, x => x
  | .tup ds, _, x => by
    obtain ⟨b, ws, e, q', r'⟩ := x
    exact ⟨b, ws, e, q'.mono h, Reps.sub h hk hμ q r r'⟩
  | .list ds, _, x => by
    obtain ⟨b, ws, e, q', r'⟩ := x
    exact ⟨b, ws, e, q'.mono h, Reps.sub h hk hμ q r r'⟩
  | .cell j, _, x => by
    obtain ⟨b, e, hb⟩ := x
    show Rep fz' μ' (if j = k then .list l else .cell j) _
    by_cases hj : j = k
    · subst hj
      rw [if_pos rfl]
      have : a = b := by rw [hk] at hb; injection hb with hb; injection hb
      subst this
      exact ⟨a, vs, e, q, r⟩
    · rw [if_neg hj]
      exact ⟨b, e, hμ j hj b hb⟩
theorem Reps.sub {fz fz' : Fz} {μ μ' : List (Option Addr)} {k : Nat} {l : List D} {a : Addr} {vs : List Value} (h : ∀ a o, fz a = some o → fz' a = some o) (hk : μ[k]? = some (some a))
    (hμ : ∀ j : Nat, j ≠ k → ∀ b : Addr, μ[j]? = some (some b) → μ'[j]? = some (some b)) (q : SeqAt fz' "list" a vs) (r : Reps fz' μ' l vs) : ∀ {ds : List D} {ws : List Value}, Reps fz μ ds ws → Reps fz' μ' (D.subs k l ds) ws
  | [], _, x => x
  | d :: ds, _, x => by
    obtain ⟨v, ws', e, q', r'⟩ := x
    exact ⟨v, ws', e, Rep.sub h hk hμ q r q', Reps.sub h hk hμ q r r'⟩
end

mutual
def D.has (k : Nat) : D → Bool
  | .cell j => j == k
  | .tup ds => D.hass k ds
  | .list ds => D.hass k ds
  | _ => false
def D.hass (k : Nat) : List D → Bool
  | [] => false
  | d :: ds => D.has k d || D.hass k ds
end
mutual
theorem Rep.live {fz : Fz} {μ : List (Option Addr)} {k : Nat} : ∀ {d : D} {v : Value}, d.has k = true → Rep fz μ d v → ∃ a, μ[k]? = some (some a)
  | .none, _, h, _ => by cases h
  | .bool _, _, h, _ => by cases h
  | .int _, _, h, _ => by cases h
  | .str _, _, h, _ => by cases h
  | .tup ds, _, h, x => by
    obtain ⟨b, ws, e, q', r'⟩ := x
    exact Reps.live h r'
  | .list ds, _, h, x => by
    obtain ⟨b, ws, e, q', r'⟩ := x
    exact Reps.live h r'
  | .cell j, _, h, x => by
    obtain ⟨b, e, hb⟩ := x
    have : j = k := beq_iff_eq.mp h
    subst this; exact ⟨b, hb⟩
theorem Reps.live {fz : Fz} {μ : List (Option Addr)} {k : Nat} : ∀ {ds : List D} {ws : List Value}, D.hass k ds = true → Reps fz μ ds ws → ∃ a, μ[k]? = some (some a)
  | [], _, h, _ => by cases h
  | d :: ds, _, h, x => by
    obtain ⟨v, ws', e, q', r'⟩ := x
    rcases Bool.or_eq_true_iff.mp h with h | h
    · exact Rep.live h q'
    · exact Reps.live h r'
end

section
variable {prog : Program} {w : World} {hT : Heap} {n : Nat} {env : Env} {ρ : List (Str × D)} {σ : List (List D)}

theorem Sta.addCell {μ fz s a vs l} (S : Sta hT env ρ σ μ fz s) (off : Off env μ fz s a) (q : SeqAt s.heap.get? "list" a vs) (r : Reps fz μ l vs) : Sta hT env ρ (σ ++ [l]) (μ ++ [some a]) fz s where
  sub := S.sub
  top := S.top
  isFn := S.isFn
  ns := S.ns
  vars := fun x d e => let ⟨v, L, r⟩ := S.vars x d e; ⟨v, L, r.mono fun _ _ e => e⟩
  len := by simp [S.len]
  lists := fun k b l' e e' => by
    by_cases hk : k < μ.length
    · rw [List.getElem?_append_left hk] at e
      rw [List.getElem?_append_left (by rw [← S.len]; exact hk)] at e'
      obtain ⟨vs', q', r'⟩ := S.lists k b l' e e'
      exact ⟨vs', q', r'.mono fun _ _ e => e⟩
    · have hk2 : k = μ.length := by
        have := (List.getElem?_eq_some_iff.mp e).1
        simp at this; omega
      subst hk2
      rw [List.getElem?_append_right (Nat.le_refl _)] at e
      rw [S.len, List.getElem?_append_right (Nat.le_refl _)] at e'
      simp at e e'
      subst e e'
      exact ⟨vs, q, r.mono fun _ _ e => e⟩
  sepL := S.sepL
  sepM := fun k b e => by
    by_cases hk : k < μ.length
    · rw [List.getElem?_append_left hk] at e
      exact S.sepM k b e
    · have hk2 : k = μ.length := by
        have := (List.getElem?_eq_some_iff.mp e).1
        simp at this; omega
      subst hk2
      rw [List.getElem?_append_right (Nat.le_refl _)] at e
      simp at e
      subst e
      exact ⟨off.fz, Ne.symm off.loc⟩
  nodup := fun k j b e e' => by
    have key : ∀ k : Nat, (μ ++ [some a])[k]? = some (some b) → (k < μ.length ∧ μ[k]? = some (some b)) ∨ (k = μ.length ∧ b = a) := fun k e => by
      by_cases hk : k < μ.length
      · rw [List.getElem?_append_left hk] at e; exact .inl ⟨hk, e⟩
      · have hk2 : k = μ.length := by
          have := (List.getElem?_eq_some_iff.mp e).1
          simp at this; omega
        subst hk2
        rw [List.getElem?_append_right (Nat.le_refl _)] at e
        simp at e
        exact .inr ⟨rfl, e.symm⟩
    rcases key k e with ⟨h1, h2⟩ | ⟨h1, h2⟩ <;> rcases key j e' with ⟨h3, h4⟩ | ⟨h3, h4⟩
    · exact S.nodup k j b h2 h4
    · subst h4; exact absurd h2 (off.mu k)
    · subst h2; exact absurd h4 (off.mu j)
    · omega
  sepC := fun x c e => by
    obtain ⟨h1, h2, h3, h4⟩ := S.sepC x c e
    refine ⟨h1, h2, h3, fun k e' => ?_⟩
    by_cases hk : k < μ.length
    · rw [List.getElem?_append_left hk] at e'; exact h4 k e'
    · have hk2 : k = μ.length := by
        have := (List.getElem?_eq_some_iff.mp e').1
        simp at this; omega
      subst hk2
      rw [List.getElem?_append_right (Nat.le_refl _)] at e'
      simp at e'
      exact off.cell x c e e'.symm
  injC := S.injC

theorem addCell_step {W : Addr → Prop} {s μ fz s' fz' a} (X : Ext s fz s' fz') (hn : s.heap.get? a = none) : Step W s μ fz s' (μ ++ [some a]) fz' :=
  { X.step (μ := μ) (W := W) with
    mu := fun k b e => by
      by_cases hk : k < μ.length
      · rw [List.getElem?_append_left hk] at e; exact .inl e
      · have hk2 : k = μ.length := by
          have := (List.getElem?_eq_some_iff.mp e).1
          simp at this; omega
        subst hk2
        rw [List.getElem?_append_right (Nat.le_refl _)] at e
        simp at e
        subst e; exact .inr hn }

/-- the list number k is one longer -/
def app (σ : List (List D)) (k : Nat) (d : D) : List (List D) := σ.modify k (· ++ [d])

theorem Sta.append {μ fz s a k l d v h' tk} (S : Sta hT env ρ σ μ fz s) (hk : μ[k]? = some (some a)) (hl : σ[k]? = some l) {vs : List Value} (rl : Reps fz μ l vs) (r : Rep fz μ d v)
    (q : SeqAt h'.get? "list" a (vs ++ [v])) (hs : Heap.SameBut a s.heap h') : Sta hT env ρ (app σ k d) μ fz { s with heap := h', toks := tk } where
  sub := fun b o e => (hs.2 b (by rintro rfl; rw [(S.sepM k _ hk).1] at e; cases e)).trans (S.sub b o e)
  top := S.top
  isFn := S.isFn
  ns := let ⟨m, h⟩ := S.ns; ⟨m, h.sameBut hs (Ne.symm (S.sepM k a hk).2)⟩
  vars := fun x d' e => by
    obtain ⟨v', L, r'⟩ := S.vars x d' e
    refine ⟨v', ?_, r'⟩
    rcases L with ⟨h1, m, h2, h3⟩ | ⟨h1, c, h2, h3⟩
    · exact .inl ⟨h1, m, h2.sameBut hs (Ne.symm (S.sepM k a hk).2), h3⟩
    · exact .inr ⟨h1, c, h2, h3.sameBut hs (by rintro rfl; exact (S.sepC x c h2).2.2.2 k hk)⟩
  len := by simp [app, S.len]
  lists := fun j b l' e e' => by
    by_cases hj : j = k
    · subst hj
      have hb : b = a := by rw [hk] at e; injection e with e; injection e with e; exact e.symm
      subst hb
      have : l' = l ++ [d] := by simpa [app, List.getElem?_modify, hl] using e'.symm
      subst this
      exact ⟨_, q, rl.append (.one r)⟩
    · have e2 : σ[j]? = some l' := by simpa [app, List.getElem?_modify, Ne.symm hj] using e'
      obtain ⟨vs', ⟨n', q'⟩, r'⟩ := S.lists j b l' e e2
      exact ⟨vs', ⟨n', (hs.2 b (by rintro rfl; exact hj (S.nodup j k b e hk))).trans q'⟩, r'⟩
  sepL := S.sepL
  sepM := S.sepM
  nodup := S.nodup
  sepC := fun x c e => by
    obtain ⟨⟨v', h1⟩, h2, h3, h4⟩ := S.sepC x c e
    exact ⟨⟨v', h1.sameBut hs (by rintro rfl; exact h4 k hk)⟩, h2, h3, h4⟩
  injC := S.injC

theorem append_step {W : Addr → Prop} {s : Shared} {μ fz h' tk a} {k : Nat} (hk : μ[k]? = some (some a)) (hs : Heap.SameBut a s.heap h') (hl : ∃ o, h'.get? a = some o) : Step W s μ fz { s with heap := h', toks := tk } μ fz where
  same := ⟨h', tk, rfl⟩
  pres := fun b o _ hm e => (hs.2 b (by rintro rfl; exact hm k hk)).trans e
  alive := fun b o e => by
    by_cases hb : b = a
    · subst hb; exact hl
    · exact ⟨o, (hs.2 b hb).trans e⟩
  up := fun _ _ e => e
  fresh := fun _ _ e => .inl e
  mu := fun _ _ e => .inl e

theorem append_run {A : Around} {μ fz s a k l d v} (S : Sta hT env ρ σ μ fz s) (hk : μ[k]? = some (some a)) (hl : σ[k]? = some l) (r : Rep fz μ d v) (hsz : l.length ≤ sizeLine) {Q : Value → Shared → Prop} {E : Value → Shared → Prop}
    (hQ : ∀ s', Sta hT env ρ (app σ k d) μ fz s' → (∀ W, Step W s μ fz s' μ fz) → Q .none s') : wpAny (model prog w) A (call (.builtin "list.append") [.ref a, v]) Q E s := by
  obtain ⟨vs, ⟨n', q⟩, rl⟩ := S.lists k a l hk hl
  refine wpAny_list_append_plain (items := vs.toArray) ⟨n', q⟩ (fun h' hp hs => ?_) (by rw [List.size_toArray, rl.length]; exact hsz)
  obtain ⟨n2, q2⟩ := hp
  have q3 : SeqAt h'.get? "list" a (vs ++ [v]) := ⟨n2, by rw [q2]; simp⟩
  exact hQ _ (S.append hk hl rl r q3 hs) fun W => append_step hk hs ⟨_, q2⟩

theorem Ex1.newcell {x p q pos} {Post : PostT} (hk : storable env x) (hp : Post .next (upd ρ x (.cell σ.length)) (σ ++ [[]])) : Ex1 prog w hT n env ρ σ (.Assign [.Name x p] (.List [] q) pos) Post := .of fun A hA s μ fz S Q E hQ => by
  refine assign_one (t := .Name x p) (List_ (wpAny_items_nil ?_)) (by rfl) (by rfl) (by rfl)
  have Y : Ext s fz { s with heap := s.heap.push { cls := .type "list", data := .seq ([] : List Value).toArray } } fz := .keep S.sub (keeps_push _ _)
  have hn : s.heap.get? s.heap.objs.size = none := not_there
  refine wpAny_newObj_type ?_ (by size_fits)
  have S1 := (S.ext Y).addCell (l := []) (vs := []) (Off.of_new S hn (fz_none S.sub hn) ⟨_, Heap.get?_push_size _ rfl⟩) ⟨0, Heap.get?_push_size _ rfl⟩ rfl
  refine wpAny_assign_Name (S1.store (d := .cell σ.length) ⟨_, rfl, by rw [← S.len]; simp⟩ hk fun s' S' X' => ?_)
  exact hQ _ .next _ _ _ _ s' hp S' ((addCell_step Y hn).trans (X'.step fun a h => .inl h.wf)) rfl

theorem Ex1.append {o apos arg pos pos' k l d} {Post : PostT} (ho : Ev prog w hT n env ρ σ o (.cell k)) (ha : Ev prog w hT n env ρ σ arg d) (hl : σ[k]? = some l) (hsz : l.length ≤ sizeLine) (hp : Post .next ρ (app σ k d))
    (hbase : attributeBase o (Str.ofString "append") env (eval o env) = eval o env := by rfl)
    (hns : starEach [arg] env = [(false, eval arg env)] := by exact starEach_plain rfl) (hline : (apos.endLine == pos.line) = true := by rfl) (hi : interactive env = false := by rfl)
    (hs : swapsWith (.Call (.Attribute o (Str.ofString "append") apos) [arg] [] pos) none pos'.line env = pure false := by rfl) :
    Ex1 prog w hT n env ρ σ (.Expr (.Call (.Attribute o (Str.ofString "append") apos) [arg] [] pos) pos') Post := .of fun A hA s μ fz S Q E hQ => by
  refine wpAny_Expr ?_ hi hs
  refine wpAny_Call_method hbase (by rw [hns]; rfl) hline F.plainAttrs_list slot_list_append type_list_append (ho.run A hA s μ fz S _ _ fun v fz1 s1 X1 r1 => ?_)
  obtain ⟨a, rfl, hk⟩ := r1
  have S1 := S.ext X1
  obtain ⟨vs, ⟨n', q⟩, rl⟩ := S1.lists k a l hk hl
  refine ⟨⟨_, q, rfl⟩, fun b hb => by cases hb; exact ⟨_, q, rfl⟩, ?_⟩
  rw [hns]
  refine Calls.callWith_builtin rfl (Calls.evalArgs_plain (Calls.spliced_cons (ha.run A hA s1 μ fz1 S1 _ _ fun v2 fz2 s2 X2 r2 => Calls.spliced_nil ?_)))
  refine append_run (S1.ext X2) hk hl r2 hsz fun s3 S3 X3 => ?_
  exact hQ _ .next ρ _ μ fz2 s3 hp S3 ((X1.trans X2).step.trans (X3 _)) rfl

/-- a list that is not turned any more -/
theorem Sta.freeze {μ fz s k l ρ' σ'} (S : Sta hT env ρ σ μ fz s) (hl : σ[k]? = some l) (hpl : D.purs l = true) (hlive : ∃ a, μ[k]? = some (some a))
    (hρ : ∀ x d', ρ'.lookup x = some d' → ∃ d, ρ.lookup x = some d ∧ d' = d.sub k l) (hlen : σ'.length = σ.length)
    (hσ : ∀ (j : Nat) (l' : List D), j ≠ k → σ'[j]? = some l' → ∃ l'', σ[j]? = some l'' ∧ l' = D.subs k l l'') :
    ∃ fz', Sta hT env ρ' σ' (μ.set k none) fz' s ∧ ∀ W, Step W s μ fz s (μ.set k none) fz' := by
  obtain ⟨a, hk⟩ := hlive
  obtain ⟨vs, ⟨n', q⟩, rl⟩ := S.lists k a l hk hl
  let fz' : Fz := fun b => if b = a then s.heap.get? a else fz b
  have up : ∀ b o, fz b = some o → fz' b = some o := fun b o e => by
    show (if b = a then _ else _) = _
    by_cases hb : b = a
    · subst hb; rw [(S.sepM k b hk).1] at e; cases e
    · rw [if_neg hb]; exact e
  have hset : ∀ (j : Nat) (b : Addr), (μ.set k none)[j]? = some (some b) → j ≠ k ∧ μ[j]? = some (some b) := fun j b e => by
    by_cases hj : j = k
    · subst hj
      have hlt := (List.getElem?_eq_some_iff.mp hk).1
      rw [List.getElem?_set_self hlt] at e; cases e
    · rw [List.getElem?_set_ne (Ne.symm hj)] at e; exact ⟨hj, e⟩
  have hμ : ∀ j : Nat, j ≠ k → ∀ b : Addr, μ[j]? = some (some b) → (μ.set k none)[j]? = some (some b) := fun j hj b e => by rw [List.getElem?_set_ne (Ne.symm hj)]; exact e
  have qf : SeqAt fz' "list" a vs := ⟨n', by show (if a = a then _ else _) = _; rw [if_pos rfl]; exact q⟩
  have rf : Reps fz' (μ.set k none) l vs := (rl.mono0 up).pur hpl
  refine ⟨fz', ?_, fun W => ?_⟩
  · exact {
      sub := fun b o e => by
        by_cases hb : b = a
        · subst hb
          have : (if b = b then s.heap.get? b else fz b) = some o := e
          rw [if_pos rfl] at this; exact this
        · have : (if b = a then s.heap.get? a else fz b) = some o := e
          rw [if_neg hb] at this; exact S.sub b o this
      top := fun b o e => up b o (S.top b o e)
      isFn := S.isFn
      ns := S.ns
      vars := fun x d' e => by
        obtain ⟨d, e1, rfl⟩ := hρ x d' e
        obtain ⟨v, L, r⟩ := S.vars x d e1
        exact ⟨v, L, Rep.sub up hk hμ qf rf r⟩
      len := by rw [List.length_set, hlen]; exact S.len
      lists := fun j b l' e e' => by
        obtain ⟨hj, e1⟩ := hset j b e
        obtain ⟨l'', e2, rfl⟩ := hσ j l' hj e'
        obtain ⟨ws, q', r'⟩ := S.lists j b l'' e1 e2
        exact ⟨ws, q', Reps.sub up hk hμ qf rf r'⟩
      sepL := by
        show (if env.locals = a then _ else _) = _
        rw [if_neg (Ne.symm (S.sepM k a hk).2)]; exact S.sepL
      sepM := fun j b e => by
        obtain ⟨hj, e1⟩ := hset j b e
        refine ⟨?_, (S.sepM j b e1).2⟩
        show (if b = a then _ else _) = _
        rw [if_neg (by rintro rfl; exact hj (S.nodup j k b e1 hk))]; exact (S.sepM j b e1).1
      nodup := fun i j b e e' => S.nodup i j b (hset i b e).2 (hset j b e').2
      sepC := fun x c e => by
        obtain ⟨h1, h2, h3, h4⟩ := S.sepC x c e
        refine ⟨h1, ?_, h3, fun j e' => h4 j (hset j c e').2⟩
        show (if c = a then _ else _) = _
        rw [if_neg (by rintro rfl; exact h4 k hk)]; exact h2
      injC := S.injC }
  · exact {
      same := ⟨s.heap, s.toks, rfl⟩
      pres := fun _ _ _ _ e => e
      alive := fun b o e => ⟨o, e⟩
      up := up
      fresh := fun b o e => by
        by_cases hb : b = a
        · subst hb; exact .inr (.inr ⟨k, hk⟩)
        · have : (if b = a then s.heap.get? a else fz b) = some o := e
          rw [if_neg hb] at this; exact .inl this
      mu := fun j b e => .inl (hset j b e).2 }

theorem Ex.freeze {c k l ρ' σ' x d} {Post : PostT} (hx : ρ.lookup x = some d) (hd : d.has k = true) (hl : σ[k]? = some l) (hpl : D.purs l = true)
    (hρ : ∀ x d', ρ'.lookup x = some d' → ∃ d, ρ.lookup x = some d ∧ d' = d.sub k l) (hlen : σ'.length = σ.length)
    (hσ : ∀ (j : Nat) (l' : List D), j ≠ k → σ'[j]? = some l' → ∃ l'', σ[j]? = some l'' ∧ l' = D.subs k l l'')
    (h : Ex prog w hT n env ρ' σ' c Post) : Ex prog w hT n env ρ σ c Post := .of fun A hA s μ fz S Q E hQ => by
  obtain ⟨v, _, r⟩ := S.vars x d hx
  obtain ⟨fz', S', X'⟩ := S.freeze hl hpl (r.live hd) hρ hlen hσ
  exact h.run A hA s _ fz' S' Q E fun f fl ρ2 σ2 μ2 fz2 s2 p S2 X2 r2 => hQ f fl ρ2 σ2 μ2 fz2 s2 p S2 ((X' _).trans X2) r2
end
end Mine

-- Rules7
namespace Mine

/-- how many cells a block's table makes -/
def cnt : List (Str × NameKind) → Nat
  | [] => 0
  | (_, k) :: r => if k == .cell then cnt r + 1 else cnt r

theorem cellsFrom_cases : ∀ (names : List (Str × NameKind)) (n : Nat) (acc : List (Str × Addr)) (x : Str) (c : Addr), (cellsFrom n names acc).lookup x = some c → (n ≤ c ∧ c < n + cnt names) ∨ acc.lookup x = some c
  | [], n, acc, x, c, h => .inr h
  | (y, k) :: r, n, acc, x, c, h => by
    unfold cellsFrom at h
    unfold cnt
    split at h
    · rename_i hk
      rw [if_pos hk]
      rcases cellsFrom_cases r (n + 1) _ x c h with h | h
      · left
        have h1 := h.1; have h2 := h.2
        exact ⟨Nat.le_of_succ_le h1, by rw [show n + (cnt r + 1) = n + 1 + cnt r by omega]; exact h2⟩
      · rw [List.lookup_cons] at h
        cases hx : x == y with
        | true => rw [hx] at h; cases h; left; exact ⟨Nat.le_refl _, Nat.lt_add_of_pos_right (Nat.succ_pos _)⟩
        | false => rw [hx] at h; exact .inr h
    · rename_i hk
      rw [if_neg hk]
      exact cellsFrom_cases r n acc x c h

theorem cellsFrom_inj : ∀ (names : List (Str × NameKind)) (n : Nat) (acc : List (Str × Addr)), (∀ x y c, acc.lookup x = some c → acc.lookup y = some c → x = y) → (∀ x c, acc.lookup x = some c → c < n) →
    ∀ x y c, (cellsFrom n names acc).lookup x = some c → (cellsFrom n names acc).lookup y = some c → x = y
  | [], n, acc, hi, hl, x, y, c, h1, h2 => hi x y c h1 h2
  | (z, k) :: r, n, acc, hi, hl, x, y, c, h1, h2 => by
    unfold cellsFrom at h1 h2
    split at h1
    · rename_i hk
      rw [if_pos hk] at h2
      refine cellsFrom_inj r (n + 1) _ (fun x y c h1 h2 => ?_) (fun x c h => ?_) x y c h1 h2
      · rw [List.lookup_cons] at h1 h2
        cases hx : x == z with
        | true =>
          rw [hx] at h1; cases h1
          cases hy : y == z with
          | true => exact (beq_iff_eq.mp hx).trans (beq_iff_eq.mp hy).symm
          | false => rw [hy] at h2; exact absurd (hl y n h2) (Nat.lt_irrefl _)
        | false =>
          rw [hx] at h1
          cases hy : y == z with
          | true => rw [hy] at h2; cases h2; exact absurd (hl x n h1) (Nat.lt_irrefl _)
          | false => rw [hy] at h2; exact hi x y c h1 h2
      · rw [List.lookup_cons] at h
        cases hx : x == z with
        | true => rw [hx] at h; cases h; exact Nat.lt_succ_self _
        | false => rw [hx] at h; exact Nat.lt_succ_of_lt (hl x c h)
    · rename_i hk
      rw [if_neg hk] at h2
      exact cellsFrom_inj r n acc hi hl x y c h1 h2

theorem pushCells_new : ∀ (names : List (Str × NameKind)) (h : Heap) (c : Addr), h.objs.size ≤ c → c < h.objs.size + cnt names → (pushCells h names).IsCell c none
  | [], h, c, h1, h2 => by unfold cnt at h2; exact absurd (Nat.lt_of_le_of_lt h1 h2) (Nat.lt_irrefl _)
  | (_, k) :: r, h, c, h1, h2 => by
    unfold pushCells
    unfold cnt at h2
    split
    · rename_i hk
      rw [if_pos hk] at h2
      by_cases hc : c = h.objs.size
      · subst hc
        exact ⟨_, pushCells_keeps _ _ _ _ (Heap.get?_push_size _ rfl), rfl⟩
      · refine pushCells_new r _ c ?_ ?_
        · rw [Heap.size_push]; exact Nat.lt_of_le_of_ne h1 (Ne.symm hc)
        · rw [Heap.size_push]; rw [show h.objs.size + 1 + cnt r = h.objs.size + (cnt r + 1) by omega]; exact h2
    · rename_i hk
      rw [if_neg hk] at h2
      exact pushCells_new r h c h1 h2
theorem pushCells_size : ∀ (names : List (Str × NameKind)) (h : Heap), (pushCells h names).objs.size = h.objs.size + cnt names
  | [], h => rfl
  | (_, k) :: r, h => by
    unfold pushCells cnt
    split
    · rw [pushCells_size r, Heap.size_push]; omega
    · exact pushCells_size r h

def cEnv (scope : Scope) (cl : List (Str × Addr)) (C : Addr) (env : Env) : Env :=
  { scope := relabel scope env, locals := C, globals := env.globals, cells := cellsFrom (C + 1) scope.names cl, qual := env.qual, func := none, code := env.code, frame := env.frame, builtins := env.builtins }

theorem newEnv_comp {M : Model} {A : Around} {scope : Scope} {cl : List (Str × Addr)} {env : Env} {s : Shared} {Q : Env → Shared → Prop} {E : Value → Shared → Prop}
    (hQ : ∀ cenv : Env, cenv.locals = s.heap.objs.size → { cenv with scope := relabel scope env } = cEnv scope cl s.heap.objs.size env →
      Q cenv { s with heap := pushCells (s.heap.push { cls := .type "dict", data := .dict #[] }) scope.names }) :
    wpAny M A (newFunctionEnv scope env.globals cl [] env.qual none .none (some env)) Q E s := by
  simp only [newFunctionEnv, Option.isSome_some, if_true]
  refine wpAny_bind (wpAny_alloc ?_)
  refine wpAny_bind (wpAny_layCells _ (fun name kind cells => by cases hkc : kind == NameKind.cell <;> simp [hkc]) _ _ _ _ ?_)
  refine wpAny_bind (wpAny_pure ?_)
  refine wpAny_pure (hQ _ rfl ?_)
  show _ = cEnv scope cl s.heap.objs.size env
  unfold cEnv
  rw [show ({ s with heap := s.heap.push { cls := .type "dict", data := .dict #[] } } : Shared).heap.objs.size = s.heap.objs.size + 1 from Heap.size_push ..]

/-- every name of a table -/
def AllV (P : Str → D → Prop) : List (Str × D) → Prop
  | [] => True
  | (x, d) :: r => P x d ∧ AllV P r
theorem AllV.get {P : Str → D → Prop} : ∀ {ρ : List (Str × D)}, AllV P ρ → ∀ x d, ρ.lookup x = some d → P x d
  | [], _, _, _, h => by cases h
  | (y, e) :: r, ⟨h1, h2⟩, x, d, h => by
    rw [List.lookup_cons] at h
    cases hx : x == y with
    | true => rw [hx] at h; cases h; rw [beq_iff_eq.mp hx]; exact h1
    | false => rw [hx] at h; exact AllV.get h2 x d h

section
variable {prog : Program} {w : World} {hT : Heap} {n : Nat} {env : Env} {ρ : List (Str × D)} {σ : List (List D)}

structure CompOk (scope : Scope) (cl : List (Str × Addr)) (env : Env) : Prop where
  clos : closureFor scope env = pure cl
  kind : scope.kind = .function
  names : ∀ x ∈ scope.names, x.2 = .local → scope.names.lookup x.1 = some .local
  cells : ∀ x c, cl.lookup x = some c → env.cells.lookup x = some c

/-- what a comprehension sees of its frame -/
def Sees (scope : Scope) (cl : List (Str × Addr)) (env : Env) (ρ : List (Str × D)) (x : Str) (d : D) : Prop :=
  ρ.lookup x = some d ∧ (∀ C, (cEnv scope cl C env).kindOf x = some .cell ∨ (cEnv scope cl C env).kindOf x = some .free) ∧ env.kindOf x ≠ some .local ∧ ∃ c, (∀ C, (cEnv scope cl C env).cells.lookup x = some c) ∧ env.cells.lookup x = some c

theorem Sta.comp {μ fz s scope cl ρc} (S : Sta hT env ρ σ μ fz s) (ok : CompOk scope cl env) (hρ : AllV (Sees scope cl env ρ) ρc) :
    Sta hT (cEnv scope cl s.heap.objs.size env) ρc σ μ fz { s with heap := pushCells (s.heap.push { cls := .type "dict", data := .dict #[] }) scope.names } := by
  have kp : ∀ b o, s.heap.get? b = some o → (pushCells (s.heap.push { cls := .type "dict", data := .dict #[] }) scope.names).get? b = some o := fun b o e => pushCells_keeps _ _ _ _ (Heap.get?_push_of_some _ e)
  have fresh : ∀ a, s.heap.objs.size ≤ a → s.heap.get? a = none := fun a ha => by
    cases e : s.heap.get? a with
    | none => rfl
    | some o => exact absurd (Heap.lt_size e) (Nat.not_lt.mpr ha)
  have hsz : (s.heap.push { cls := .type "dict", data := .dict #[] }).objs.size = s.heap.objs.size + 1 := Heap.size_push ..
  have mun : ∀ (k : Nat) (a : Addr), μ[k]? = some (some a) → ∃ o, s.heap.get? a = some o := fun k a e => by
    have hlt := (List.getElem?_eq_some_iff.mp e).1
    rw [S.len] at hlt
    obtain ⟨vs, ⟨n', q⟩, _⟩ := S.lists k a _ e (List.getElem?_eq_getElem hlt)
    exact ⟨_, q⟩
  have clt : ∀ x c, cl.lookup x = some c → c < s.heap.objs.size := fun x c e => by
    obtain ⟨⟨v, o, h1, _⟩, _⟩ := S.sepC x c (ok.cells x c e)
    exact Heap.lt_size h1
  exact {
    sub := fun b o e => kp b o (S.sub b o e)
    top := S.top
    isFn := ok.kind
    ns := ⟨_, (Heap.Ns.new s.heap (.type "dict")).keeps (pushCells_keeps _ _)⟩
    vars := fun x d e => by
      obtain ⟨h1, h2, h3, c, h4, h5⟩ := hρ.get x d e
      obtain ⟨v, L, r⟩ := S.vars x d h1
      refine ⟨v, ?_, r⟩
      rcases L with ⟨h6, _⟩ | ⟨_, c', h7, h8⟩
      · exact absurd h6 h3
      · have : c' = c := by rw [h5] at h7; injection h7 with h7; exact h7.symm
        subst this
        exact .inr ⟨h2 _, c', h4 _, h8.keeps kp⟩
    len := S.len
    lists := fun k a l e e' => let ⟨vs, q, r⟩ := S.lists k a l e e'; ⟨vs, q.keeps kp, r⟩
    sepL := fz_none S.sub not_there
    sepM := fun k a e => ⟨(S.sepM k a e).1, by
      obtain ⟨o, ho⟩ := mun k a e
      exact Nat.ne_of_lt (Heap.lt_size ho)⟩
    nodup := S.nodup
    sepC := fun x c e => by
      rcases cellsFrom_cases _ _ _ _ _ e with ⟨h1, h2⟩ | h
      · have hn := fresh c (Nat.le_of_succ_le h1)
        refine ⟨⟨none, pushCells_new _ _ c (by rw [hsz]; exact h1) (by rw [hsz]; exact h2)⟩, fz_none S.sub hn, Nat.ne_of_gt h1, fun k e' => ?_⟩
        obtain ⟨o, ho⟩ := mun k c e'
        rw [hn] at ho; cases ho
      · obtain ⟨⟨v, h1⟩, h2, h3, h4⟩ := S.sepC x c (ok.cells x c h)
        exact ⟨⟨v, h1.keeps kp⟩, h2, Nat.ne_of_lt (clt x c h), h4⟩
    injC := cellsFrom_inj _ _ _ (fun x y c h1 h2 => S.injC x y c (ok.cells x c h1) (ok.cells y c h2)) fun x c e => Nat.lt_succ_of_lt (clt x c e) }

/-- an expression that may make new lists that stay open -/
structure EvC (prog : Program) (w : World) (hT : Heap) (n : Nat) (env : Env) (ρ : List (Str × D)) (σ : List (List D)) (e : Expr) (d : D) (σ' : List (List D)) : Prop where of ::
  run : ∀ A, Rm A n → ∀ s μ fz, Sta hT env ρ σ μ fz s → ∀ (Q : Value → Shared → Prop) (E : Value → Shared → Prop),
    (∀ v μ' fz' s', Sta hT env ρ σ' μ' fz' s' → Grow (fun _ => False) s μ fz s' μ' fz' → Rep fz' μ' d v → Q v s') → wpAny (model prog w) A (eval e env) Q E s
theorem Ev.toC {e d} (h : Ev prog w hT n env ρ σ e d) : EvC prog w hT n env ρ σ e d σ := .of fun A hA s μ fz S Q E hQ =>
  h.run A hA s μ fz S Q E fun v fz' s' X r => hQ v μ fz' s' (S.ext X) X.grow r

structure EvX (prog : Program) (w : World) (hT : Heap) (n : Nat) (env : Env) (ρ : List (Str × D)) (σ : List (List D)) (e target : Expr) (ds : List D) : Prop where of ::
  run : ∀ A, Rm A n → ∀ s μ fz, Sta hT env ρ σ μ fz s → ∀ (Q : Value → Shared → Prop) (E : Value → Shared → Prop),
    (∀ I fp P St fz' s', Ext s fz s' fz' → Src prog w A target I fp ds.length P St → St 0 s'.heap → (∀ i v d, P i v → ds[i]? = some d → Rep fz' μ d v) →
      s.heap.get? I = none → fz' I = none → (∃ o, s'.heap.get? I = some o) → (∀ b ∈ fp, ∃ o, s'.heap.get? b = some o) → Q (.ref I) s') →
    wpAny (model prog w) A (eval e env) (fun x s₁ => wpAny (model prog w) A (pyIter x) Q E s₁) E s
theorem EvI.toX {e target ds} (h : EvI prog w hT n env ρ σ e target ds) : EvX prog w hT n env ρ σ e target ds := .of fun A hA s μ fz S Q E hQ =>
  h.run A hA s μ fz S Q E fun I fp P St fz' s' X W hst hrep hnew hf hlive hfp => hQ I fp P St fz' s' X W hst hrep hnew hf hlive fun b hb => by
    by_cases hbI : b = I
    · subst hbI; exact hlive
    · obtain ⟨o, e⟩ := hfp b hb hbI; exact ⟨o, X.sub b o e⟩
theorem EvX.cell {e target k l} (h : Ev prog w hT n env ρ σ e (.cell k)) (hl : σ[k]? = some l) : EvX prog w hT n env ρ σ e target l := .of fun A hA s μ fz S Q E hQ =>
  h.run A hA s μ fz S _ _ fun v fz1 s1 X1 r1 => by
    obtain ⟨a, rfl, hk⟩ := r1
    obtain ⟨vs, ⟨n', q⟩, rs⟩ := (S.ext X1).lists k a l hk hl
    have il : s1.heap.IsList a vs.toArray := ⟨_, q, rfl, n', rfl⟩
    refine wpAny_pyIter_list il ?_
    have hne : a ≠ s1.heap.objs.size := Nat.ne_of_lt (Heap.lt_size q)
    have Y : Ext s1 fz1 { s1 with heap := s1.heap.push { cls := .type "list_iterator", data := .fields #[.ref a, .int 0 0] } } fz1 := .keep X1.sub (keeps_push _ _)
    have hlen : vs.toArray.size = l.length := by rw [List.size_toArray, rs.length]
    refine hQ _ _ _ _ fz1 _ (X1.trans Y) (hlen ▸ Src.list hA.handled s1.heap.objs.size a hne vs.toArray) ⟨⟨_, Heap.get?_push_size _ rfl, rfl, rfl⟩, il.push _⟩ (fun i v d hv hd => ?_)
      (none_before X1.keeps not_there) (fz_none X1.sub not_there) ⟨_, Heap.get?_push_size _ rfl⟩ (fun b hb => ?_)
    · obtain ⟨v', hv', r⟩ := rs.get hd
      have : v = v' := by simpa [hv'] using hv.symm
      exact this ▸ r
    · simp at hb
      rcases hb with hb | hb
      · subst hb; exact ⟨_, Heap.get?_push_size _ rfl⟩
      · subst hb; exact ⟨_, Heap.get?_push_of_some _ q⟩
end
end Mine

-- Rules8
namespace Mine

def turnShape (target iter : Expr) (ifs : List Expr) (it : Value) (env : Env) (inner : Sem Unit) (c : Code) : Sem Fin := do
  standAt iter.pos
  match ← pyNext it with
  | none => pure (.done .next)
  | some v =>
    letOwnedTupleGo target it v
    assign target env v
    let mut ok := true
    for c in ifs do
      if ok then ok ← isTrue c env (eval c env)
    if ok then inner
    again c

section
variable {prog : Program} {w : World} {hT : Heap} {n : Nat} {env : Env} {ρ : List (Str × D)} {σ : List (List D)}

/-- the tests of a clause: none, or one -/
inductive EvIf (prog : Program) (w : World) (hT : Heap) (n : Nat) (env : Env) (ρ : List (Str × D)) (σ : List (List D)) : List Expr → Bool → Prop
  | nil : EvIf prog w hT n env ρ σ [] true
  | one {c b} : EvT prog w hT n env ρ σ c b → EvIf prog w hT n env ρ σ [c] b

theorem EvIf.run {ifs b} (h : EvIf prog w hT n env ρ σ ifs b) {A} (hA : Rm A n) {s μ fz} (S : Sta hT env ρ σ μ fz s) {Q : Bool → Shared → Prop} {E : Value → Shared → Prop}
    (hQ : ∀ fz' s', Ext s fz s' fz' → Q b s') :
    wpAny (model prog w) A (forIn ifs true fun c r => if r = true then do let ok ← isTrue c env (eval c env); pure (ForInStep.yield ok) else pure (ForInStep.yield r)) Q E s := by
  cases h with
  | nil => rw [List.forIn_nil]; exact wpAny_pure (hQ fz s (.refl S.sub))
  | one h =>
    rw [List.forIn_cons]
    simp only [if_true]
    refine wpAny_bind (wpAny_bind (h.run A hA s μ fz S _ _ fun fz' s' X => wpAny_pure ?_))
    show wpAny _ _ (forIn [] _ _) _ _ _
    rw [List.forIn_nil]
    exact wpAny_pure (hQ fz' s' X)

/-- what is done in a turn behind the tests -/
structure Act (prog : Program) (w : World) (hT : Heap) (n : Nat) (env : Env) (k : Nat) (a : Addr) (W : Addr → Prop) (ρ : List (Str × D)) (σ : List (List D)) (t : Sem Unit) (Post : List (List D) → Prop) : Prop where of ::
  run : ∀ A, Rm A n → ∀ s μ fz, Sta hT env ρ σ μ fz s → μ[k]? = some (some a) → ∀ (Q : Unit → Shared → Prop) (E : Value → Shared → Prop),
    (∀ μ' fz' σ' s', Post σ' → Sta hT env ρ σ' μ' fz' s' → Grow W s μ fz s' μ' fz' → Q () s') → wpAny (model prog w) A t Q E s

theorem grow_mu {W : Addr → Prop} {s μ fz s' μ' fz'} (G : Grow W s μ fz s' μ' fz') {k : Nat} {D : Addr} (h : μ[k]? = some (some D)) : μ'[k]? = some (some D) := by
  obtain ⟨ν, rfl⟩ := G.pre
  rw [List.getElem?_append_left (List.getElem?_eq_some_iff.mp h).1]; exact h

theorem act_emit {k : Nat} {W : Addr → Prop} {elt : Expr} {e : D} {σ₂ : List (List D)} {l : List D} {a : Addr} {Post : List (List D) → Prop} (he : EvC prog w hT n env ρ σ elt e σ₂) (hl : σ₂[k]? = some l) (hsz : l.length ≤ sizeLine)
    (hp : Post (app σ₂ k e)) (hWa : W a) : Act prog w hT n env k a W ρ σ (do let _ ← call (.builtin "list.append") [.ref a, ← eval elt env]) Post := .of fun A hA s μ fz S hD Q E hQ => by
  refine wpAny_bind (he.run A hA s μ fz S _ _ fun v μ1 fz1 s1 S1 G1 r1 => ?_)
  have hk := grow_mu G1 hD
  obtain ⟨vs, ⟨n', q⟩, rl⟩ := S1.lists k a l hk hl
  refine wpAny_bind (wpAny_list_append_plain (items := vs.toArray) ⟨n', q⟩ (fun h' hp' hs => wpAny_pure ?_) (by rw [List.size_toArray, rl.length]; exact hsz))
  obtain ⟨n2, q2⟩ := hp'
  have q3 : SeqAt h'.get? "list" a (vs ++ [v]) := ⟨n2, by rw [q2]; simp⟩
  refine hQ μ1 fz1 _ _ hp (S1.append hk hl rl r1 q3 hs) ((G1.mono fun _ h => h.elim).trans ?_)
  exact {
    same := ⟨h', _, rfl⟩
    pres := fun b o hb e => (hs.2 b (by rintro rfl; exact hb hWa)).trans e
    alive := fun b o e => by
      by_cases hb : b = a
      · subst hb; exact ⟨_, q2⟩
      · exact ⟨o, (hs.2 b hb).trans e⟩
    up := fun _ _ e => e
    fresh := fun _ _ e => .inl e
    pre := ⟨[], by simp⟩
    mu := fun _ _ e => .inl e }


theorem Off.grow {μ fz s I s' μ' fz'} {W : Addr → Prop} (h : Off env μ fz s I) (X : Grow W s μ fz s' μ' fz') : Off env μ' fz' s' I where
  fz := by
    cases e : fz' I with
    | none => rfl
    | some o =>
      rcases X.fresh I o e with h' | h'
      · rw [h.fz] at h'; cases h'
      · obtain ⟨o', e'⟩ := h.live; rw [h'] at e'; cases e'
  loc := h.loc
  mu := fun k e => by
    rcases X.mu k I e with h' | h'
    · exact h.mu k h'
    · obtain ⟨o', e'⟩ := h.live; rw [h'] at e'; cases e'
  cell := h.cell
  live := let ⟨o, e⟩ := h.live; X.alive I o e

theorem Grow.skip {W : Addr → Prop} {s μ fz s' μ' fz' h' tk} {I : Addr} (X : Grow W s μ fz s' μ' fz') (hk : ∀ b o, b ≠ I → s'.heap.get? b = some o → h'.get? b = some o) (hI : W I) (hl : (∃ o, h'.get? I = some o) ∨ s.heap.get? I = none) :
    Grow W s μ fz { s' with heap := h', toks := tk } μ' fz' where
  same := by obtain ⟨h, t, rfl⟩ := X.same; exact ⟨h', tk, rfl⟩
  pres := fun a o hw e => hk a o (by rintro rfl; exact hw hI) (X.pres a o hw e)
  alive := fun a o e => by
    by_cases ha : a = I
    · subst ha
      rcases hl with hl | hl
      · exact hl
      · rw [hl] at e; cases e
    · obtain ⟨o', e'⟩ := X.alive a o e; exact ⟨o', hk a o' ha e'⟩
  up := X.up
  fresh := X.fresh
  pre := X.pre
  mu := X.mu

theorem comp_loop {A : Around} (hA : Rm A n) {elt : Expr} {gens : List Comprehension} {scope : Scope} {cpos : Pos} {dp : Nat} {target iter : Expr} {ifs : List Expr} {inner : Sem Unit} {Da I : Addr} {k : Nat} {ds : List D} {R : Result → Shared → Prop} {fp : List Addr} {P : Nat → Value → Prop} {St : Nat → Heap → Prop}
    {s₀ s : Shared} {μ₀ μ : List (Option Addr)} {fz₀ fz : Fz}
    (hturn : compTurn (.ListComp elt gens scope cpos) dp (.ref I) (.ref Da) env = turnShape target iter ifs (.ref I) env inner (.compLoop (.ListComp elt gens scope cpos) dp (.ref I) (.ref Da) env))
    (W : Addr → Prop) (Wk : Src prog w A target I fp ds.length P St) (hWI : ¬ W I) (S : Sta hT env ρ σ μ fz s) (hst : St 0 s.heap) (hoff : Off env μ fz s I)
    (hrep : ∀ i v d, P i v → ds[i]? = some d → Rep fz μ d v) (hfp : ∀ b ∈ fp, b ≠ I → ¬ W b ∧ ∃ o, s.heap.get? b = some o) (hD : μ[k]? = some (some Da))
    (G0 : Grow (fun a => W a ∨ a = I) s₀ μ₀ fz₀ s μ fz) (hI0 : s₀.heap.get? I = none)
    (Inv : Nat → List (List D) → Prop) (h0 : Inv 0 σ)
    (hstep : ∀ i d σ₁, ds[i]? = some d → Inv i σ₁ → ∃ ρ₂ xs b, As prog w hT n env σ₁ target d ρ ρ₂ xs ∧ (∀ x ∈ xs, ∀ a, Loc env x a → W a) ∧ (∀ x d, ρ.lookup x = some d → ρ₂.lookup x = some d) ∧
      EvIf prog w hT n env ρ₂ σ₁ ifs b ∧ (b = false → Inv (i + 1) σ₁) ∧ (b = true → Act prog w hT n env k Da W ρ₂ σ₁ inner (Inv (i + 1))))
    (hR : ∀ s' μ' fz' σ', Inv ds.length σ' → Sta hT env ρ σ' μ' fz' s' → Grow (fun a => W a ∨ a = I) s₀ μ₀ fz₀ s' μ' fz' → μ'[k]? = some (some Da) → R (.ok .next) s') :
    codeAny (model prog w) A (.compLoop (.ListComp elt gens scope cpos) dp (.ref I) (.ref Da) env) R s := by
  refine codeAny_loop rfl (fun m s' => ∃ i σ₁ μ₁ fz₁, m = ds.length + 1 - i ∧ i ≤ ds.length ∧ Inv i σ₁ ∧ Sta hT env ρ σ₁ μ₁ fz₁ s' ∧ Grow (fun a => W a ∨ a = I) s₀ μ₀ fz₀ s' μ₁ fz₁ ∧ Grow (fun a => W a ∨ a = I) s μ fz s' μ₁ fz₁ ∧
    St i s'.heap ∧ Off env μ₁ fz₁ s' I) ?_ (ds.length + 1) ⟨0, σ, μ, fz, rfl, Nat.zero_le _, h0, S, G0, .refl, hst, hoff⟩
  rintro m s' ⟨i, σ₁, μ₁, fz₁, rfl, hile, hinv, S1, GA, G1, hst1, hoff1⟩
  show wpAny _ _ ((compTurn (.ListComp elt gens scope cpos) dp (.ref I) (.ref Da) env).onRaise (fun x => do noteFrame x env; theTreesLotGoes x)) _ _ s'
  refine wpAny_noted ?_
  rw [hturn]
  unfold turnShape
  refine wpAny_bind (wpAny_standAt (wpAny_bind ?_))
  by_cases hlt : i < ds.length
  · refine Wk.item i s' _ _ hlt hst1 fun v h' tk hP hst' hk => ?_
    have hk' : ∀ b o, b ≠ I → s'.heap.get? b = some o → h'.get? b = some o := fun b o hb e => hk b o (by simpa using hb) e
    have S2 : Sta hT env ρ σ₁ μ₁ fz₁ { s' with heap := h', toks := tk } := S1.keepBut hk' hoff1.fz hoff1.loc hoff1.mu hoff1.cell
    have hl2 := Wk.live _ _ hst'
    have GA2 : Grow (fun a => W a ∨ a = I) s₀ μ₀ fz₀ { s' with heap := h', toks := tk } μ₁ fz₁ := GA.skip hk' (.inr rfl) (.inl hl2)
    have G2 : Grow (fun a => W a ∨ a = I) s μ fz { s' with heap := h', toks := tk } μ₁ fz₁ := G1.skip hk' (.inr rfl) (.inl hl2)
    have hoff2 : Off env μ₁ fz₁ { s' with heap := h', toks := tk } I := ⟨hoff1.fz, hoff1.loc, hoff1.mu, hoff1.cell, hl2⟩
    have hd : ds[i]? = some ds[i] := List.getElem?_eq_getElem hlt
    obtain ⟨ρ₂, xs, b, hAs, hxs, hback, hif, hf, ht⟩ := hstep i ds[i] σ₁ hd hinv
    have r : Rep fz₁ μ₁ ds[i] v := by
      obtain ⟨ν, rfl⟩ := G1.pre
      exact (hrep i v ds[i] hP hd).mono G1.up
    have hD1 : μ₁[k]? = some (some Da) := grow_mu G1 hD
    have fin : ∀ σ' μ' fz' s4, Inv (i + 1) σ' → Sta hT env ρ₂ σ' μ' fz' s4 → Grow W { s' with heap := h', toks := tk } μ₁ fz₁ s4 μ' fz' → ∃ m < ds.length + 1 - i, ∃ i σ₁ μ₁ fz₁, m = ds.length + 1 - i ∧ i ≤ ds.length ∧ Inv i σ₁ ∧ Sta hT env ρ σ₁ μ₁ fz₁ s4 ∧ Grow (fun a => W a ∨ a = I) s₀ μ₀ fz₀ s4 μ₁ fz₁ ∧ Grow (fun a => W a ∨ a = I) s μ fz s4 μ₁ fz₁ ∧
        St i s4.heap ∧ Off env μ₁ fz₁ s4 I := fun σ' μ' fz' s4 p S4 G4 => by
      refine ⟨ds.length + 1 - (i + 1), by omega, i + 1, σ', μ', fz', rfl, hlt, p, S4.forget hback, GA2.trans (G4.mono fun _ h => .inl h), G2.trans (G4.mono fun _ h => .inl h), ?_, hoff2.grow G4⟩
      refine Wk.frame _ _ _ hst' fun c hc o e => ?_
      by_cases hcI : c = I
      · subst hcI; exact G4.pres c o hWI e
      · exact G4.pres c o (hfp c hc hcI).1 e
    refine wpAny_bind (Wk.own (i + 1) _ v _ _ hst' ?_)
    refine wpAny_bind (hAs.run A hA _ μ₁ fz₁ S2 v r _ _ fun s3 S3 G3 => ?_)
    have G3' : Grow W { s' with heap := h', toks := tk } μ₁ fz₁ s3 μ₁ fz₁ := G3.mono fun a ⟨x, hx, h⟩ => hxs x hx a h
    refine wpAny_bind (hif.run hA S3 fun fz4 s4 X4 => ?_)
    cases b with
    | false =>
      exact wpAny_pure ⟨rfl, fin σ₁ μ₁ fz4 s4 (hf rfl) (S3.ext X4) (G3'.trans X4.grow)⟩
    | true =>
      refine wpAny_bind ((ht rfl).run A hA s4 μ₁ fz4 (S3.ext X4) hD1 _ _ fun μ5 fz5 σ5 s5 p5 S5 G5 => ?_)
      exact wpAny_pure ⟨rfl, fin σ5 μ5 fz5 s5 p5 S5 ((G3'.trans X4.grow).trans G5)⟩
  · have hi' : i = ds.length := by omega
    subst hi'
    refine Wk.done s' _ _ hst1 fun h' tk hk => ?_
    have hk' : ∀ b o, b ≠ I → s'.heap.get? b = some o → h'.get? b = some o := fun b o hb e => hk b o (by simpa using hb) e
    have S2 : Sta hT env ρ σ₁ μ₁ fz₁ { s' with heap := h', toks := tk } := S1.keepBut hk' hoff1.fz hoff1.loc hoff1.mu hoff1.cell
    exact wpAny_pure (hR _ μ₁ fz₁ σ₁ hinv S2 (GA.skip hk' (.inr rfl) (.inr hI0)) (grow_mu G1 hD))
end
end Mine

-- Rules9
namespace Mine
section
variable {prog : Program} {w : World} {hT : Heap} {n : Nat} {env : Env} {ρ : List (Str × D)} {σ : List (List D)}

theorem comp_start {A : Around} {R : Result → Shared → Prop} {s : Shared} {elt : Expr} {gens : List Comprehension} {scope : Scope} {cpos : Pos} {dp : Nat} {it acc : Value} {target iter : Expr} {ifs : List Expr} {cenv : Env}
    (hg : gens[dp]? = some ⟨target, iter, ifs, 0⟩)
    (h0 : codeAny (model prog w) A (.compLoop (.ListComp elt gens scope cpos) dp it acc cenv) R s)
    (h : wpAny (model prog w) A (pyIter it) (fun it' s' => codeAny (model prog w) A (.compLoop (.ListComp elt gens scope cpos) dp it' acc cenv) R s') (notedBy (model prog w) A cenv fun x s' => R (.error x) s') s) :
    codeAny (model prog w) A (.compStart (.ListComp elt gens scope cpos) dp it acc cenv) R s := by
  refine codeAny_of_tree ?_
  show wpAny _ _ ((compStart (.ListComp elt gens scope cpos) dp it acc cenv).onRaise (fun x => do noteFrame x cenv; standAt theWindowsPlace)) _ _ s
  refine wpAny_notedAt ?_
  unfold compStart
  have hc : (clausesOf (.ListComp elt gens scope cpos))[dp]? = some ⟨target, iter, ifs, 0⟩ := hg
  rw [hc]
  simp only [Option.elim]
  show wpAny _ _ (ask >>= _) _ _ s
  refine wpAny_bind (wpAny_askSetting (wpAny_ite ?_))
  split
  · first
      | exact wpAny_bind (wpAny_pure (wpAny_pure (And.intro rfl h0)))
      | exact wpAny_pure (And.intro rfl h0)
  · refine wpAny_bind (wpAny_rule ?_)
    refine wpAny_bind (wpAny_standAt ?_)
    exact wpAny_bind (wpAny_mono h (fun it' s' h' => wpAny_pure (And.intro rfl h')) fun _ _ x => x)

theorem app_last (σ : List (List D)) (l : List D) (d : D) : app (σ ++ [l]) σ.length d = σ ++ [l ++ [d]] := by
  unfold app
  induction σ with
  | nil => rfl
  | cons x r ih => exact congrArg (x :: ·) ih

theorem comp_one {A : Around} (hA : Rm A n) {s : Shared} {μ : List (Option Addr)} {fz : Fz} (S : Sta hT env ρ σ μ fz s) {elt target iter : Expr} {ifs : List Expr} {scope : Scope} {cpos pos : Pos} {cl : List (Str × Addr)} {ds : List D} {ρc : List (Str × D)}
    (hI : EvX prog w hT n env ρ σ iter target ds) (ok : CompOk scope cl env) (hρc : AllV (Sees scope cl env ρ) ρc) (Inv : Nat → List (List D) → Prop) (h0 : Inv 0 (σ ++ [[]]))
    (hstep : ∀ C i d σ₁, ds[i]? = some d → Inv i σ₁ → ∃ ρ₂ xs b, As prog w hT n (cEnv scope cl C env) σ₁ target d ρc ρ₂ xs ∧ (∀ x ∈ xs, cl.lookup x = none) ∧ (∀ x d, ρc.lookup x = some d → ρ₂.lookup x = some d) ∧
      EvIf prog w hT n (cEnv scope cl C env) ρ₂ σ₁ ifs b ∧ (b = false → Inv (i + 1) σ₁) ∧
      (b = true → ∃ e σ₂ l, EvC prog w hT n (cEnv scope cl C env) ρ₂ σ₁ elt e σ₂ ∧ σ₂[σ.length]? = some l ∧ l.length ≤ sizeLine ∧ Inv (i + 1) (app σ₂ σ.length e)))
    {use : Option (Value → Sem Unit)} {Q : Value → Shared → Prop} {E : Value → Shared → Prop}
    (hfin : ∀ Da C s' μ' fz' σ' W, Inv ds.length σ' → Sta hT (cEnv scope cl C env) ρc σ' μ' fz' s' → Grow W s μ fz s' μ' fz' → (∀ a, W a → s.heap.get? a = none) → μ'[σ.length]? = some (some Da) →
      s.heap.get? C = none → compPost (model prog w) A E use Q (.ref Da) C (.ok .next) s')
    (hs : ∀ x, foldedSetIterable iter env x = pure x := by intro _; rfl) :
    wpAny (model prog w) A (comprehension (.ListComp elt [⟨target, iter, ifs, 0⟩] scope cpos) scope env pos (newList []) false (eval iter env) use) Q E s := by
  refine wpAny_comprehension_free (g := ⟨target, iter, ifs, 0⟩) (gs := []) rfl hs ok.clos ok.kind ok.names (hI.run A hA s μ fz S _ _ fun I fp P St fz0 s2 X0 Wk hst hrep hnew hf hlive hfp => ?_)
  -- the new list
  have S2 := S.ext X0
  refine wpAny_newObj_type ?_ (by size_fits)
  let o1 : Obj := { cls := .type "list", data := .seq ([] : List Value).toArray }
  let s3 : Shared := { s2 with heap := s2.heap.push o1 }
  have Y3 : Ext s2 fz0 s3 fz0 := .keep X0.sub (keeps_push _ _)
  have S3 : Sta hT env ρ σ μ fz0 s3 := S2.ext Y3
  have hDa : s2.heap.get? s2.heap.objs.size = none := not_there
  refine newEnv_comp (s := s3) fun cenv hcl hcenv => ?_
  rw [hcenv, hcl]
  let s4 : Shared := { s3 with heap := pushCells (s3.heap.push { cls := .type "dict", data := .dict #[] }) scope.names }
  have hC : s3.heap.objs.size = s2.heap.objs.size + 1 := Heap.size_push ..
  have S4 : Sta hT (cEnv scope cl s3.heap.objs.size env) ρc σ μ fz0 s4 := S3.comp ok hρc
  have Y4 : Ext s3 fz0 s4 fz0 := .keep Y3.sub ⟨_, s3.toks, rfl, fun b o e => pushCells_keeps _ _ _ _ (Heap.get?_push_of_some _ e)⟩
  have X4 : Ext s fz s4 fz0 := (X0.trans Y3).trans Y4
  have cellsAre : ∀ x c, (cEnv scope cl s3.heap.objs.size env).cells.lookup x = some c → (s3.heap.objs.size + 1 ≤ c ∧ c < s3.heap.objs.size + 1 + cnt scope.names) ∨ (cl.lookup x = some c ∧ ∃ o, s.heap.get? c = some o) := fun x c e => by
    rcases cellsFrom_cases _ _ _ _ _ e with h | h
    · exact .inl h
    · obtain ⟨⟨v, o, h1, _⟩, _⟩ := S.sepC x c (ok.cells x c h)
      exact .inr ⟨h, o, h1⟩
  have hl3 : s3.heap.get? s2.heap.objs.size = some o1 := Heap.get?_push_size _ rfl
  have hl4 : s4.heap.get? s2.heap.objs.size = some o1 := keeps_get Y4.keeps _ _ hl3
  have muIn : ∀ (k : Nat) (a : Addr), μ[k]? = some (some a) → ∃ o, s.heap.get? a = some o := fun k a e => by
    have hlt := (List.getElem?_eq_some_iff.mp e).1
    rw [S.len] at hlt
    obtain ⟨vs, ⟨n', q⟩, _⟩ := S.lists k a _ e (List.getElem?_eq_getElem hlt)
    exact ⟨_, q⟩
  have hDs : s.heap.get? s2.heap.objs.size = none := none_before X0.keeps hDa
  have offD : Off (cEnv scope cl s3.heap.objs.size env) μ fz0 s4 s2.heap.objs.size := {
    fz := fz_none X0.sub hDa
    loc := by show s3.heap.objs.size ≠ _; rw [hC]; exact Nat.succ_ne_self _
    mu := fun k e => by obtain ⟨o, ho⟩ := muIn k _ e; rw [hDs] at ho; cases ho
    cell := fun x c e => by
      rcases cellsAre x c e with ⟨h1, _⟩ | ⟨_, o, h1⟩
      · rw [hC] at h1; exact Nat.ne_of_gt (Nat.lt_of_succ_lt h1)
      · rintro rfl; rw [hDs] at h1; cases h1
    live := ⟨_, hl4⟩ }
  have S5 : Sta hT (cEnv scope cl s3.heap.objs.size env) ρc (σ ++ [[]]) (μ ++ [some s2.heap.objs.size]) fz0 s4 := S4.addCell (l := []) (vs := []) offD ⟨0, hl4⟩ rfl
  have hIlt : I < s2.heap.objs.size := by obtain ⟨o, ho⟩ := hlive; exact Heap.lt_size ho
  have hlive4 : ∃ o, s4.heap.get? I = some o := by obtain ⟨o, ho⟩ := hlive; exact ⟨o, keeps_get (keeps_trans Y3.keeps Y4.keeps) _ _ ho⟩
  let W : Addr → Prop := fun a => s2.heap.objs.size ≤ a ∧ a < s2.heap.objs.size + 2 + cnt scope.names
  have offI : Off (cEnv scope cl s3.heap.objs.size env) (μ ++ [some s2.heap.objs.size]) fz0 s4 I := {
    fz := hf
    loc := by show s3.heap.objs.size ≠ I; rw [hC]; exact Nat.ne_of_gt (Nat.lt_succ_of_lt hIlt)
    mu := fun k e => by
      by_cases hk : k < μ.length
      · rw [List.getElem?_append_left hk] at e
        obtain ⟨o, ho⟩ := muIn k _ e; rw [hnew] at ho; cases ho
      · have hk2 : k = μ.length := by
          have := (List.getElem?_eq_some_iff.mp e).1
          simp at this; omega
        subst hk2
        rw [List.getElem?_append_right (Nat.le_refl _)] at e
        simp at e
        exact Nat.ne_of_gt hIlt e
    cell := fun x c e => by
      rcases cellsAre x c e with ⟨h1, _⟩ | ⟨_, o, h1⟩
      · exact Nat.ne_of_gt (Nat.lt_of_lt_of_le hIlt (Nat.le_trans (by rw [hC]; exact Nat.le_succ_of_le (Nat.le_succ _)) h1))
      · rintro rfl; rw [hnew] at h1; cases h1
    live := hlive4 }
  have hWs : ∀ a, (W a ∨ a = I) → s.heap.get? a = none := fun a ha => by
    rcases ha with ha | rfl
    · refine none_before X0.keeps ?_
      cases e : s2.heap.get? a with
      | none => rfl
      | some o => exact absurd (Heap.lt_size e) (Nat.not_lt.mpr ha.1)
    · exact hnew
  have G0 : Grow (fun a => W a ∨ a = I) s μ fz s4 (μ ++ [some s2.heap.objs.size]) fz0 :=
    { X4.grow (μ := μ) (W := fun a => W a ∨ a = I) with
      pre := ⟨[some s2.heap.objs.size], rfl⟩
      mu := fun k a e => by
        by_cases hk : k < μ.length
        · rw [List.getElem?_append_left hk] at e; exact .inl e
        · have hk2 : k = μ.length := by
            have := (List.getElem?_eq_some_iff.mp e).1
            simp at this; omega
          subst hk2
          rw [List.getElem?_append_right (Nat.le_refl _)] at e
          simp at e
          subst e; exact .inr hDs }
  have hWI : ¬ W I := fun h => absurd h.1 (Nat.not_le.mpr hIlt)
  have hkD : (μ ++ [some s2.heap.objs.size])[σ.length]? = some (some s2.heap.objs.size) := by rw [← S.len]; simp
  have loop : codeAny (model prog w) A (.compLoop (.ListComp elt [⟨target, iter, ifs, 0⟩] scope cpos) 0 (.ref I) (.ref s2.heap.objs.size) (cEnv scope cl s3.heap.objs.size env))
      (compPost (model prog w) A E use Q (.ref s2.heap.objs.size) s3.heap.objs.size) s4 := by
    refine comp_loop hA (k := σ.length) (target := target) (iter := iter) (ifs := ifs) (inner := do let _ ← call (.builtin "list.append") [.ref s2.heap.objs.size, ← eval elt (cEnv scope cl s3.heap.objs.size env)]) rfl
      W Wk hWI S5 (Wk.frame _ _ _ hst fun b _ o e => keeps_get (keeps_trans Y3.keeps Y4.keeps) _ _ e) offI (fun i v d hP hd => (hrep i v d hP hd).mono fun _ _ e => e)
      (fun b hb hbI => ⟨fun hw => by obtain ⟨o, ho⟩ := hfp b hb; exact absurd (Heap.lt_size ho) (Nat.not_lt.mpr hw.1), by obtain ⟨o, ho⟩ := hfp b hb; exact ⟨o, keeps_get (keeps_trans Y3.keeps Y4.keeps) _ _ ho⟩⟩)
      hkD G0 hnew Inv h0 (fun i d σ₁ hd hinv => ?_) (fun s' μ' fz' σ' hinv S' G' hk' => ?_)
    · obtain ⟨ρ₂, xs, b, h1, h2, h3, h4, h5, h6⟩ := hstep s3.heap.objs.size i d σ₁ hd hinv
      refine ⟨ρ₂, xs, b, h1, fun x hx a hL => ?_, h3, h4, h5, fun hb => ?_⟩
      · rcases hL with ⟨_, rfl⟩ | hL
        · show s2.heap.objs.size ≤ s3.heap.objs.size ∧ _; rw [hC]; exact ⟨Nat.le_succ _, by show s2.heap.objs.size + 1 < s2.heap.objs.size + 2 + cnt scope.names; omega⟩
        · rcases cellsAre x a hL with ⟨h7, h8⟩ | ⟨h7, _⟩
          · rw [hC] at h7 h8
            exact ⟨Nat.le_trans (Nat.le_trans (Nat.le_succ _) (Nat.le_succ _)) h7, by rw [show s2.heap.objs.size + 2 + cnt scope.names = s2.heap.objs.size + 1 + 1 + cnt scope.names by omega]; exact h8⟩
          · rw [h2 x hx] at h7; cases h7
      · obtain ⟨e, σ₂, l, h7, h8, h9, h10⟩ := h6 hb
        exact act_emit h7 h8 h9 h10 ⟨Nat.le_refl _, by show s2.heap.objs.size < s2.heap.objs.size + 2 + cnt scope.names; omega⟩
    · exact hfin _ _ s' μ' fz' σ' _ hinv S' G' hWs hk' (hWs _ (.inl ⟨by rw [hC]; exact Nat.le_succ _, by rw [hC]; show s2.heap.objs.size + 1 < s2.heap.objs.size + 2 + cnt scope.names; omega⟩))
  have hst4 : St 0 s4.heap := Wk.frame _ _ _ hst fun b _ o e => keeps_get (keeps_trans Y3.keeps Y4.keeps) _ _ e
  exact comp_start (target := target) (iter := iter) (ifs := ifs) rfl loop (Wk.self 0 s4 _ _ hst4 loop)

end
end Mine

-- Rules10
namespace Mine

mutual
theorem Rep.cut {fz : Fz} {μ : List (Option Addr)} {x : Option Addr} : ∀ {d : D} {v : Value}, d.has μ.length = false → Rep fz (μ ++ [x]) d v → Rep fz μ d v
  | .none, _, _, h => h
  | .bool _, _, _, h => h
  | .int _, _, _, h => h
  | .str _, _, _, h => h
  | .tup ds, _, hh, h => by
    obtain ⟨b, ws, e, q', r'⟩ := h
    exact ⟨b, ws, e, q', Reps.cut hh r'⟩
  | .list ds, _, hh, h => by
    obtain ⟨b, ws, e, q', r'⟩ := h
    exact ⟨b, ws, e, q', Reps.cut hh r'⟩
  | .cell j, _, hh, h => by
    obtain ⟨b, e, hb⟩ := h
    refine ⟨b, e, ?_⟩
    have hj : j ≠ μ.length := by
      intro hj; subst hj
      have : (μ.length == μ.length) = false := hh
      simp at this
    have hlt := (List.getElem?_eq_some_iff.mp hb).1
    rw [List.length_append, List.length_singleton] at hlt
    rw [List.getElem?_append_left (by omega)] at hb
    exact hb
theorem Reps.cut {fz : Fz} {μ : List (Option Addr)} {x : Option Addr} : ∀ {ds : List D} {ws : List Value}, D.hass μ.length ds = false → Reps fz (μ ++ [x]) ds ws → Reps fz μ ds ws
  | [], _, _, h => h
  | d :: ds, _, hh, h => by
    obtain ⟨v, ws', e, q', r'⟩ := h
    have h' := Bool.or_eq_false_iff.mp hh
    exact ⟨v, ws', e, Rep.cut h'.1 q', Reps.cut h'.2 r'⟩
end
mutual
theorem has_pur {k : Nat} : ∀ {d : D}, d.pur = true → d.has k = false
  | .none, _ => rfl
  | .bool _, _ => rfl
  | .int _, _ => rfl
  | .str _, _ => rfl
  | .tup ds, h => hass_purs (ds := ds) h
  | .list ds, h => hass_purs (ds := ds) h
  | .cell _, h => by cases h
theorem hass_purs {k : Nat} : ∀ {ds : List D}, D.purs ds = true → D.hass k ds = false
  | [], _ => rfl
  | d :: ds, h => by
    have h' := Bool.and_eq_true_iff.mp h
    show (D.has k d || D.hass k ds) = false
    rw [has_pur h'.1, hass_purs h'.2]; rfl
end

section
variable {prog : Program} {w : World} {hT : Heap} {n : Nat} {env : Env} {ρ : List (Str × D)} {σ : List (List D)}

/-- a list comprehension gives d, whatever is done with it -/
structure EvL (prog : Program) (w : World) (hT : Heap) (n : Nat) (env : Env) (ρ : List (Str × D)) (σ : List (List D)) (elt : Expr) (gens : List Comprehension) (scope : Scope) (cpos : Pos) (d : D) : Prop where of ::
  run : ∀ A, Rm A n → ∀ s μ fz, Sta hT env ρ σ μ fz s → ∀ (use : Option (Value → Sem Unit)) (Q : Value → Shared → Prop) (E : Value → Shared → Prop) (pos : Pos),
    (∀ v fz' s' C, Ext s fz s' fz' → Rep fz' μ d v → s.heap.get? C = none → fz' C = none → (∃ m, s'.heap.Ns C m) → compPost (model prog w) A E use Q v C (.ok .next) s') →
    wpAny (model prog w) A (comprehension (.ListComp elt gens scope cpos) scope env pos (newList []) false (firstIter gens env) use) Q E s

theorem fin_frozen {s s' : Shared} {μ μ' : List (Option Addr)} {fz fz' : Fz} {W : Addr → Prop} {cenv : Env} {ρc : List (Str × D)} {res : List D} {Da : Addr} (S : Sta hT env ρ σ μ fz s)
    (S' : Sta hT cenv ρc (σ ++ [res]) μ' fz' s') (G : Grow W s μ fz s' μ' fz') (hW : ∀ a, W a → s.heap.get? a = none) (hk : μ'[σ.length]? = some (some Da)) (hav : D.hass σ.length res = false) :
    ∃ fz'', Ext s fz s' fz'' ∧ Rep fz'' μ (.list res) (.ref Da) ∧ fz'' cenv.locals = none := by
  have hDs : s.heap.get? Da = none := by
    rcases G.mu _ _ hk with h | h
    · have := (List.getElem?_eq_some_iff.mp h).1
      rw [S.len] at this; exact absurd this (Nat.lt_irrefl _)
    · exact h
  obtain ⟨vs, ⟨n', q⟩, rl⟩ := S'.lists σ.length Da res hk (by simp)
  let fz'' : Fz := fun b => if b = Da then s'.heap.get? Da else fz' b
  have up' : ∀ b o, fz' b = some o → fz'' b = some o := fun b o e => by
    show (if b = Da then _ else _) = _
    by_cases hb : b = Da
    · subst hb; rw [(S'.sepM _ _ hk).1] at e; cases e
    · rw [if_neg hb]; exact e
  have hμ : μ' = μ ++ [some Da] := by
    obtain ⟨ν, rfl⟩ := G.pre
    have hlen := S'.len
    rw [List.length_append, List.length_append, List.length_singleton, S.len] at hlen
    obtain ⟨y, rfl⟩ : ∃ y, ν = [y] := List.length_eq_one_iff.mp (by omega)
    rw [← S.len, List.getElem?_append_right (Nat.le_refl _)] at hk
    simp at hk
    rw [hk]
  refine ⟨fz'', ⟨G.keeps hW, fun b o e => up' b o (G.up b o e), fun b o e => ?_, fun b o e => ?_⟩, ⟨Da, vs, rfl, ⟨n', ?_⟩, ?_⟩, ?_⟩
  · by_cases hb : b = Da
    · subst hb
      have : (if b = b then s'.heap.get? b else fz' b) = some o := e
      rw [if_pos rfl] at this; exact this
    · have : (if b = Da then s'.heap.get? Da else fz' b) = some o := e
      rw [if_neg hb] at this; exact S'.sub b o this
  · by_cases hb : b = Da
    · subst hb; exact .inr hDs
    · have : (if b = Da then s'.heap.get? Da else fz' b) = some o := e
      rw [if_neg hb] at this; exact G.fresh b o this
  · show (if Da = Da then _ else _) = _
    rw [if_pos rfl]; exact q
  · subst hμ
    exact ((rl.mono0 up').cut (by rw [S.len]; exact hav))
  · show (if cenv.locals = Da then _ else _) = _
    rw [if_neg (Ne.symm (S'.sepM _ _ hk).2)]; exact S'.sepL

theorem EvL.mk {elt target iter : Expr} {ifs : List Expr} {scope : Scope} {cpos : Pos} {cl : List (Str × Addr)} {ds : List D} {ρc : List (Str × D)} (f : Nat → List D)
    (hI : EvX prog w hT n env ρ σ iter target ds) (ok : CompOk scope cl env) (hρc : AllV (Sees scope cl env ρ) ρc) (h0 : f 0 = [])
    (hstep : ∀ C i d, ds[i]? = some d → ∃ ρ₂ xs b, As prog w hT n (cEnv scope cl C env) (σ ++ [f i]) target d ρc ρ₂ xs ∧ (∀ x ∈ xs, cl.lookup x = none) ∧ (∀ x d, ρc.lookup x = some d → ρ₂.lookup x = some d) ∧
      EvIf prog w hT n (cEnv scope cl C env) ρ₂ (σ ++ [f i]) ifs b ∧ (b = false → f (i + 1) = f i) ∧
      (b = true → ∃ e, Ev prog w hT n (cEnv scope cl C env) ρ₂ (σ ++ [f i]) elt e ∧ (f i).length ≤ sizeLine ∧ f (i + 1) = f i ++ [e]))
    (hav : D.hass σ.length (f ds.length) = false) (hs : ∀ x, foldedSetIterable iter env x = pure x := by intro _; rfl) :
    EvL prog w hT n env ρ σ elt [⟨target, iter, ifs, 0⟩] scope cpos (.list (f ds.length)) := .of fun A hA s μ fz S use Q E pos hQ => by
  refine comp_one hA S hI ok hρc (fun i σ₁ => σ₁ = σ ++ [f i]) (by rw [h0]) (fun C i d σ₁ hd hinv => ?_) (fun Da C s' μ' fz' σ' W hinv S' G hW hk hC => ?_) hs
  · subst hinv
    obtain ⟨ρ₂, xs, b, h1, h2, h3, h4, h5, h6⟩ := hstep C i d hd
    refine ⟨ρ₂, xs, b, h1, h2, h3, h4, fun hb => by rw [h5 hb], fun hb => ?_⟩
    obtain ⟨e, h7, h8, h9⟩ := h6 hb
    exact ⟨e, _, f i, h7.toC, by simp, h8, by rw [app_last, h9]⟩
  · subst hinv
    obtain ⟨fz'', X, r, hC'⟩ := fin_frozen S S' G hW hk hav
    exact hQ _ fz'' s' C X r hC hC' S'.ns

theorem Ev.ofL {elt gens scope cpos d} (h : EvL prog w hT n env ρ σ elt gens scope cpos d) (ha : firstAsync gens = false := by rfl) : Ev prog w hT n env ρ σ (.ListComp elt gens scope cpos) d := .of fun A hA s μ fz S Q E hQ => by
  rw [eval_ListComp, ha]
  refine h.run A hA s μ fz S none _ _ _ fun v fz' s' C X r hC hfC hns => ?_
  obtain ⟨m, hm⟩ := hns
  refine ⟨m, hm, fun h' hsb => ?_⟩
  obtain ⟨h1, t1, rfl, k1⟩ := X.keeps
  have hk : Keeps s { s with heap := h', toks := t1 } := ⟨h', t1, rfl, fun b o e => (hsb.2 b (by rintro rfl; rw [hC] at e; cases e)).trans (k1 b o e)⟩
  exact hQ v fz' _ ⟨hk, X.up, fun b o e => (hsb.2 b (by rintro rfl; rw [hfC] at e; cases e)).trans (X.sub b o e), X.fresh⟩ r

theorem Ex1.assign_comp {x p elt gens scope cpos pos d} {Post : PostT} (h : EvL prog w hT n env ρ σ elt gens scope cpos d) (hk : env.kindOf x = some .local) (hp : Post .next (upd ρ x d) σ)
    (hsw : swapsWith (.ListComp elt gens scope cpos) (some (.Name x p)) pos.line env = pure true := by rfl) (ha : firstAsync gens = false := by rfl) :
    Ex1 prog w hT n env ρ σ (.Assign [.Name x p] (.ListComp elt gens scope cpos) pos) Post := .of fun A hA s μ fz S Q E hQ => by
  rw [exec_Assign_Name_used _ _ _ _ hsw]
  refine wpAny_bind (wpAny_standAt (wpAny_bind ?_))
  show wpAny _ A (do let _ ← comprehension (.ListComp elt gens scope cpos) scope env _ (newList []) (firstAsync gens) (firstIter gens env) (some (PySem.assign (.Name x p) env))) _ _ s
  rw [ha]
  refine wpAny_bind (wpAny_mono (h.run A hA s μ fz S (some (PySem.assign (.Name x p) env)) (fun _ s' => Q .next s') E _ fun v fz' s' C X r hC hfC hns => ?_) (fun _ s' hq => wpAny_pure (wpAny_pure hq)) fun _ _ e => e)
  have S1 := S.ext X
  obtain ⟨m, hm⟩ := hns
  have hCL : C ≠ env.locals := by
    rintro rfl
    obtain ⟨m', o, _, _, ho, _⟩ := S.ns
    rw [hC] at ho; cases ho
  show wpAny _ A (PySem.assign (.Name x p) env v) _ _ _
  refine wpAny_assign_Name (S1.store r (.inl hk) fun s2 S2 G2 => ?_)
  have hCn : ¬ Loc env x C := by
    rintro (⟨_, h⟩ | h)
    · exact hCL h
    · obtain ⟨⟨v', o, h1, _⟩, _⟩ := S.sepC x C h
      rw [hC] at h1; cases h1
  have hm2 : s2.heap.Ns C m := hm.at' fun o e => G2.pres C o hCn e
  refine ⟨m, hm2, fun h' hsb => ?_⟩
  have hoff : Off env μ fz' s2 C := by
    refine Off.grow (Off.of_new S hC hfC ?_) G2
    obtain ⟨o, _, _, ho, _⟩ := hm; exact ⟨o, ho⟩
  have hk' : ∀ b o, b ≠ C → s2.heap.get? b = some o → h'.get? b = some o := fun b o hb e => (hsb.2 b hb).trans e
  refine hQ .next .next _ σ μ fz' _ hp (S2.keepBut hk' hoff.fz hoff.loc hoff.mu hoff.cell) ?_ rfl
  exact (X.step.trans (G2.step fun a h => .inl h.wf)).skip hk' hC
end
end Mine

-- Rules11
namespace Mine

structure GL (hT : Heap) (mg mb : Str → Option Value) : Prop where
  g : hT.Ns mainGlobals mg
  b : hT.Ns builtinsNs mb
  nolimit : hT.NoLimit

theorem lookup_zip {fz : Fz} {μ : List (Option Addr)} : ∀ {xs : List Str} {ds : List D} {vs : List Value}, Reps fz μ ds vs → ∀ x d, (xs.zip ds).lookup x = some d → ∃ v, (xs.zip vs).lookup x = some v ∧ Rep fz μ d v
  | [], _, _, _, x, d, h => by cases h
  | _ :: _, [], _, _, x, d, h => by cases h
  | y :: xs, e :: ds, _, r, x, d, h => by
    obtain ⟨v, vs', rfl, r1, r2⟩ := r
    rw [List.zip_cons_cons, List.lookup_cons] at h
    rw [List.zip_cons_cons, List.lookup_cons]
    cases hx : x == y with
    | true => rw [hx] at h; cases h; exact ⟨v, rfl, r1⟩
    | false => rw [hx] at h; exact lookup_zip r2 x d h

theorem bindL_miss (kindOf : Str → Option NameKind) (x : Str) : ∀ (binds : List (Str × Value)) (m : Str → Option Value), (∀ p ∈ binds, p.1 ≠ x) → bindL kindOf binds m x = m x
  | [], m, _ => rfl
  | (y, v) :: r, m, h => by
    unfold bindL
    rw [bindL_miss kindOf x r _ fun p hp => h p (List.mem_cons_of_mem _ hp)]
    split
    · have : x ≠ y := Ne.symm (h (y, v) List.mem_cons_self)
      simp [this]
    · rfl
theorem bindC_miss (kindOf : Str → Option NameKind) (x : Str) : ∀ (binds : List (Str × Value)) (m : Str → Option Value), (∀ p ∈ binds, p.1 ≠ x) → bindC kindOf binds m x = m x
  | [], m, _ => rfl
  | (y, v) :: r, m, h => by
    unfold bindC
    rw [bindC_miss kindOf x r _ fun p hp => h p (List.mem_cons_of_mem _ hp)]
    split
    · rfl
    · have : x ≠ y := Ne.symm (h (y, v) List.mem_cons_self)
      simp [this]
theorem bindL_hit (kindOf : Str → Option NameKind) (x : Str) (hk : kindOf x = some .local) (v : Value) : ∀ (binds : List (Str × Value)) (m : Str → Option Value), (binds.map (·.1)).Nodup → binds.lookup x = some v → bindL kindOf binds m x = some v
  | [], m, _, h => by cases h
  | (y, u) :: r, m, hn, h => by
    rw [List.map_cons, List.nodup_cons] at hn
    rw [List.lookup_cons] at h
    unfold bindL
    cases hx : x == y with
    | true =>
      rw [hx] at h; cases h
      have hxy := beq_iff_eq.mp hx
      subst hxy
      rw [bindL_miss kindOf x r _ fun p hp e => hn.1 (List.mem_map.mpr ⟨p, hp, e⟩), if_pos hk]
      simp
    | false => rw [hx] at h; exact bindL_hit kindOf x hk v r _ hn.2 h
theorem bindC_hit (kindOf : Str → Option NameKind) (x : Str) (hk : ¬ kindOf x = some .local) (v : Value) : ∀ (binds : List (Str × Value)) (m : Str → Option Value), (binds.map (·.1)).Nodup → binds.lookup x = some v → bindC kindOf binds m x = some v
  | [], m, _, h => by cases h
  | (y, u) :: r, m, hn, h => by
    rw [List.map_cons, List.nodup_cons] at hn
    rw [List.lookup_cons] at h
    unfold bindC
    cases hx : x == y with
    | true =>
      rw [hx] at h; cases h
      have hxy := beq_iff_eq.mp hx
      subst hxy
      rw [bindC_miss kindOf x r _ fun p hp e => hn.1 (List.mem_map.mpr ⟨p, hp, e⟩), if_neg hk]
      simp
    | false => rw [hx] at h; exact bindC_hit kindOf x hk v r _ hn.2 h

section
variable {prog : Program} {w : World} {hT : Heap} {n : Nat} {env : Env} {ρ : List (Str × D)} {σ : List (List D)} {mg mb : Str → Option Value}

/-- what a def of the text does -/
structure Fn (prog : Program) (w : World) (hT : Heap) (n : Nat) (f : Addr) (ds : List D) (d : D) : Prop where of ::
  run : ∀ A, Rm A n → ∀ s fz, (∀ a o, fz a = some o → s.heap.get? a = some o) → (∀ a o, hT.get? a = some o → fz a = some o) → ∀ vs, Reps fz [] ds vs → ∀ (Q : Value → Shared → Prop) (E : Value → Shared → Prop),
    (∀ v fz' s', Ext s fz s' fz' → Rep fz' [] d v → Q v s') → wpAny (model prog w) A (call (.ref f) vs) Q E s

theorem Rm.deeper {A : Around} (h : Rm A (n + 1)) (env : Env) : Rm (A.deeper env) n :=
  ⟨h.handled, by have := h.depth; show A.depth + 1 + n < _; omega, by have := h.units; show A.units + 3 + 16 * n + 16 < _; omega⟩

theorem Fn.mk {f : Addr} {o : Obj} {fd : FuncData} {body : List Stmt} {xs : List Str} {ds : List D} {d : D} (hlim : hT.NoLimit) (ho : hT.get? f = some o) (hdata : o.data = .func fd) (hcd : hT.CodeRec fd.code fd.qualname)
    (hbody : fd.body = .stmts body) (hbind : ∀ vs : List Value, vs.length = xs.length → bindArgs fd ⟨vs, []⟩ = pure (xs.zip vs)) (hclo : fd.closure = [])
    (hkind : ∀ N, ∀ x ∈ xs, fd.scope.names.lookup x = some .local ∨ (fd.scope.names.lookup x = some .cell ∧ ((cellsFrom N fd.scope.names []).lookup x).isSome = true)) (hnd : xs.Nodup) (hlen : xs.length = ds.length) (hpd : d.pur = true)
    (h : ∀ L, Ex prog w hT n (callEnvC fd L f) (xs.zip ds) [] body (fun fl _ _ => fl = .ret d))
    (hco : fd.scope.isCoroutine = false := by rfl) (hgen : fd.scope.isGenerator = false := by rfl) (hk : fd.scope.kind = .function := by rfl) : Fn prog w hT (n + 1) f ds d := .of fun A hA s fz hsub htop vs r Q E hQ => by
  have hTs : ∀ b o, hT.get? b = some o → s.heap.get? b = some o := fun b o e => hsub b o (htop b o e)
  have hvl : vs.length = xs.length := r.length.trans hlen.symm
  have hmem : ∀ p ∈ xs.zip vs, p.1 ∈ xs := fun p hp => (List.of_mem_zip (a := p.1) (b := p.2) hp).1
  refine wpAny_call (codeAny_call_cells (by have := hA.depth; omega) (hTs _ _ ho) hdata (hlim.keeps hTs) (hcd.keeps hTs) hbody (hbind vs hvl) hclo (fun p hp => hkind _ p.1 (hmem p hp)) (fun s₁ x => ?_) hco hgen hk)
  have hfresh : ∀ a, s.heap.objs.size ≤ a → fz a = none := fun a ha => by
    cases e : fz a with
    | none => rfl
    | some o' => exact absurd (Heap.lt_size (hsub a o' e)) (Nat.not_lt.mpr ha)
  have hzn : ((xs.zip vs).map (·.1)).Nodup := by rw [List.map_fst_zip (by omega)]; exact hnd
  have S : Sta hT (callEnvC fd s.heap.objs.size f) (xs.zip ds) [] [] fz s₁ := {
    sub := fun b o' e => x.toInCall.keep b o' (hsub b o' e)
    top := htop
    isFn := hk
    ns := ⟨_, x.toInCall.ns⟩
    vars := fun y d' e => by
      obtain ⟨v, hv, rv⟩ := lookup_zip r y d' e
      refine ⟨v, ?_, rv⟩
      have hy : y ∈ xs := hmem (y, v) (mem_of_lookup hv)
      rcases hkind (s.heap.objs.size + 1) y hy with hl | ⟨hl, hc⟩
      · exact .inl ⟨hl, _, x.toInCall.ns, bindL_hit _ y hl v _ _ hzn hv⟩
      · obtain ⟨c, hc⟩ := Option.isSome_iff_exists.mp hc
        refine .inr ⟨.inl hl, c, hc, ?_⟩
        have := x.cell y c hc
        rwa [bindC_hit _ y (by show ¬ fd.scope.names.lookup y = some .local; rw [hl]; decide) v _ _ hzn hv] at this
    len := rfl
    lists := fun k a l e => by simp at e
    sepL := hfresh _ (Nat.le_refl _)
    sepM := fun k a e => by simp at e
    nodup := fun k j a e => by simp at e
    sepC := fun y c e => ⟨⟨_, x.cell y c e⟩, hfresh _ (Nat.le_of_lt (x.above y c (mem_of_lookup e))), Nat.ne_of_gt (x.above y c (mem_of_lookup e)), fun k e' => by simp at e'⟩
    injC := fun y z c e e' => name_of_addr x.apart (mem_of_lookup e) (mem_of_lookup e') }
  refine (h s.heap.objs.size).run _ (hA.deeper _) s₁ [] fz S _ _ fun fl' fl ρ' σ' μ' fz' s' p S' X rf => ?_
  subst p
  obtain ⟨v, rfl, rv⟩ := rf
  refine hQ v fz' s' ⟨?_, X.up, S'.sub, fun a o' e => ?_⟩ (rv.pur hpd)
  · obtain ⟨h1, t1, e1⟩ := x.toInCall.same
    obtain ⟨h2, t2, e2⟩ := X.same
    refine ⟨h2, t2, by rw [e2, e1], fun b o' e => ?_⟩
    have hb := Heap.lt_size e
    have := X.pres b o' (by
      rintro (rfl | ⟨y, hy⟩)
      · exact absurd hb (Nat.lt_irrefl _)
      · exact absurd hb (Nat.not_lt.mpr (Nat.le_of_lt (x.above y b (mem_of_lookup hy))))) (fun k e' => by simp at e') (x.toInCall.keep b o' e)
    rw [e2] at this; exact this
  · rcases X.fresh a o' e with h | h | ⟨k, h⟩
    · exact .inl h
    · refine .inr ?_
      cases e' : s.heap.get? a with
      | none => rfl
      | some o2 => rw [x.toInCall.keep a o2 e'] at h; cases h
    · simp at h

theorem glob_name {M : Model} {A : Around} {s μ fz x v pos} {Q : Value → Shared → Prop} {E : Value → Shared → Prop} (G : GL hT mg mb) (S : Sta hT env ρ σ μ fz s) (hk : env.kindOf x = some .globalImplicit) (hg : env.globals = mainGlobals)
    (hv : mg x = some v) (h : Q v s) (hd : (x == ("__debug__" : Str)) = false) : wpAny M A (eval (.Name x pos) env) Q E s :=
  Calls.Name_function_global S.isFn hk (Calls.loadGlobal_global (hg ▸ G.g.keeps fun b o e => S.sub b o (S.top b o e)) hv h) hd
theorem built_name {M : Model} {A : Around} {s μ fz x v pos} {Q : Value → Shared → Prop} {E : Value → Shared → Prop} (G : GL hT mg mb) (S : Sta hT env ρ σ μ fz s) (hk : env.kindOf x = some .globalImplicit) (hg : env.globals = mainGlobals)
    (hb : env.builtins = builtinsNs) (hm : mg x = none) (hv : mb x = some v) (h : Q v s) (hd : (x == ("__debug__" : Str)) = false) : wpAny M A (eval (.Name x pos) env) Q E s :=
  Calls.Name_function_global S.isFn hk (Calls.loadGlobal_builtin (hg ▸ G.g.keeps fun b o e => S.sub b o (S.top b o e)) hm (hb ▸ G.b.keeps fun b o e => S.sub b o (S.top b o e)) hv h) hd

theorem Ev.glob {x v d pos} (G : GL hT mg mb) (hv : mg x = some v) (hr : Rep hT.get? [] d v) (hp : d.pur = true) (hk : env.kindOf x = some .globalImplicit := by rfl) (hg : env.globals = mainGlobals := by rfl)
    (hd : (x == ("__debug__" : Str)) = false := by decide) : Ev prog w hT n env ρ σ (.Name x pos) d := .of fun A hA s μ fz S Q E hQ =>
  glob_name G S hk hg hv (hQ v fz s (.refl S.sub) ((hr.pur hp).mono0 S.top)) hd

/-- the arguments of a call, evaluated -/
theorem args_run {A : Around} (hA : Rm A n) {s μ fz} (S : Sta hT env ρ σ μ fz s) {f : Value} {e : Expr} {es : List Expr} {ds : List D} (ha : Evs prog w hT n env ρ σ (e :: es) ds) {pos : Pos} {Q : Args → Shared → Prop} {E : Value → Shared → Prop}
    (hns : starEach (e :: es) env = (false, eval e env) :: starEach es env) (hQ : ∀ vs fz' s', Ext s fz s' fz' → Reps fz' μ ds vs → Q ⟨vs, []⟩ s') :
    wpAny (model prog w) A (evalArgs f true (backTo pos (starEach (e :: es) env)) []) Q E s := by
  have hrun := ha.run A hA s μ fz S pos (fun vs s' => Q ⟨vs, []⟩ s') E hQ
  rw [hns] at hrun ⊢
  exact Calls.evalArgs_plain hrun

def noStars (env : Env) (es : List Expr) : Prop := ∀ pos, (backTo pos (starEach es env)).any (·.1) = false

theorem eval_call {x p args pos} : eval (.Call (.Name x p) args [] pos) env = (eval (.Name x p) env >>= fun f => callWith pos f [] (backTo pos (starEach args env)) []) := rfl

theorem Ev.call {x p e es pos ds d fa o fd} {m : Nat} (G : GL hT mg mb) (hv : mg x = some (.ref fa)) (ho : hT.get? fa = some o) (hdat : o.data = .func fd) (ha : Evs prog w hT n env ρ σ (e :: es) ds) (hf : Fn prog w hT m fa ds d) (hm : m ≤ n)
    (hpd : D.purs ds = true) (hd : d.pur = true) (hk : env.kindOf x = some .globalImplicit := by rfl) (hg : env.globals = mainGlobals := by rfl) (hns : starEach (e :: es) env = (false, eval e env) :: starEach es env := by exact starEach_plain rfl)
    (hdb : (x == ("__debug__" : Str)) = false := by decide) : Ev prog w hT n env ρ σ (.Call (.Name x p) (e :: es) [] pos) d := .of fun A hA s μ fz S Q E hQ => by
  rw [eval_call]
  refine wpAny_bind (glob_name G S hk hg hv ?_ hdb)
  refine Calls.callWith_function (o := o) (fd := fd) (args_run hA S ha hns fun vs fz1 s1 X1 r1 => ?_)
  refine ⟨⟨X1.sub _ _ (X1.up _ _ (S.top _ _ ho)), hdat⟩, ?_⟩
  exact hf.run A (hA.le hm) s1 fz1 X1.sub (fun a o' e' => X1.up _ _ (S.top a o' e')) vs (r1.pur hpd) _ _ fun v fz2 s2 X2 r2 => hQ v fz2 s2 (X1.trans X2) (r2.pur hd)
theorem Ev.call0 {x p pos d fa o fd} {m : Nat} (G : GL hT mg mb) (hv : mg x = some (.ref fa)) (ho : hT.get? fa = some o) (hdat : o.data = .func fd) (hf : Fn prog w hT m fa [] d) (hm : m ≤ n)
    (hd : d.pur = true) (hk : env.kindOf x = some .globalImplicit := by rfl) (hg : env.globals = mainGlobals := by rfl)
    (hdb : (x == ("__debug__" : Str)) = false := by decide) : Ev prog w hT n env ρ σ (.Call (.Name x p) [] [] pos) d := .of fun A hA s μ fz S Q E hQ => by
  rw [eval_call]
  refine wpAny_bind (glob_name G S hk hg hv ?_ hdb)
  refine Calls.callWith_function (o := o) (fd := fd) (PySem.evalArgs_none ⟨⟨S.sub _ _ (S.top _ _ ho), hdat⟩, ?_⟩)
  exact hf.run A (hA.le hm) s fz S.sub S.top [] rfl _ _ fun v fz2 s2 X2 r2 => hQ v fz2 s2 X2 (r2.pur hd)

/-- a built-in function -/
theorem Ev.builtin {x p e es pos ds d id} (G : GL hT mg mb) (hm : mg x = none) (hv : mb x = some (.builtin id)) (ha : Evs prog w hT n env ρ σ (e :: es) ds) (hf : OpN prog w hT n env ρ σ (fun vs => PySem.call (.builtin id) vs) ds d)
    (hk : env.kindOf x = some .globalImplicit := by rfl) (hg : env.globals = mainGlobals := by rfl) (hb : env.builtins = builtinsNs := by rfl) (hns : starEach (e :: es) env = (false, eval e env) :: starEach es env := by exact starEach_plain rfl)
    (hst : ∀ pos, (backTo pos (starEach (e :: es) env)).any (·.1) = false := by exact noStar rfl)
    (hdb : (x == ("__debug__" : Str)) = false := by decide) : Ev prog w hT n env ρ σ (.Call (.Name x p) (e :: es) [] pos) d := .of fun A hA s μ fz S Q E hQ => by
  rw [eval_call]
  refine wpAny_bind (built_name G S hk hg hb hm hv ?_ hdb)
  refine Calls.callWith_builtin (hst _) (args_run hA S ha hns fun vs fz1 s1 X1 r1 => ?_)
  exact hf.run A hA s1 μ fz1 (S.ext X1) vs r1 _ _ fun v fz2 s2 X2 r2 => hQ v fz2 s2 (X1.trans X2) r2

theorem OpN.len_list {l : List D} (hsz : l.length ≤ sizeLine) : OpN prog w hT n env ρ σ (fun vs => PySem.call (.builtin "len") vs) [.list l] (.int l.length) := .of fun A hA s μ fz S vs r Q E hQ => by
  obtain ⟨v, vs', rfl, r1, r2⟩ := r
  cases r2
  obtain ⟨a, ws, rfl, q, rs⟩ := r1
  have hl : ws.toArray.size = l.length := by rw [List.size_toArray, rs.length]
  refine Calls.call_len_list (isList_of S.sub q) (by rw [hl]; have : sizeLine = 2 ^ 24 := rfl; omega) (hQ _ fz _ (.keep S.sub (keeps_tok _ _)) ⟨_, by rw [hl]⟩)
theorem OpN.len_str {l : List Nat} (hsz : l.length ≤ sizeLine) : OpN prog w hT n env ρ σ (fun vs => PySem.call (.builtin "len") vs) [.str l] (.int l.length) := .of fun A hA s μ fz S vs r Q E hQ => by
  obtain ⟨v, vs', rfl, r1, r2⟩ := r
  cases r2
  obtain ⟨t, rfl⟩ := r1
  have hl : (⟨l.toArray⟩ : Str).length = l.length := by simp [Str.length]
  refine PyProof.Rows.len_str (by rw [hl]; have : sizeLine = 2 ^ 24 := rfl; omega) (hQ _ fz _ (.keep S.sub (keeps_tok _ _)) ⟨_, by rw [hl]⟩)

theorem EvI.range_of {x p e es pos target ds} {a b c : Int} {k : Nat} (G : GL hT mg mb) (hm : mg x = none) (hv : mb x = some (.type "range")) (ha : Evs prog w hT n env ρ σ (e :: es) ds)
    (hsz : Builtin.Range.rangeSize a b c = k) (hsm : Builtin.Range.small a b c = true)
    (hrun : ∀ A s μ fz, Sta hT env ρ σ μ fz s → ∀ vs, Reps fz μ ds vs → ∀ (Q : Value → Shared → Prop) (E : Value → Shared → Prop), (∀ t u v tk, Q (.ref s.heap.objs.size) { s with heap := s.heap.push { cls := .type "range", data := .fields #[.int a t, .int b u, .int c v] }, toks := tk }) →
      wpAny (model prog w) A (PySem.call (.type "range") vs) Q E s)
    (hk : env.kindOf x = some .globalImplicit := by rfl) (hg : env.globals = mainGlobals := by rfl) (hb : env.builtins = builtinsNs := by rfl) (hns : starEach (e :: es) env = (false, eval e env) :: starEach es env := by exact starEach_plain rfl)
    (hst : ∀ pos, (backTo pos (starEach (e :: es) env)).any (·.1) = false := by exact noStar rfl)
    (hdb : (x == ("__debug__" : Str)) = false := by decide) :
    EvI prog w hT n env ρ σ (.Call (.Name x p) (e :: es) [] pos) target ((List.range k).map fun i : Nat => D.int (a + (i : Int) * c)) := .of fun A hA s μ fz S Q E hQ => by
  rw [eval_call]
  refine wpAny_bind (built_name G S hk hg hb hm hv ?_ hdb)
  refine PySem.callWith_type (hst _) (args_run hA S ha hns fun vs fz1 s1 X1 r1 => ?_)
  refine hrun A s1 μ fz1 (S.ext X1) vs r1 _ _ fun t u v tk => ?_
  let o1 : Obj := { cls := .type "range", data := .fields #[.int a t, .int b u, .int c v] }
  let s2 : Shared := { s1 with heap := s1.heap.push o1, toks := tk }
  have Y2 : Ext s1 fz1 s2 fz1 := .keep X1.sub ⟨_, tk, rfl, fun _ _ e => Heap.get?_push_of_some _ e⟩
  refine wpAny_pyIter_range (s := s2) (t := t) (u := u) (v := v) (Heap.get?_push_size _ rfl) hsm ?_
  rw [hsz]
  let o2 : Obj := { cls := .type "range_iterator", data := .fields #[rawInt a, rawInt (k : Int), rawInt c] }
  have Y3 : Ext s2 fz1 { s2 with heap := s2.heap.push o2 } fz1 := .keep Y2.sub (keeps_push _ _)
  have hI : s2.heap.get? s2.heap.objs.size = none := not_there
  have hlen : ((List.range k).map fun i : Nat => D.int (a + (i : Int) * c)).length = k := by simp
  refine hQ s2.heap.objs.size [s2.heap.objs.size] _ _ fz1 _ ((X1.trans Y2).trans Y3) (hlen.symm ▸ Src.range hA.handled s2.heap.objs.size a c k) ?_ (fun i v d hP hd => ?_)
    (none_before (X1.trans Y2).keeps hI) (fz_none Y2.sub hI) ⟨o2, Heap.get?_push_size _ rfl⟩ (fun b hb hbI => absurd (by simpa using hb) hbI)
  · show IsRangeIter _ _ _ _ _
    have := Heap.get?_push_size s2.heap (o := o2) rfl
    simpa using this
  · obtain ⟨t', rfl⟩ := hP
    rw [List.getElem?_map] at hd
    by_cases hlt : i < k
    · rw [List.getElem?_range hlt] at hd
      simp at hd
      subst hd
      exact ⟨t', rfl⟩
    · rw [List.getElem?_eq_none (by simp; omega)] at hd
      cases hd

theorem EvI.range1 {x p e pos target} {N : Int} (G : GL hT mg mb) (hm : mg x = none) (hv : mb x = some (.type "range")) (he : Ev prog w hT n env ρ σ e (.int N)) (h0 : 0 ≤ N) (h1 : N ≤ 1000000)
    (hk : env.kindOf x = some .globalImplicit := by rfl) (hg : env.globals = mainGlobals := by rfl) (hb : env.builtins = builtinsNs := by rfl) (hns : starEach [e] env = (false, eval e env) :: starEach [] env := by exact starEach_plain rfl)
    (hdb : (x == ("__debug__" : Str)) = false := by decide) :
    EvI prog w hT n env ρ σ (.Call (.Name x p) [e] [] pos) target ((List.range N.toNat).map fun i : Nat => D.int (i : Int)) := by
  have hsz : Builtin.Range.rangeSize 0 N 1 = (N.toNat : Int) := by
    unfold Builtin.Range.rangeSize
    simp
    by_cases h : 0 < N
    · simp [h]; omega
    · simp [h]; omega
  have := EvI.range_of (target := target) (prog := prog) (w := w) (n := n) (ρ := ρ) (σ := σ) (p := p) (pos := pos) (a := 0) (b := N) (c := 1) (k := N.toNat) G hm hv (Evs.cons he Evs.nil hns) hsz (by
      unfold Builtin.Range.small Builtin.Range.rangeFitsLong
      rw [hsz]
      simp
      omega) (fun A s μ fz S vs r Q E hQ => by
      obtain ⟨v, vs', rfl, ⟨t, rfl⟩, r2⟩ := r
      cases r2
      exact call_range_1 (hQ _ _ _ _)) hk hg hb hns (by intro pos; rw [hns]; rfl) hdb
  simpa using this
end
end Mine

-- Rules12
namespace Mine
section
variable {prog : Program} {w : World} {hT : Heap} {n : Nat} {env : Env} {ρ : List (Str × D)} {σ : List (List D)} {mg mb : Str → Option Value}

abbrev dstrs (l : List (List Nat)) : List D := l.map D.str

theorem reps_dstrs {fz : Fz} {μ : List (Option Addr)} : ∀ {l : List (List Nat)} {vs : List Value}, Reps fz μ (dstrs l) vs → ∃ ts : List Tok, ts.length = l.length ∧ vs = (l.zip ts).map fun p => Value.str ⟨p.1.toArray⟩ p.2
  | [], _, r => by cases r; exact ⟨[], rfl, rfl⟩
  | x :: l, _, r => by
    obtain ⟨v, vs', rfl, ⟨t, rfl⟩, r2⟩ := r
    obtain ⟨ts, h1, rfl⟩ := reps_dstrs r2
    exact ⟨t :: ts, by simp [h1], rfl⟩
theorem strs_get {fz : Fz} {μ : List (Option Addr)} {l : List (List Nat)} {vs : List Value} (r : Reps fz μ (dstrs l) vs) (i : Nat) (x : List Nat) (h : l[i]? = some x) : ∃ t, vs[i]? = some (.str ⟨x.toArray⟩ t) := by
  obtain ⟨v, hv, ⟨t, rfl⟩⟩ := r.get (i := i) (d := .str x) (by rw [List.getElem?_map, h]; rfl)
  exact ⟨t, hv⟩

theorem eq_all : ∀ (l m : List (List Nat)), l.length = m.length → ((List.range l.length).all fun j => (l.getD j []) == (m.getD j [])) = (l == m)
  | [], [], _ => rfl
  | x :: l, y :: m, h => by
    have ih := eq_all l m (by simpa using h)
    rw [List.length_cons, List.range_succ_eq_map, List.all_cons, List.all_map]
    show ((x == y) && (List.range l.length).all ((fun j => ((x :: l).getD j []) == ((y :: m).getD j [])) ∘ Nat.succ)) = _
    have : ((fun j => ((x :: l).getD j []) == ((y :: m).getD j [])) ∘ Nat.succ) = fun j => (l.getD j []) == (m.getD j []) := by funext j; simp
    rw [this, ih]
    rfl

theorem Op2.eq_strs {l m : List (List Nat)} : Op2 prog w hT n env ρ σ (compareOp .Eq) (.list (dstrs l)) (.list (dstrs m)) (.bool (l == m)) := .of fun A hA s μ fz S v1 v2 r1 r2 Q E hQ => by
  obtain ⟨a, vs, rfl, ⟨n1, q1⟩, rs1⟩ := r1
  obtain ⟨b, ws, rfl, ⟨n2, q2⟩, rs2⟩ := r2
  have hu : A.units < cLine := by have := hA.units; omega
  have l1 : vs.toArray.size = l.length := by rw [List.size_toArray, rs1.length]; simp
  have l2 : ws.toArray.size = m.length := by rw [List.size_toArray, rs2.length]; simp
  by_cases hl : l.length = m.length
  · refine P.eq_list (S.sub _ _ q1) (S.sub _ _ q2) (e := fun j => (l.getD j []) == (m.getD j [])) (by omega) (fun j h1 h2 => ?_) hu ?_
    · have hj1 : j < l.length := by omega
      have hj2 : j < m.length := by omega
      obtain ⟨t, ht⟩ := strs_get rs1 j l[j] (List.getElem?_eq_getElem hj1)
      obtain ⟨u, hu⟩ := strs_get rs2 j m[j] (List.getElem?_eq_getElem hj2)
      have e1 : vs.toArray[j] = .str ⟨l[j].toArray⟩ t := by
        have : vs.toArray[j]? = some (.str ⟨l[j].toArray⟩ t) := by simpa using ht
        rw [Array.getElem?_eq_getElem h1] at this; injection this
      have e2 : ws.toArray[j] = .str ⟨m[j].toArray⟩ u := by
        have : ws.toArray[j]? = some (.str ⟨m[j].toArray⟩ u) := by simpa using hu
        rw [Array.getElem?_eq_getElem h2] at this; injection this
      rw [e1, e2]
      have := SeqRoads2.EqGives.str (⟨l[j].toArray⟩ : Str) (⟨m[j].toArray⟩ : Str) t u
      have e3 : ((l.getD j []) == (m.getD j [])) = (l[j] == m[j]) := by simp [hj1, hj2]
      show MeetsSeq.EqGives _ _ ((l.getD j []) == (m.getD j []))
      rw [e3]
      simpa using this
    · rw [l1, eq_all l m hl]
      exact hQ _ fz s (.refl S.sub) rfl
  · refine P.eq_list_lengths (S.sub _ _ q1) (S.sub _ _ q2) (by rw [l1, l2]; simpa using hl) hu ?_
    have : (l == m) = false := by
      rw [beq_eq_false_iff_ne]; rintro rfl; exact hl rfl
    exact hQ _ fz s (.refl S.sub) (by rw [this]; rfl)

theorem Op2.ne_strs {l m : List (List Nat)} : Op2 prog w hT n env ρ σ (compareOp .NotEq) (.list (dstrs l)) (.list (dstrs m)) (.bool (!(l == m))) := .of fun A hA s μ fz S v1 v2 r1 r2 Q E hQ => by
  obtain ⟨a, vs, rfl, ⟨n1, q1⟩, rs1⟩ := r1
  obtain ⟨b, ws, rfl, ⟨n2, q2⟩, rs2⟩ := r2
  have hu : A.units < cLine := by have := hA.units; omega
  have l1 : vs.toArray.size = l.length := by rw [List.size_toArray, rs1.length]; simp
  have l2 : ws.toArray.size = m.length := by rw [List.size_toArray, rs2.length]; simp
  by_cases hl : l.length = m.length
  · refine richCompare_meets_room (op := .NotEq) ⟨_, S.sub _ _ q1, rfl⟩ ⟨_, S.sub _ _ q2, rfl⟩ F.slot_list_ne F.entry_list_ne (F.args_list_ne_2 _ _)
      (PySem.SeqAt.list_neAt a b vs.toArray ws.toArray n1 n2 none none #[] #[] (by omega) (fun j => (l.getD j []) == (m.getD j []))) ⟨S.sub _ _ q1, S.sub _ _ q2, fun j h1 h2 => ?_, ?_⟩ hu
    · have hj1 : j < l.length := by omega
      have hj2 : j < m.length := by omega
      obtain ⟨t, ht⟩ := strs_get rs1 j l[j] (List.getElem?_eq_getElem hj1)
      obtain ⟨u, hu⟩ := strs_get rs2 j m[j] (List.getElem?_eq_getElem hj2)
      have e1 : vs.toArray[j] = .str ⟨l[j].toArray⟩ t := by
        have : vs.toArray[j]? = some (.str ⟨l[j].toArray⟩ t) := by simpa using ht
        rw [Array.getElem?_eq_getElem h1] at this; injection this
      have e2 : ws.toArray[j] = .str ⟨m[j].toArray⟩ u := by
        have : ws.toArray[j]? = some (.str ⟨m[j].toArray⟩ u) := by simpa using hu
        rw [Array.getElem?_eq_getElem h2] at this; injection this
      rw [e1, e2]
      have := (SeqRoads2.EqGives.str (⟨l[j].toArray⟩ : Str) (⟨m[j].toArray⟩ : Str) t u).at A.in1 s
      have e3 : ((l.getD j []) == (m.getD j [])) = (l[j] == m[j]) := by simp [hj1, hj2]
      show PySem.SeqAt.EqAt _ _ _ _ ((l.getD j []) == (m.getD j []))
      rw [e3]
      simpa using this
    · rw [l1, eq_all l m hl]
      exact show Value.bool (!(l == m)) ≠ Value.notImplemented ∧ Q (.bool (!(l == m))) s from ⟨(fun x => nomatch x), hQ _ fz s (.refl S.sub) rfl⟩
  · refine richCompare_meets_room (op := .NotEq) ⟨_, S.sub _ _ q1, rfl⟩ ⟨_, S.sub _ _ q2, rfl⟩ F.slot_list_ne F.entry_list_ne (F.args_list_ne_2 _ _)
      (PySem.SeqAt.list_ne_lengthsAt a b vs.toArray ws.toArray n1 n2 none none #[] #[] (by rw [l1, l2]; simpa using hl)) ⟨S.sub _ _ q1, S.sub _ _ q2, ?_⟩ hu
    have : (l == m) = false := by
      rw [beq_eq_false_iff_ne]; rintro rfl; exact hl rfl
    exact show Value.bool true ≠ Value.notImplemented ∧ Q (.bool true) s from ⟨(fun x => nomatch x), hQ _ fz s (.refl S.sub) (by rw [this]; rfl)⟩

/-- a list against the empty one -/
theorem Op2.ne_nil {l : List D} : Op2 prog w hT n env ρ σ (compareOp .NotEq) (.list l) (.list []) (.bool (!l.isEmpty)) := .of fun A hA s μ fz S v1 v2 r1 r2 Q E hQ => by
  obtain ⟨a, vs, rfl, ⟨n1, q1⟩, rs1⟩ := r1
  obtain ⟨b, ws, rfl, ⟨n2, q2⟩, rs2⟩ := r2
  have hu : A.units < cLine := by have := hA.units; omega
  cases rs2
  cases l with
  | nil =>
    cases rs1
    refine richCompare_meets_room (op := .NotEq) ⟨_, S.sub _ _ q1, rfl⟩ ⟨_, S.sub _ _ q2, rfl⟩ F.slot_list_ne F.entry_list_ne (F.args_list_ne_2 _ _)
      (PySem.SeqAt.list_neAt a b _ _ n1 n2 none none #[] #[] rfl (fun j => true)) ⟨S.sub _ _ q1, S.sub _ _ q2, fun j h1 h2 => by simp at h1, ?_⟩ hu
    exact show Value.bool false ≠ Value.notImplemented ∧ Q (.bool false) s from ⟨(fun x => nomatch x), hQ _ fz s (.refl S.sub) rfl⟩
  | cons x l =>
    obtain ⟨v, vs', rfl, r1, r2⟩ := rs1
    refine richCompare_meets_room (op := .NotEq) ⟨_, S.sub _ _ q1, rfl⟩ ⟨_, S.sub _ _ q2, rfl⟩ F.slot_list_ne F.entry_list_ne (F.args_list_ne_2 _ _)
      (PySem.SeqAt.list_ne_lengthsAt a b _ _ n1 n2 none none #[] #[] (by simp)) ⟨S.sub _ _ q1, S.sub _ _ q2, ?_⟩ hu
    exact show Value.bool true ≠ Value.notImplemented ∧ Q (.bool true) s from ⟨(fun x => nomatch x), hQ _ fz s (.refl S.sub) rfl⟩

theorem any_strs {x : List Nat} : ∀ {l : List (List Nat)} {ts : List Tok}, ts.length = l.length →
    (((l.zip ts).map fun p => Value.str ⟨p.1.toArray⟩ p.2).toArray.any fun y => match y with | .str z _ => z.cps.toList == x | _ => false) = l.contains x
  | [], [], _ => by simp
  | z :: l, t :: ts, h => by
    have ih := any_strs (x := x) (l := l) (ts := ts) (by simpa using h)
    simp only [List.zip_cons_cons, List.map_cons, List.any_toArray, List.any_cons, List.contains_cons] at ih ⊢
    rw [ih]
    congr 1
    rw [Bool.eq_iff_iff]; simp; exact eq_comm

theorem in_strs_run {A : Around} {s : Shared} {a : Addr} {vs : List Value} {fz : Fz} {μ : List (Option Addr)} {l : List (List Nat)} {x : List Nat} {t : Tok} (q : s.heap.IsList a vs.toArray) (rs : Reps fz μ (dstrs l) vs) {Q : Value → Shared → Prop} {E : Value → Shared → Prop} :
    (Q (.bool (l.contains x)) s → wpAny (model prog w) A (compareOp .In (.str ⟨x.toArray⟩ t) (.ref a)) Q E s) ∧ (Q (.bool (!l.contains x)) s → wpAny (model prog w) A (compareOp .NotIn (.str ⟨x.toArray⟩ t) (.ref a)) Q E s) := by
  obtain ⟨ts, hl, rfl⟩ := reps_dstrs rs
  have he : ∀ y, y ∈ (((l.zip ts).map fun p => Value.str ⟨p.1.toArray⟩ p.2).toArray) → MeetsSeq.EqGives y (.str ⟨x.toArray⟩ t) ((fun y => match y with | .str z _ => z.cps.toList == x | _ => false) y) := by
    intro y hy
    simp at hy
    obtain ⟨z, u, hz, rfl⟩ := hy
    have := SeqRoads2.EqGives.str (⟨z.toArray⟩ : Str) (⟨x.toArray⟩ : Str) u t
    simpa using this
  constructor
  · intro h
    exact SeqInW.in_listW _ he q (by rw [any_strs hl]; exact h)
  · intro h
    exact SeqInW.notIn_listW _ he q (by rw [any_strs hl]; exact h)

theorem Op2.in_strs {l : List (List Nat)} {x : List Nat} : Op2 prog w hT n env ρ σ (compareOp .In) (.str x) (.list (dstrs l)) (.bool (l.contains x)) := .of fun A hA s μ fz S v1 v2 r1 r2 Q E hQ => by
  obtain ⟨t, rfl⟩ := r1
  obtain ⟨a, vs, rfl, q, rs⟩ := r2
  exact (in_strs_run (isList_of S.sub q) rs).1 (hQ _ fz s (.refl S.sub) rfl)
theorem Op2.notIn_strs {l : List (List Nat)} {x : List Nat} : Op2 prog w hT n env ρ σ (compareOp .NotIn) (.str x) (.list (dstrs l)) (.bool (!l.contains x)) := .of fun A hA s μ fz S v1 v2 r1 r2 Q E hQ => by
  obtain ⟨t, rfl⟩ := r1
  obtain ⟨a, vs, rfl, q, rs⟩ := r2
  exact (in_strs_run (isList_of S.sub q) rs).2 (hQ _ fz s (.refl S.sub) rfl)
theorem Op2.notIn_cell {l : List (List Nat)} {x : List Nat} {k : Nat} (hk : σ[k]? = some (dstrs l)) : Op2 prog w hT n env ρ σ (compareOp .NotIn) (.str x) (.cell k) (.bool (!l.contains x)) := .of fun A hA s μ fz S v1 v2 r1 r2 Q E hQ => by
  obtain ⟨t, rfl⟩ := r1
  obtain ⟨a, rfl, hm⟩ := r2
  obtain ⟨vs, ⟨n', q⟩, rs⟩ := S.lists k a _ hm hk
  exact (in_strs_run ⟨_, q, rfl, n', rfl⟩ rs).2 (hQ _ fz s (.refl S.sub) rfl)
end
end Mine

-- Rules13
namespace Mine

def joinL (sep : List Nat) : List (List Nat) → List Nat
  | [] => []
  | [x] => x
  | x :: y :: r => x ++ sep ++ joinL sep (y :: r)

def mkS (x : List Nat) : Str := ⟨x.toArray⟩
theorem join_mk (sep : List Nat) : ∀ parts : List (List Nat), Str.join (mkS sep) (parts.map mkS) = mkS (joinL sep parts)
  | [] => rfl
  | [x] => rfl
  | x :: y :: r => by
    show mkS x ++ mkS sep ++ Str.join (mkS sep) ((y :: r).map mkS) = _
    rw [join_mk sep (y :: r)]
    show (⟨x.toArray⟩ : Str) ++ (⟨sep.toArray⟩ : Str) ++ (⟨(joinL sep (y :: r)).toArray⟩ : Str) = _
    rw [app_mk, app_mk]; rfl

theorem joinL_length (sep : List Nat) : ∀ parts : List (List Nat), (joinL sep parts).length ≤ (parts.map (·.length)).sum + parts.length * sep.length
  | [] => by simp [joinL]
  | [x] => by simp [joinL]
  | x :: y :: r => by
    have ih := joinL_length sep (y :: r)
    simp only [joinL, List.length_append, List.map_cons, List.sum_cons, List.length_cons] at ih ⊢
    have : (r.length + 1 + 1) * sep.length = (r.length + 1) * sep.length + sep.length := by rw [Nat.succ_mul]
    omega

section
variable {prog : Program} {w : World} {hT : Heap} {n : Nat} {env : Env} {ρ : List (Str × D)} {σ : List (List D)} {mg mb : Str → Option Value}

/-- a method of a text -/
theorem Ev.meth {o : Expr} {name : Str} {apos : Pos} {e : Expr} {es : List Expr} {pos : Pos} {l : List Nat} {ds : List D} {d : D} {id : String} (ho : Ev prog w hT n env ρ σ o (.str l)) (ha : Evs prog w hT n env ρ σ (e :: es) ds)
    (slot : Slot "str" name id) (hty : typeOf (.builtin id) = pure (.type "method_descriptor"))
    (hop : ∀ A, Rm A n → ∀ s μ fz, Sta hT env ρ σ μ fz s → ∀ t vs, Reps fz μ ds vs → ∀ (Q : Value → Shared → Prop) (E : Value → Shared → Prop), (∀ v fz' s', Ext s fz s' fz' → Rep fz' μ d v → Q v s') →
      wpAny (model prog w) A (PySem.call (.builtin id) (.str ⟨l.toArray⟩ t :: vs)) Q E s)
    (hbase : attributeBase o name env (eval o env) = eval o env := by rfl) (hns : starEach (e :: es) env = (false, eval e env) :: starEach es env := by exact starEach_plain rfl)
    (hst : ∀ pos, (backTo pos (starEach (e :: es) env)).any (·.1) = false := by exact noStar rfl)
    (hfew : ((backTo pos (starEach (e :: es) env)).all (fun x => !x.1) && (backToKw pos (keywordEach [] env)).all (fun x => x.1.isSome)
      && decide ((e :: es).length + ([] : List Keyword).length + (if ([] : List Keyword).isEmpty then 0 else 1) < 30)) = true := by rfl)
    (hline : (apos.endLine == pos.line) = true := by rfl) : Ev prog w hT n env ρ σ (.Call (.Attribute o name apos) (e :: es) [] pos) d := .of fun A hA s μ fz S Q E hQ => by
  refine wpAny_Call_method hbase hfew hline F.plainAttrs_str slot hty (ho.run A hA s μ fz S _ _ fun v fz1 s1 X1 r1 => ?_)
  obtain ⟨t, rfl⟩ := r1
  refine ⟨typeIs_str _ _ _, (fun a ha => by cases ha), ?_⟩
  refine Calls.callWith_builtin (hst _) (args_run hA (S.ext X1) ha hns fun vs fz2 s2 X2 r2 => ?_)
  exact hop A hA s2 μ fz2 ((S.ext X1).ext X2) t vs r2 _ _ fun v fz3 s3 X3 r3 => hQ v fz3 s3 ((X1.trans X2).trans X3) r3

theorem Ev.join {o apos e pos sep parts} (ho : Ev prog w hT n env ρ σ o (.str sep)) (ha : Ev prog w hT n env ρ σ e (.list (dstrs parts))) (hsz : (parts.map (·.length)).sum + parts.length * sep.length ≤ sizeLine)
    (hbase : attributeBase o (Str.ofString "join") env (eval o env) = eval o env := by rfl) (hns : starEach [e] env = [(false, eval e env)] := by exact starEach_plain rfl) (hline : (apos.endLine == pos.line) = true := by rfl) :
    Ev prog w hT n env ρ σ (.Call (.Attribute o (Str.ofString "join") apos) [e] [] pos) (.str (joinL sep parts)) := by
  refine Ev.meth ho (Evs.cons ha Evs.nil hns) F.slot_str_join F.type_str_join (fun A hA s μ fz S t vs r Q E hQ => ?_) hbase hns (by intro pos; rw [hns]; rfl) (by rw [hns]; rfl) hline
  obtain ⟨v, vs', rfl, ⟨a, ws, rfl, q, rs⟩, r2⟩ := r
  cases r2
  obtain ⟨ts, hl, rfl⟩ := reps_dstrs rs
  have il := isList_of S.sub q
  have e1 : ((parts.zip ts).map fun p => Value.str ⟨p.1.toArray⟩ p.2) = strValues ((parts.zip ts).map fun p => (mkS p.1, p.2)) := by
    unfold strValues; rw [List.map_map]; rfl
  rw [e1] at il
  have e2 : ((parts.zip ts).map fun p => (mkS p.1, p.2)).map (·.1) = parts.map mkS := by
    rw [List.map_map]
    show (parts.zip ts).map (mkS ∘ Prod.fst) = _
    rw [← List.map_map, List.map_fst_zip (by omega)]
  refine SC.join (x := mkS sep) (texts := parts.map mkS) il e2 ?_ fun t' k => hQ _ fz _ (.keep S.sub (keeps_tok _ _)) ⟨t', ?_⟩
  · unfold JoinOk
    rw [StrLaws.joinTotal]
    have e3 : ((parts.map mkS).map (·.length)) = parts.map (·.length) := by
      rw [List.map_map]; apply List.map_congr_left; intro p _; simp [mkS, Str.length]
    rw [e3, List.length_map]
    have e4 : (mkS sep).length = sep.length := by simp [mkS, Str.length]
    rw [e4]
    unfold Builtin.Str.tooLong
    simpa using hsz
  · show Value.str (Builtin.Str.glued _ _) _ = _
    rw [StrLaws.glued_eq_join, join_mk]; rfl

theorem Ev.index {o apos e pos l c} {i : Nat} {rest : List Nat} (ho : Ev prog w hT n env ρ σ o (.str l)) (ha : Ev prog w hT n env ρ σ e (.str c)) (hocc : Builtin.Str.occurrences (mkS l) (mkS c) 0 (mkS l).length 1 = i :: rest)
    (hbase : attributeBase o (Str.ofString "index") env (eval o env) = eval o env := by rfl) (hns : starEach [e] env = [(false, eval e env)] := by exact starEach_plain rfl) (hline : (apos.endLine == pos.line) = true := by rfl) :
    Ev prog w hT n env ρ σ (.Call (.Attribute o (Str.ofString "index") apos) [e] [] pos) (.int i) := by
  refine Ev.meth ho (Evs.cons ha Evs.nil hns) F.slot_str_index F.type_str_index (fun A hA s μ fz S t vs r Q E hQ => ?_) hbase hns (by intro pos; rw [hns]; rfl) (by rw [hns]; rfl) hline
  obtain ⟨v, vs', rfl, ⟨u, rfl⟩, r2⟩ := r
  cases r2
  exact SC.index (x := mkS l) (y := mkS c) hocc (hQ _ fz _ (.keep S.sub (keeps_tok _ _)) ⟨_, rfl⟩)

theorem reps_of_strs {fz : Fz} {μ : List (Option Addr)} : ∀ (l : List (Str × Tok)) (ps : List (List Nat)), l.map (·.1) = ps.map mkS → Reps fz μ (dstrs ps) (strValues l)
  | [], [], _ => rfl
  | [], _ :: _, h => by simp at h
  | _ :: _, [], h => by simp at h
  | (x, t) :: l, p :: ps, h => by
    simp only [List.map_cons, List.cons.injEq] at h
    exact ⟨.str x t, strValues l, rfl, ⟨t, by rw [h.1]; rfl⟩, reps_of_strs l ps h.2⟩

theorem split_run {A : Around} {s : Shared} {x y : Str} {t u : Tok} {Q : Value → Shared → Prop} {E : Value → Shared → Prop} (hy : (y.length == 0) = false)
    (hq : ∀ (l : List (Str × Tok)) tk, l.map (·.1) = Txt.split x y → Q (.ref s.heap.objs.size) { s with heap := s.heap.push { cls := .type "list", data := .seq (strValues l).toArray }, toks := tk })
    (hsz : x.length ≤ sizeLine) (hsz2 : (Builtin.Str.partsBetween x (Builtin.Str.occurrences x y 0 x.length (x.length + 1)) y.length).length ≤ sizeLine) :
    wpAny (model prog w) A (PySem.call (.builtin "str.split") [.str x t, .str y u]) Q E s := by
  cases h1 : (decide (x.length < y.length) || decide (Builtin.Str.strKind x < Builtin.Str.strKind y)) with
  | true =>
    exact call_meets F.slot_str_split (typeIs_str _ _ _) F.entry_str_split (F.args_str_split_2 _ _) (meets_str_split_cannot_occur x y t u h1) (hq [(x, t)] _ (if_pos h1).symm)
  | false =>
    cases hf : (Builtin.Str.occurrences x y 0 x.length (x.length + 1)).isEmpty with
    | true =>
      exact call_meets F.slot_str_split (typeIs_str _ _ _) F.entry_str_split (F.args_str_split_2 _ _) (meets_str_split_not_found x y t u h1 hy hf) (hq [(x, t)] _ ((if_neg (ne_true_of_eq_false h1)).trans (if_pos hf)).symm)
    | false =>
      refine call_meets F.slot_str_split (typeIs_str _ _ _) F.entry_str_split (F.args_str_split_2 _ _) (meets_str_split_sep x y t u h1 hy hf hsz hsz2) ?_
      have := fun tk => hq (numbered s.toks (Builtin.Str.partsBetween x (Builtin.Str.occurrences x y 0 x.length (x.length + 1)) y.length)) tk ((numbered_texts _ _).trans ((if_neg (ne_true_of_eq_false h1)).trans (if_neg (ne_true_of_eq_false hf))).symm)
      rw [← strsFrom_eq] at this
      exact this _

theorem Ev.split {o apos e pos l c parts} (ho : Ev prog w hT n env ρ σ o (.str l)) (ha : Ev prog w hT n env ρ σ e (.str c)) (hc : c ≠ []) (hsp : Txt.split (mkS l) (mkS c) = parts.map mkS) (hsz : l.length + 2 ≤ sizeLine)
    (hbase : attributeBase o (Str.ofString "split") env (eval o env) = eval o env := by rfl) (hns : starEach [e] env = [(false, eval e env)] := by exact starEach_plain rfl) (hline : (apos.endLine == pos.line) = true := by rfl) :
    Ev prog w hT n env ρ σ (.Call (.Attribute o (Str.ofString "split") apos) [e] [] pos) (.list (dstrs parts)) := by
  refine Ev.meth ho (Evs.cons ha Evs.nil hns) F.slot_str_split F.type_str_split (fun A hA s μ fz S t vs r Q E hQ => ?_) hbase hns (by intro pos; rw [hns]; rfl) (by rw [hns]; rfl) hline
  obtain ⟨v, vs', rfl, ⟨u, rfl⟩, r2⟩ := r
  cases r2
  have hl : (mkS l).length = l.length := by simp [mkS, Str.length]
  refine split_run (x := mkS l) (y := mkS c) (by cases c with | nil => exact absurd rfl hc | cons a b => simp [mkS, Str.length]) (fun l' tk h => ?_) (by rw [hl]; omega) ?_
  · obtain ⟨Y, hy⟩ := new_frozen (o := { cls := .type "list", data := .seq (strValues l').toArray }) S.sub rfl
    have k2 : Keeps { s with heap := s.heap.push { cls := .type "list", data := .seq (strValues l').toArray } } { s with heap := s.heap.push { cls := .type "list", data := .seq (strValues l').toArray }, toks := tk } := keeps_tok _ _
    exact hQ _ _ _ (Y.trans (.keep Y.sub k2)) ⟨_, _, rfl, ⟨0, hy⟩, reps_of_strs l' parts (h.trans hsp)⟩
  · have h1 := StrLaws.occ_length_le (mkS l) (mkS c) 0 (mkS l).length ((mkS l).length + 1)
    unfold Builtin.Str.partsBetween
    simp only [List.length_map, List.length_zip, List.length_cons, List.length_append, List.length_nil]
    rw [hl] at h1 ⊢
    exact Nat.le_trans (Nat.min_le_left _ _) (by omega)

theorem reps_ints {fz : Fz} {μ : List (Option Addr)} : ∀ {l : List Int} {vs : List Value}, Reps fz μ (l.map D.int) vs → ∀ (i : Nat) (v : Value), vs[i]? = some v → ∃ t, v = .int (l.getD i 0) t
  | [], _, r, i, v, h => by cases r; simp at h
  | x :: l, _, r, 0, v, h => by
    obtain ⟨v', vs', rfl, ⟨t, rfl⟩, r2⟩ := r
    simp at h; exact ⟨t, h.symm⟩
  | x :: l, _, r, i + 1, v, h => by
    obtain ⟨v', vs', rfl, ⟨t, rfl⟩, r2⟩ := r
    simpa using reps_ints r2 i v (by simpa using h)
theorem preSum_sum (l : List Int) : ∀ k ≤ l.length, preSum (fun i => l.getD i 0) k = (l.take k).sum
  | 0, _ => rfl
  | k + 1, h => by
    show preSum _ k + l.getD k 0 = _
    have hk : k < l.length := by omega
    rw [preSum_sum l k (by omega), List.take_succ_eq_append_getElem hk, List.sum_append, List.getD, List.getElem?_eq_getElem hk]
    simp

theorem OpN.sum {l : List Int} : OpN prog w hT n env ρ σ (fun vs => PySem.call (.builtin "sum") vs) [.list (l.map D.int)] (.int l.sum) := .of fun A hA s μ fz S vs r Q E hQ => by
  obtain ⟨v, vs', rfl, ⟨a, ws, rfl, q, rs⟩, r2⟩ := r
  cases r2
  have il := isList_of S.sub q
  have hne : a ≠ s.heap.objs.size := by obtain ⟨o, ho, _⟩ := il; exact Nat.ne_of_lt (Heap.lt_size ho)
  refine call_sum_walkG (wpAny_pyIter_list il ⟨s.heap.objs.size, [s.heap.objs.size, a], [s.heap.objs.size], ws.toArray.size, _, _, fun i => l.getD i 0, rfl, Walks.list (A := A.in1) hA.handled s.heap.objs.size a hne ws.toArray, ⟨⟨_, Heap.get?_push_size _ rfl, rfl, rfl⟩, il.push _⟩, ?_, ?_, ?_⟩)
  · intro b hb
    rw [Heap.size_push]
    simp at hb
    rcases hb with rfl | rfl
    · exact Nat.lt_succ_self _
    · obtain ⟨o, ho, _⟩ := il; exact Nat.lt_succ_of_lt (Heap.lt_size ho)
  · intro i v hv
    exact reps_ints rs i v (by simpa using hv)
  · intro h' tk t' hk
    have hl : ws.toArray.size = l.length := by rw [List.size_toArray, rs.length]; simp
    rw [hl, preSum_sum l _ (Nat.le_refl _), List.take_length]
    refine hQ _ fz _ (.keep S.sub ⟨h', tk, rfl, fun b o e => ?_⟩) ⟨t', rfl⟩
    exact hk b o (by simp; exact Nat.ne_of_lt (Heap.lt_size e)) (Heap.get?_push_of_some _ e)
end
end Mine

-- Walk0
namespace Mine

def defAt (i : Nat) : DefRec := match PySem.Challenge.pw_ph0057_01.main.body[i]? with
  | some (.FunctionDef name a b _ _ _ sc _ _ pos) => ⟨name, a, b, sc, pos⟩
  | _ => ⟨"", ⟨[], [], none, [], [], none, []⟩, [], default, default⟩

/-- what the head leaves: a def's object -/
def Def (hT : Heap) (mg : Str → Option Value) (d : DefRec) : Prop :=
  ∃ a o pm code doc, mg d.name = some (.ref a) ∧ hT.get? a = some o ∧ o.data = .func (PySem.Calls.docDef d.name d.params d.body d.scope pm code doc) ∧ hT.CodeRec code d.name

/-- a contract of a def by its name -/
def FnN (prog : Program) (w : World) (hT : Heap) (mg : Str → Option Value) (n : Nat) (x : Str) (ds : List D) (d : D) : Prop :=
  ∃ fa o fd, mg x = some (.ref fa) ∧ hT.get? fa = some o ∧ o.data = .func fd ∧ Fn prog w hT n fa ds d ∧ D.purs ds = true ∧ d.pur = true

section
variable {prog : Program} {w : World} {hT : Heap} {n : Nat} {env : Env} {ρ : List (Str × D)} {σ : List (List D)} {mg mb : Str → Option Value}

theorem FnN.mk {dr : DefRec} {xs : List Str} {ds : List D} {d : D} (G : GL hT mg mb) (hd : Def hT mg dr)
    (hbind : ∀ pm code doc, ∀ vs : List Value, vs.length = xs.length → bindArgs (PySem.Calls.docDef dr.name dr.params dr.body dr.scope pm code doc) ⟨vs, []⟩ = pure (xs.zip vs))
    (hkind : ∀ N, ∀ x ∈ xs, dr.scope.names.lookup x = some .local ∨ (dr.scope.names.lookup x = some .cell ∧ ((cellsFrom N dr.scope.names []).lookup x).isSome = true)) (hnd : xs.Nodup) (hlen : xs.length = ds.length) (hds : D.purs ds = true) (hpd : d.pur = true)
    (h : ∀ pm code doc L f, Ex prog w hT n (callEnvC (PySem.Calls.docDef dr.name dr.params dr.body dr.scope pm code doc) L f) (xs.zip ds) [] dr.body (fun fl _ _ => fl = .ret d))
    (hco : dr.scope.isCoroutine = false := by rfl) (hgen : dr.scope.isGenerator = false := by rfl) (hk : dr.scope.kind = .function := by rfl) : FnN prog w hT mg (n + 1) dr.name ds d := by
  obtain ⟨a, o, pm, code, doc, h1, h2, h3, h4⟩ := hd
  exact ⟨a, o, _, h1, h2, h3, Fn.mk G.nolimit h2 h3 h4 rfl (hbind pm code doc) rfl hkind hnd hlen hpd (h pm code doc · a) hco hgen hk, hds, hpd⟩

theorem Ev.fn {x p e es pos ds d} {m : Nat} (G : GL hT mg mb) (hf : FnN prog w hT mg m x ds d) (ha : Evs prog w hT n env ρ σ (e :: es) ds) (hm : m ≤ n)
    (hk : env.kindOf x = some .globalImplicit := by rfl) (hg : env.globals = mainGlobals := by rfl) (hns : starEach (e :: es) env = (false, eval e env) :: starEach es env := by exact starEach_plain rfl)
    (hdb : (x == ("__debug__" : Str)) = false := by decide) : Ev prog w hT n env ρ σ (.Call (.Name x p) (e :: es) [] pos) d := by
  obtain ⟨fa, o, fd, h1, h2, h3, h4, h5, h6⟩ := hf
  exact Ev.call G h1 h2 h3 ha h4 hm h5 h6 hk hg hns hdb
theorem Ev.fn0 {x p pos d} {m : Nat} (G : GL hT mg mb) (hf : FnN prog w hT mg m x [] d) (hm : m ≤ n)
    (hk : env.kindOf x = some .globalImplicit := by rfl) (hg : env.globals = mainGlobals := by rfl)
    (hdb : (x == ("__debug__" : Str)) = false := by decide) : Ev prog w hT n env ρ σ (.Call (.Name x p) [] [] pos) d := by
  obtain ⟨fa, o, fd, h1, h2, h3, h4, h5, h6⟩ := hf
  exact Ev.call0 G h1 h2 h3 h4 hm h6 hk hg hdb

end
end Mine

-- Rules14
namespace Mine
section
variable {prog : Program} {w : World} {A : Around} {E : Value → Shared → Prop} {s : Shared}

theorem draw_list {it t : Addr} {items : Array Value} (hne : t ≠ it) : ∀ (n i : Nat) (s : Shared) (Q : List Value → Shared → Prop), s.heap.IsListIter it t i → s.heap.IsList t items → i + n ≤ items.size →
    (∀ h', h'.IsListIter it t (i + n) → Heap.SameBut it s.heap h' → Q ((items.toList.drop i).take n) { s with heap := h' }) → wpAny (model prog w) A (draw (.ref it) n) Q E s
  | 0, i, s, Q, hit, _, _, hQ => by
    show wpAny _ _ (pure []) Q E s
    exact wpAny_pure (by simpa using hQ s.heap hit (Heap.SameBut.refl ..))
  | n + 1, i, s, Q, hit, ht, hle, hQ => by
    have hlt : i < items.size := by omega
    show wpAny _ _ (pyNext (.ref it) >>= _) Q E s
    refine wpAny_bind (wpAny_pyNext_list_item hit ht (x := items[i]) (by simp [hlt]) fun h₁ hit₁ hs₁ => ?_)
    refine wpAny_bind (wpAny_holding (draw_list hne n (i + 1) _ _ hit₁ (ht.extBut hs₁.extBut hne) (by omega) fun h₂ hit₂ hs₂ => wpAny_pure ?_))
    have hd : items.toList.drop i = items[i] :: items.toList.drop (i + 1) := by simp [List.drop_eq_getElem_cons, hlt]
    have := hQ h₂ (by rw [show i + (n + 1) = i + 1 + n by omega]; exact hit₂) (hs₁.trans hs₂)
    rw [hd, List.take_succ_cons] at this
    exact this

theorem unpack_list {t : Addr} {items : Array Value} {Q : List Value → Shared → Prop} (hh : A.handled = none) (ht : s.heap.IsList t items)
    (hQ : ∀ h', Heap.ExtBut s.heap.objs.size s.heap h' → Q items.toList { s with heap := h' }) : wpAny (model prog w) A (unpackItems (.ref t) items.size none) Q E s := by
  have hlt : t ≠ s.heap.objs.size := by obtain ⟨o, ho, _⟩ := ht; exact Nat.ne_of_lt (Heap.lt_size ho)
  unfold unpackItems
  refine wpAny_bind ?_
  · unfold notIterableAtAll
    refine wpAny_bind (wpAny_specialOf ht.typeIs slot_list_iter.lookup ?_)
    refine wpAny_pure ?_
    simp only [Bool.false_eq_true, if_false]
    refine wpAny_bind (wpAny_holding (wpAny_pyIter_list ht ?_))
    refine wpAny_bind (wpAny_holding (draw_list hlt items.size 0 _ _ ⟨_, Heap.get?_push_size _ rfl, rfl, rfl⟩ (ht.push _) (by omega) fun h₁ hit₁ hs₁ => ?_))
    have hall : List.take items.size (List.drop 0 items.toList) = items.toList := by
      rw [List.drop_zero]; exact List.take_of_length_le (by simp)
    rw [hall]
    rw [if_neg (by simp)]
    have ht₁ : h₁.IsList t items := (ht.push _).extBut hs₁.extBut hlt
    refine wpAny_bind (wpAny_holding (wpAny_pyNext_list_end hh hit₁ ht₁ (by simp) fun h₂ he₂ => ?_))
    simp only [Option.isSome_none, Bool.false_eq_true, if_false]
    refine wpAny_pure (hQ h₂ fun b o hb e => he₂ b o hb (hs₁.extBut b o hb (Heap.get?_push_of_some _ e)))
end

section
variable {prog : Program} {w : World} {hT : Heap} {n : Nat} {env : Env} {ρ : List (Str × D)} {σ : List (List D)} {mg mb : Str → Option Value}

theorem As.unlist {es k pos ds ρ' xs} (h : AsN env es ds ρ ρ' xs) : As prog w hT n env σ (.Tuple es k pos) (.list ds) ρ ρ' xs := .of fun A hA s μ fz S v r Q E hQ => by
  obtain ⟨a, vs, rfl, q, rs⟩ := r
  have ht : s.heap.IsList a vs.toArray := isList_of S.sub q
  rw [arm_assign_Tuple]
  refine wpAny_bind (wpAny_standAt ?_)
  unfold unpack
  have hn : (assignEach es env).length = vs.toArray.size := by rw [h.len.1, List.size_toArray, rs.length]
  rw [hn, h.len.2]
  refine wpAny_bind (wpAny_holding (unpack_list hA.handled ht fun h' hx => ?_))
  have X := ext_of_extBut S.sub hx
  exact h.run (S.ext X) (by simpa using rs) fun s' S' X' => hQ s' S' (X.grow.trans X')

theorem EvI.range3 {x p e1 e2 e3 pos target} (G : GL hT mg mb) (hm : mg x = none) (hv : mb x = some (.type "range")) (h1 : Ev prog w hT n env ρ σ e1 (.int 1)) (h2 : Ev prog w hT n env ρ σ e2 (.int 10)) (h3 : Ev prog w hT n env ρ σ e3 (.int 3))
    (hk : env.kindOf x = some .globalImplicit := by rfl) (hg : env.globals = mainGlobals := by rfl) (hb : env.builtins = builtinsNs := by rfl) (hns : starEach [e1, e2, e3] env = [(false, eval e1 env), (false, eval e2 env), (false, eval e3 env)] := by exact starEach_three rfl rfl rfl)
    (hs2 : starEach [e2, e3] env = [(false, eval e2 env), (false, eval e3 env)] := by exact starEach_two rfl rfl) (hs3 : starEach [e3] env = [(false, eval e3 env)] := by exact starEach_plain rfl)
    (hdb : (x == ("__debug__" : Str)) = false := by decide) :
    EvI prog w hT n env ρ σ (.Call (.Name x p) [e1, e2, e3] [] pos) target [.int 1, .int 4, .int 7] := by
  exact EvI.range_of (target := target) (prog := prog) (w := w) (n := n) (ρ := ρ) (σ := σ) (p := p) (pos := pos) (a := 1) (b := 10) (c := 3) (k := 3) G hm hv
    (Evs.cons h1 (Evs.cons h2 (Evs.cons h3 Evs.nil hs3) (by rw [hs2, hs3])) (by rw [hns, hs2])) (by decide) (by decide +kernel) (fun A s μ fz S vs r Q E hQ => by
      obtain ⟨v1, vs', rfl, ⟨t, rfl⟩, v2, vs2, rfl, ⟨u, rfl⟩, v3, vs3, rfl, ⟨v, rfl⟩, r2⟩ := r
      cases r2
      exact call_range_3 (by decide) (hQ _ _ _ _)) hk hg hb (by rw [hns, hs2]) (by intro pos; rw [hns]; rfl) hdb

theorem nextOf_tuple_item {A : Around} {E : Value → Shared → Prop} {s : Shared} {it l : Addr} {i : Nat} {items} {x : Value} {Q : Value → Shared → Prop} (hit : s.heap.IsTupleIter it l i)
    (hl : s.heap.IsTuple l items) (hx : items[i]? = some x)
    (hQ : ∀ h', h'.IsTupleIter it l (i + 1) → Heap.SameBut it s.heap h' → Q x { s with heap := h' }) :
    wpAny (model prog w) A (Builtin.SmallTypes.nextOf (.ref it)) Q E s := by
  obtain ⟨o, ho, hc, hd⟩ := id hit
  obtain ⟨ol, hol, _, nl, hdl⟩ := hl
  unfold Builtin.SmallTypes.nextOf
  refine wpAny_bind (wpAny_callSpecial?_slot (name := Str.ofString "__next__") hit.typeIs F.slot_tuple_iterator_next
    (wpAny_call_entry F.slot_tuple_iterator_next hit.typeIs F.entry_tuple_iterator_next ?_ (F.args_tuple_iterator_next_1 _)))
  show wpAny _ _ (field (.ref it) 0 >>= _) _ _ s
  refine wpAny_bind (wpAny_field ho hd (x := .ref l) rfl ?_)
  show wpAny _ _ (if (Value.ref l == Value.none) = true then _ else _) _ _ s
  rw [if_neg (show ¬ ((Value.ref l == Value.none) = true) from Bool.false_ne_true)]
  show wpAny _ _ (field (.ref it) 1 >>= _) _ _ s
  refine wpAny_bind (wpAny_field ho hd (x := .int i 0) rfl ?_)
  show wpAny _ _ (seqItems? (.ref l) >>= _) _ _ s
  refine wpAny_bind (wpAny_seqItems hol hdl ?_)
  simp only [Int.toNat_natCast, hx]
  refine wpAny_bind (wpAny_setField ho hd (by simp) (wpAny_pure ⟨x, rfl, wpAny_pure (hQ _ ?_ (Heap.SameBut.update ..))⟩))
  exact ⟨_, Heap.get?_update_self _ ho (Obj.isFreed_of_fields (Obj.data_mapFields hd _)), (Obj.cls_mapFields ..).trans hc, by
    rw [Obj.data_mapFields hd]; simp [rawInt]⟩

theorem nextOf_tuple_end {A : Around} {E : Value → Shared → Prop} {s : Shared} {it l : Addr} {i : Nat} {items} {Q : Value → Shared → Prop} (hh : A.handled = none)
    (hit : s.heap.IsTupleIter it l i) (hl : s.heap.IsTuple l items) (hx : items[i]? = none)
    (hE : ∀ h' e, Heap.ExtBut it s.heap h' → (∃ o, h'.get? e = some o ∧ o.cls = .type "StopIteration") → E (.ref e) { s with heap := h' }) :
    wpAny (model prog w) A (Builtin.SmallTypes.nextOf (.ref it)) Q E s := by
  obtain ⟨o, ho, hc, hd⟩ := id hit
  obtain ⟨ol, hol, _, nl, hdl⟩ := hl
  unfold Builtin.SmallTypes.nextOf
  refine wpAny_bind (wpAny_callSpecial?_slot (name := Str.ofString "__next__") hit.typeIs F.slot_tuple_iterator_next
    (wpAny_call_entry F.slot_tuple_iterator_next hit.typeIs F.entry_tuple_iterator_next ?_ (F.args_tuple_iterator_next_1 _)))
  show wpAny _ _ (field (.ref it) 0 >>= _) _ _ s
  refine wpAny_bind (wpAny_field ho hd (x := .ref l) rfl ?_)
  show wpAny _ _ (if (Value.ref l == Value.none) = true then _ else _) _ _ s
  rw [if_neg (show ¬ ((Value.ref l == Value.none) = true) from Bool.false_ne_true)]
  show wpAny _ _ (field (.ref it) 1 >>= _) _ _ s
  refine wpAny_bind (wpAny_field ho hd (x := .int i 0) rfl ?_)
  show wpAny _ _ (seqItems? (.ref l) >>= _) _ _ s
  refine wpAny_bind (wpAny_seqItems hol hdl ?_)
  simp only [Int.toNat_natCast, hx]
  refine wpAny_bind (wpAny_rule (wpAny_bind (wpAny_setField ho hd (by simp) ?_)))
  show wpAny _ _ (newExc (.type "StopIteration") [] >>= _) _ _ _
  refine wpAny_bind ?_
  simp only [newExc, newTuple]
  refine wpAny_bind (wpAny_newObj_type ?_ (by size_fits))
  refine wpAny_bind (m := firstArgMember _ _) (wpAny_of_eq (a := Value.none) (by first | rfl | (simp only [firstArgMember]; rfl)) ?_)
  refine wpAny_newObj_type ?_ (by size_fits)
  simp only [raiseNew]
  refine wpAny_bind (wpAny_handled ?_)
  first | rw [show A.in1.handled = none from hh] | rw [hh]
  refine wpAny_bind (wpAny_pure (wpAny_throw ?_))
  exact hE _ _ (((Heap.SameBut.update ..).extBut.push _).push _) ⟨_, Heap.get?_push_size _ rfl, rfl⟩

theorem draws_tuple {A : Around} (hh : A.handled = none) (it l : Addr) (hne : l ≠ it) (items : Array Value) :
    Draws prog w A it [it, l] items.size (fun i v => items[i]? = some v) (fun i h => h.IsTupleIter it l i ∧ h.IsTuple l items) where
  live := fun _ _ st => let ⟨o, ho, _⟩ := st.1; ⟨o, ho⟩
  frame := fun _ _ _ st hk => ⟨(let ⟨o, ho, r⟩ := st.1; ⟨o, hk it (by simp) o ho, r⟩), (let ⟨o, ho, r⟩ := st.2; ⟨o, hk l (by simp) o ho, r⟩)⟩
  item := fun i s Q E hi st hQ => by
    refine nextOf_tuple_item st.1 st.2 (x := items[i]) (by simp [hi]) fun h' hit' hs' => ?_
    exact hQ _ h' s.toks (by simp [hi]) ⟨hit', st.2.extBut hs'.extBut hne⟩ hs'
  done := fun s Q E st hE => nextOf_tuple_end hh st.1 st.2 (by simp) hE

open AutoSeq1 (wpAny_loadPart') in
theorem meets_enum_newT (l : Addr) (items : Array Value) (n : Nat) (dct : Option Addr) (sl : Array (Option Value)) :
    Meets (Builtin.«enumerate.__new__» ⟨[.type "enumerate", .ref l], []⟩) (fun _ R s => s.heap.get? l = some { cls := .type "tuple", dict := dct, data := .seq items n, slots := sl } ∧
      R (.ok (.ret (.ref (s.heap.push { cls := .type "tuple_iterator", data := .fields #[.ref l, .int 0 0] }).objs.size)))
        { s with heap := (s.heap.push { cls := .type "tuple_iterator", data := .fields #[.ref l, .int 0 0] }).push { cls := .type "enumerate", data := .fields #[.none, .bool false, .ref s.heap.objs.size, rawInt 0, .none, .none] } }) :=
  .of_wp fun prog w A R s h => by
    obtain ⟨hp, g, d, tk, os⟩ := s; obtain ⟨hl, h⟩ := h
    have hsub := sub_enumerate
    have hL : Heap.IsTuple (Shared.heap ⟨hp, g, d, tk, os⟩) l items := ⟨_, hl, rfl, n, rfl⟩
    wp_walk using wpAny_loadPart' hl
    refine wpAny_stack_any fun st => wpAny_pure ?_
    split
    · rename_i c _ _ _ _ _
      cases (c == Value.type "enumerate")
      · wp_walk using wpAny_loadPart' hl, wpAny_pyIter_tuple hL
        exact ⟨_, rfl, h⟩
      · wp_walk using wpAny_loadPart' hl, wpAny_pyIter_tuple hL
        exact ⟨_, rfl, h⟩
    · wp_walk using wpAny_loadPart' hl, wpAny_pyIter_tuple hL
      exact ⟨_, rfl, h⟩

theorem call_enum_tuple {A : Around} {E : Value → Shared → Prop} {s : Shared} {l : Addr} {items : Array Value} {Q : Value → Shared → Prop} (hL : s.heap.IsTuple l items)
    (h : ∀ h', IsEnum h' (s.heap.objs.size + 1) s.heap.objs.size 0 .none → h'.IsTupleIter s.heap.objs.size l 0 → h'.objs.size = s.heap.objs.size + 2 →
      (∀ b o, s.heap.get? b = some o → h'.get? b = some o) → Q (.ref (s.heap.objs.size + 1)) { s with heap := h' }) :
    wpAny (model prog w) A (PySem.call (.type "enumerate") [.ref l]) Q E s := by
  obtain ⟨⟨c, dct, dt, sl⟩, hl, hc, n, hd⟩ := hL
  replace hc : c = .type "tuple" := hc
  replace hd : dt = .seq items n := hd
  subst hc hd
  refine callType_new F.called_enumerate (by decide) (F.typeCall_enumerate_1 _) (F.newCall_enumerate_1 _) (fun obj => F.args_object_init_2 obj _) F.entry_enumerate_new
    (meets_enum_newT l items n dct sl) ⟨hl, ?_⟩
  have hz : (s.heap.push { cls := .type "tuple_iterator", data := .fields #[.ref l, .int 0 0] }).objs.size = s.heap.objs.size + 1 := Heap.size_push ..
  show _ ∧ _
  rw [hz]
  have he : IsEnum ((s.heap.push { cls := .type "tuple_iterator", data := .fields #[.ref l, .int 0 0] }).push
      { cls := .type "enumerate", data := .fields #[.none, .bool false, .ref s.heap.objs.size, rawInt 0, .none, .none] }) (s.heap.objs.size + 1) s.heap.objs.size 0 .none := by
    have := Heap.get?_push_size (s.heap.push { cls := .type "tuple_iterator", data := .fields #[.ref l, .int 0 0] })
      (o := { cls := .type "enumerate", data := .fields #[.none, .bool false, .ref s.heap.objs.size, rawInt 0, .none, .none] }) rfl
    rw [hz] at this; exact this
  refine ⟨⟨_, he, rfl⟩, h _ he ⟨_, Heap.get?_push_of_some _ (Heap.get?_push_size _ rfl), rfl, rfl⟩ (by rw [Heap.size_push, hz]) fun b o x => Heap.get?_push_of_some _ (Heap.get?_push_of_some _ x)⟩
/-- the loop over a numbered tuple -/
theorem Ex1.for_enum {x p arg pos0 xi pi xv pv x1 pt body orelse pos ds} {Post : PostT} (Inv : Nat → List (Str × D) → List (List D) → Prop) (G : GL hT mg mb) (hm : mg x = none) (hv : mb x = some (.type "enumerate"))
    (hi : Ev prog w hT n env ρ σ arg (.tup ds)) (hpur : D.purs ds = true) (hxi : storable env xi) (hxv : storable env xv) (h0 : Inv 0 ρ σ)
    (hstep : ∀ i d ρ₁ σ₁, ds[i]? = some d → Inv i ρ₁ σ₁ → Ex prog w hT n env (upd (upd ρ₁ xi (.int i)) xv d) σ₁ body (fun fl ρ' σ' => match fl with
      | .next => Inv (i + 1) ρ' σ'
      | .brk => Post .next ρ' σ'
      | .ret v => Post (.ret v) ρ' σ'))
    (hend : ∀ ρ₁ σ₁, Inv ds.length ρ₁ σ₁ → Ex prog w hT n env ρ₁ σ₁ orelse Post)
    (hs : ∀ y, foldedSetIterable (.Call (.Name x p) [arg] [] pos0) env y = pure y := by intro _; rfl)
    (hk : env.kindOf x = some .globalImplicit := by rfl) (hg : env.globals = mainGlobals := by rfl) (hb : env.builtins = builtinsNs := by rfl) (hns : starEach [arg] env = [(false, eval arg env)] := by exact starEach_plain rfl)
    (hdb : (x == ("__debug__" : Str)) = false := by decide) :
    Ex1 prog w hT n env ρ σ (.For (.Tuple [.Name xi pi, .Name xv pv] x1 pt) (.Call (.Name x p) [arg] [] pos0) body orelse pos) Post := .of fun A hA s μ fz S Q E hQ => by
  refine wpAny_For ?_ hs
  rw [eval_call]
  refine wpAny_bind (built_name G S hk hg hb hm hv ?_ hdb)
  refine PySem.callWith_type (by rw [hns]; rfl) (args_run hA S (Evs.cons hi Evs.nil hns) hns fun vs fz1 s1 X1 r1 => ?_)
  obtain ⟨v, vs', rfl, ⟨a, ws, rfl, q, rs⟩, r2⟩ := r1
  cases r2
  have ht1 : s1.heap.IsTuple a ws.toArray := by obtain ⟨n', e⟩ := q; exact ⟨_, X1.sub _ _ e, rfl, n', rfl⟩
  have halt : a < s1.heap.objs.size := by obtain ⟨o, ho, _⟩ := ht1; exact Heap.lt_size ho
  refine call_enum_tuple ht1 fun h2 he2 hit2 hz2 hk2 => ?_
  refine wpAny_pyIter_enum (s := { s1 with heap := h2 }) he2 ?_
  let s2 : Shared := { s1 with heap := h2 }
  have Y2 : Ext s1 fz1 s2 fz1 := .keep X1.sub ⟨h2, s1.toks, rfl, hk2⟩
  have X2 := X1.trans Y2
  let e : Addr := s1.heap.objs.size + 1
  let it : Addr := s1.heap.objs.size
  have hnit : s.heap.get? it = none := none_before X1.keeps not_there
  have hne0 : s.heap.get? e = none := none_before X1.keeps (by
    cases q : s1.heap.get? e with
    | none => rfl
    | some o => exact absurd (Heap.lt_size q) (Nat.not_lt.mpr (Nat.le_succ _)))
  have hlen : ws.toArray.size = ds.length := by rw [List.size_toArray, rs.length]
  have hei : e ≠ it := Nat.succ_ne_self _
  have hai : a ≠ it := Nat.ne_of_lt halt
  have hae : a ≠ e := Nat.ne_of_lt (Nat.lt_succ_of_lt halt)
  have W := WalksT.enumerateD (prog := prog) (w := w) (A := A) (draws_tuple (A := A.in1) hA.handled it a hai ws.toArray) e hei (by simp; exact ⟨hei, Ne.symm hae⟩) (by simp)
  have oit : Off env μ fz1 s2 it := Off.of_new S hnit (fz_none X1.sub not_there) (let ⟨o, ho, _⟩ := hit2; ⟨o, ho⟩)
  have oe : Off env μ fz1 s2 e := Off.of_new S hne0 (fz_none X1.sub (by
    cases q : s1.heap.get? e with
    | none => rfl
    | some o => exact absurd (Heap.lt_size q) (Nat.not_lt.mpr (Nat.le_succ _)))) ⟨_, he2⟩
  refine codeAny_forLoop_any (fun k s' => ∃ i ρ₁ σ₁ μ₁ fz₁, k = ds.length + 1 - i ∧ i ≤ ds.length ∧ Inv i ρ₁ σ₁ ∧ Sta hT env ρ₁ σ₁ μ₁ fz₁ s' ∧ Step (WF env) s μ fz s' μ₁ fz₁ ∧ (∀ a o, fz1 a = some o → fz₁ a = some o) ∧
    ((∃ old, IsEnum s'.heap e it ((i : Nat) : Int) old) ∧ s'.heap.IsTupleIter it a i ∧ s'.heap.IsTuple a ws.toArray) ∧ Off env μ₁ fz₁ s' e ∧ Off env μ₁ fz₁ s' it) ?_ (ds.length + 1)
      ⟨0, ρ, σ, μ, fz1, rfl, Nat.zero_le _, h0, S.ext X2, X2.step, fun _ _ e => e, ⟨⟨_, by simpa using he2⟩, hit2, (let ⟨o, ho, r⟩ := ht1; ⟨o, hk2 _ _ ho, r⟩)⟩, oe, oit⟩
  rintro k s' ⟨i, ρ₁, σ₁, μ₁, fz₁, rfl, hile, hinv, S1, X1', hup, hst1, hoe, hoi⟩
  have keepBoth : ∀ {h' tk}, (∀ b o, b ∉ [e, it] → s'.heap.get? b = some o → h'.get? b = some o) → Sta hT env ρ₁ σ₁ μ₁ fz₁ { s' with heap := h', toks := tk } := fun {h' tk} hk' => {
    sub := fun b o q' => hk' b o (by
      simp only [List.mem_cons, List.not_mem_nil, or_false, not_or]
      exact ⟨(by rintro rfl; rw [hoe.fz] at q'; cases q'), (by rintro rfl; rw [hoi.fz] at q'; cases q')⟩) (S1.sub b o q')
    top := S1.top
    isFn := S1.isFn
    ns := let ⟨m, hh⟩ := S1.ns; ⟨m, hh.at' fun o e' => hk' _ o (by simp; exact ⟨hoe.loc, hoi.loc⟩) e'⟩
    vars := fun y d' e' => by
      obtain ⟨v, L, r⟩ := S1.vars y d' e'
      refine ⟨v, ?_, r⟩
      rcases L with ⟨h1, m, h2, h3⟩ | ⟨h1, c, h2, o, h3, h4⟩
      · exact .inl ⟨h1, m, h2.at' fun o e' => hk' _ o (by simp; exact ⟨hoe.loc, hoi.loc⟩) e', h3⟩
      · exact .inr ⟨h1, c, h2, o, hk' c o (by simp; exact ⟨hoe.cell y c h2, hoi.cell y c h2⟩) h3, h4⟩
    len := S1.len
    lists := fun k b l e1 e2 => by
      obtain ⟨vs, ⟨n', q⟩, r⟩ := S1.lists k b l e1 e2
      exact ⟨vs, ⟨n', hk' b _ (by simp; exact ⟨(by rintro rfl; exact hoe.mu k e1), (by rintro rfl; exact hoi.mu k e1)⟩) q⟩, r⟩
    sepL := S1.sepL
    sepM := S1.sepM
    nodup := S1.nodup
    sepC := fun y c e' => by
      obtain ⟨⟨v, o, h1, h2⟩, h3⟩ := S1.sepC y c e'
      exact ⟨⟨v, o, hk' c o (by simp; exact ⟨hoe.cell y c e', hoi.cell y c e'⟩) h1, h2⟩, h3⟩
    injC := S1.injC }
  have stepBoth : ∀ {h' tk}, (∀ b o, b ∉ [e, it] → s'.heap.get? b = some o → h'.get? b = some o) → Step (WF env) s μ fz { s' with heap := h', toks := tk } μ₁ fz₁ := fun {h' tk} hk' => {
    same := by obtain ⟨hh, t, rfl⟩ := X1'.same; exact ⟨h', tk, rfl⟩
    pres := fun b o hw hm' e' => hk' b o (by simp; exact ⟨(by rintro rfl; rw [hne0] at e'; cases e'), (by rintro rfl; rw [hnit] at e'; cases e')⟩) (X1'.pres b o hw hm' e')
    alive := fun b o e' => let ⟨o', e2⟩ := X1'.alive b o e'; ⟨o', hk' b o' (by simp; exact ⟨(by rintro rfl; rw [hne0] at e'; cases e'), (by rintro rfl; rw [hnit] at e'; cases e')⟩) e2⟩
    up := X1'.up
    fresh := X1'.fresh
    mu := X1'.mu }
  by_cases hlt : i < ds.length
  · refine W.item i s' _ _ (by rw [hlen]; exact hlt) hst1 fun T vals h' tk hP hT' htup hmid hkk => ?_
    obtain ⟨t, y, hy, rfl⟩ := hP
    have hTs : s'.heap.get? T = none := by
      cases q' : s'.heap.get? T with
      | none => rfl
      | some o => exact absurd (Heap.lt_size q') (Nat.not_lt.mpr hT')
    have S2 := keepBoth (tk := tk) hkk
    have X2' := stepBoth (tk := tk) hkk
    have hd : ds[i]? = some ds[i] := List.getElem?_eq_getElem hlt
    have hdp : (ds[i]).pur = true := purs_iff.mp hpur _ (List.getElem_mem hlt)
    obtain ⟨y', hy', ry⟩ := rs.get hd
    have : y = y' := by simpa [hy'] using hy.symm
    subst this
    have r : Rep fz₁ μ₁ ds[i] y := (ry.mono0 hup).pur hdp
    refine W.go _ _ _ i T _ _ _ hmid fun h3 hst3 hk3 => ?_
    have hk3' : ∀ b o, b ∉ [e, it] → s'.heap.get? b = some o → h3.get? b = some o := fun b o hb e' => hk3 b o hb (hkk b o hb e')
    have S3 := keepBoth (tk := tk) hk3'
    have X3 := stepBoth (tk := tk) hk3'
    have htT : h3.IsTuple T #[.int i t, y] := by
      obtain ⟨o, ho, hr⟩ := htup
      exact ⟨o, hk3 T o (W.apart _ _ _ hmid) ho, hr⟩
    refine wpAny_assign_Tuple hA.handled (s := { s' with heap := h3, toks := tk }) htT rfl rfl fun h4 hx4 => ?_
    have Y4 := ext_of_extBut (s := { s' with heap := h3, toks := tk }) S3.sub hx4
    have S4 := S3.ext Y4
    have hN : AsN env [.Name xi pi, .Name xv pv] [.int i, ds[i]] ρ₁ (upd (upd ρ₁ xi (.int i)) xv ds[i]) [xi, xv] := .cons hxi (.cons hxv (.nil _))
    refine hN.run S4 (vs := [.int i t, y]) ⟨_, _, rfl, ⟨t, rfl⟩, _, _, rfl, r, rfl⟩ fun s5 S5 G5 => ?_
    have X5 := G5.step (W' := WF env) fun a ⟨x, _, h⟩ => .inl h.wf
    have X35 := (Y4.step (W := WF env) (μ := μ₁)).trans X5
    have oe3 : Off env μ₁ fz₁ { s' with heap := h3, toks := tk } e := ⟨hoe.fz, hoe.loc, hoe.mu, hoe.cell, let ⟨_, q⟩ := hst3.1; ⟨_, q⟩⟩
    have oi3 : Off env μ₁ fz₁ { s' with heap := h3, toks := tk } it := ⟨hoi.fz, hoi.loc, hoi.mu, hoi.cell, let ⟨o, q, _⟩ := hst3.2.1; ⟨o, q⟩⟩
    refine (hstep i ds[i] ρ₁ σ₁ hd hinv).run A hA s5 μ₁ fz₁ S5 _ _ fun f fl ρ' σ' μ' fz' s6 p6 S6 X6 rf => ?_
    have X36 := X35.trans X6
    have X7 := X3.trans X36
    cases fl with
    | next =>
      cases rf
      refine ⟨ds.length + 1 - (i + 1), by omega, i + 1, ρ', σ', μ', fz', rfl, hlt, p6, S6, X7, fun a o e => X36.up a o (hup a o e), ?_, oe3.step X36, oi3.step X36⟩
      refine W.frame (i + 1) _ _ hst3 fun b hb o e' => ?_
      simp only [List.mem_cons, List.not_mem_nil, or_false] at hb
      rcases hb with rfl | rfl | rfl
      · exact oe3.same X36 o e'
      · exact oi3.same X36 o e'
      · obtain ⟨n', q'⟩ := q
        have e1 := S3.sub _ _ (hup _ _ q')
        have e2 := S6.sub _ _ (X36.up _ _ (hup _ _ q'))
        rw [e1] at e'
        injection e' with e'
        rw [← e']; exact e2
    | brk => cases rf; exact hQ _ .next ρ' σ' μ' fz' s6 p6 S6 X7 rfl
    | ret d => obtain ⟨v', rfl, rv⟩ := rf; exact hQ _ (.ret d) ρ' σ' μ' fz' s6 p6 S6 X7 ⟨v', rfl, rv⟩
  · have hi' : i = ds.length := by omega
    subst hi'
    refine W.done s' _ _ (by rw [hlen]; exact hst1) fun h' tk hkk => ?_
    exact (hend ρ₁ σ₁ hinv).run A hA _ μ₁ fz₁ (keepBoth hkk) _ _ fun f fl ρ' σ' μ' fz' s4 p S4 X4 rf => hQ f fl ρ' σ' μ' fz' s4 p S4 ((stepBoth hkk).trans X4) rf
end
end Mine

-- Rules15
namespace Mine
section
variable {prog : Program} {w : World} {hT : Heap} {n : Nat} {env : Env} {ρ : List (Str × D)} {σ : List (List D)} {mg mb : Str → Option Value}

theorem fm_step {ds : List D} {g : D → Option D} {i : Nat} {d : D} (h : ds[i]? = some d) : (ds.take (i + 1)).filterMap g = (ds.take i).filterMap g ++ (g d).toList := by
  obtain ⟨hi, rfl⟩ := List.getElem?_eq_some_iff.mp h
  rw [List.take_succ_eq_append_getElem hi, List.filterMap_append]
  cases hg : g ds[i] <;> simp [hg]

/-- a comprehension of one clause, as a plain filterMap -/
theorem EvL.fm {elt target iter : Expr} {ifs : List Expr} {scope : Scope} {cpos : Pos} {cl : List (Str × Addr)} {ds : List D} {ρc : List (Str × D)} (g : D → Option D)
    (hI : EvX prog w hT n env ρ σ iter target ds) (ok : CompOk scope cl env) (hρc : AllV (Sees scope cl env ρ) ρc) (hsz : ds.length ≤ sizeLine)
    (hstep : ∀ C l d, d ∈ ds → ∃ ρ₂ xs b, As prog w hT n (cEnv scope cl C env) (σ ++ [l]) target d ρc ρ₂ xs ∧ (∀ x ∈ xs, cl.lookup x = none) ∧ (∀ x d, ρc.lookup x = some d → ρ₂.lookup x = some d) ∧
      EvIf prog w hT n (cEnv scope cl C env) ρ₂ (σ ++ [l]) ifs b ∧ (b = false → g d = none) ∧
      (b = true → ∃ e, Ev prog w hT n (cEnv scope cl C env) ρ₂ (σ ++ [l]) elt e ∧ g d = some e))
    (hav : D.hass σ.length (ds.filterMap g) = false) (hs : ∀ x, foldedSetIterable iter env x = pure x := by intro _; rfl) :
    EvL prog w hT n env ρ σ elt [⟨target, iter, ifs, 0⟩] scope cpos (.list (ds.filterMap g)) := by
  have := EvL.mk (elt := elt) (cpos := cpos) (f := fun i => (ds.take i).filterMap g) hI ok hρc (by simp) (fun C i d hd => by
    obtain ⟨ρ₂, xs, b, h1, h2, h3, h4, h5, h6⟩ := hstep C ((ds.take i).filterMap g) d (List.mem_of_getElem? hd)
    refine ⟨ρ₂, xs, b, h1, h2, h3, h4, fun hb => ?_, fun hb => ?_⟩
    · rw [fm_step hd, h5 hb]; simp
    · obtain ⟨e, h7, h8⟩ := h6 hb
      refine ⟨e, h7, ?_, ?_⟩
      · have h9 := List.length_filterMap_le g (ds.take i)
        have h10 : (ds.take i).length ≤ ds.length := by rw [List.length_take]; exact Nat.min_le_right _ _
        omega
      · rw [fm_step hd, h8]; rfl) (by simpa using hav) hs
  simpa using this

theorem EvL.map {elt target iter : Expr} {scope : Scope} {cpos : Pos} {cl : List (Str × Addr)} {ds : List D} {ρc : List (Str × D)} (g : D → D)
    (hI : EvX prog w hT n env ρ σ iter target ds) (ok : CompOk scope cl env) (hρc : AllV (Sees scope cl env ρ) ρc) (hsz : ds.length ≤ sizeLine)
    (hstep : ∀ C l d, d ∈ ds → ∃ ρ₂ xs, As prog w hT n (cEnv scope cl C env) (σ ++ [l]) target d ρc ρ₂ xs ∧ (∀ x ∈ xs, cl.lookup x = none) ∧ (∀ x d, ρc.lookup x = some d → ρ₂.lookup x = some d) ∧
      Ev prog w hT n (cEnv scope cl C env) ρ₂ (σ ++ [l]) elt (g d))
    (hav : D.hass σ.length (ds.map g) = false) (hs : ∀ x, foldedSetIterable iter env x = pure x := by intro _; rfl) :
    EvL prog w hT n env ρ σ elt [⟨target, iter, [], 0⟩] scope cpos (.list (ds.map g)) := by
  have := EvL.fm (elt := elt) (cpos := cpos) (ifs := []) (fun d => some (g d)) hI ok hρc hsz (fun C l d hd => by
    obtain ⟨ρ₂, xs, h1, h2, h3, h4⟩ := hstep C l d hd
    exact ⟨ρ₂, xs, true, h1, h2, h3, .nil, (fun h => by cases h), fun _ => ⟨_, h4, rfl⟩⟩) (by simpa using hav) hs
  simpa using this

/-- what is known of the names -/
def Knows (ρ ρ' : List (Str × D)) : Prop := AllV (fun x d => ρ.lookup x = some d) ρ'
theorem Knows.get {ρ ρ' : List (Str × D)} (h : Knows ρ ρ') : ∀ x d, ρ'.lookup x = some d → ρ.lookup x = some d := AllV.get h
theorem Knows.self {ρ ρ' : List (Str × D)} (h : ∀ x d, ρ'.lookup x = some d → ρ.lookup x = some d) (x : Str) (d : D) : ρ'.lookup x = some d → ρ.lookup x = some d := h x d
theorem upd_get {ρ ρ' : List (Str × D)} (h : ∀ x d, ρ'.lookup x = some d → ρ.lookup x = some d) (y : Str) (e : D) : ∀ x d, (upd ρ' y e).lookup x = some d → (upd ρ y e).lookup x = some d := fun x d hx => by
  rw [lookup_upd] at hx ⊢
  by_cases hxy : x = y
  · rw [if_pos hxy] at hx ⊢; exact hx
  · rw [if_neg hxy] at hx ⊢; exact h x d hx

/-- the loop with its state given turn by turn -/
theorem Ex1.forK {target iter body orelse pos ds} {Post : PostT} (I : Nat → List (Str × D)) (J : Nat → List (List D)) (hi : EvI prog w hT n env ρ σ iter target ds) (hpur : D.purs ds = true)
    (h0 : Knows ρ (I 0)) (hσ : σ = J 0)
    (hstep : ∀ i d, ds[i]? = some d → ∃ ρ₂ xs, As prog w hT n env (J i) target d (I i) ρ₂ xs ∧ Ex prog w hT n env ρ₂ (J i) body (fun fl ρ' σ' => match fl with
      | .next => Knows ρ' (I (i + 1)) ∧ σ' = J (i + 1)
      | .brk => Post .next ρ' σ'
      | .ret v => Post (.ret v) ρ' σ'))
    (hend : Ex prog w hT n env (I ds.length) (J ds.length) orelse Post)
    (hs : ∀ x, foldedSetIterable iter env x = pure x := by intro _; rfl) : Ex1 prog w hT n env ρ σ (.For target iter body orelse pos) Post := by
  refine Ex1.for_ (fun i ρ₁ σ₁ => Knows ρ₁ (I i) ∧ σ₁ = J i) hi hpur ⟨h0, hσ⟩ (fun i d ρ₁ σ₁ hd hinv => ?_) (fun ρ₁ σ₁ hinv => ?_) hs
  · obtain ⟨hk, rfl⟩ := hinv
    obtain ⟨ρ₂, xs, h1, h2⟩ := hstep i d hd
    exact ⟨ρ₂, xs, .of (fun A hA s μ fz S => h1.run A hA s μ fz (S.forget hk.get)), h2⟩
  · obtain ⟨hk, rfl⟩ := hinv
    exact hend.forget hk.get

theorem Ex1.forE {x p arg pos0 xi pi xv pv x1 pt body orelse pos ds} {Post : PostT} (I : Nat → List (Str × D)) (J : Nat → List (List D)) (G : GL hT mg mb) (hm : mg x = none) (hv : mb x = some (.type "enumerate"))
    (hi : Ev prog w hT n env ρ σ arg (.tup ds)) (hpur : D.purs ds = true) (hxi : storable env xi) (hxv : storable env xv) (h0 : Knows ρ (I 0)) (hσ : σ = J 0)
    (hstep : ∀ i d, ds[i]? = some d → Ex prog w hT n env (upd (upd (I i) xi (.int i)) xv d) (J i) body (fun fl ρ' σ' => match fl with
      | .next => Knows ρ' (I (i + 1)) ∧ σ' = J (i + 1)
      | .brk => Post .next ρ' σ'
      | .ret v => Post (.ret v) ρ' σ'))
    (hend : Ex prog w hT n env (I ds.length) (J ds.length) orelse Post)
    (hs : ∀ y, foldedSetIterable (.Call (.Name x p) [arg] [] pos0) env y = pure y := by intro _; rfl)
    (hk : env.kindOf x = some .globalImplicit := by rfl) (hg : env.globals = mainGlobals := by rfl) (hb : env.builtins = builtinsNs := by rfl) (hns : starEach [arg] env = [(false, eval arg env)] := by exact starEach_plain rfl)
    (hdb : (x == ("__debug__" : Str)) = false := by decide) :
    Ex1 prog w hT n env ρ σ (.For (.Tuple [.Name xi pi, .Name xv pv] x1 pt) (.Call (.Name x p) [arg] [] pos0) body orelse pos) Post := by
  refine Ex1.for_enum (fun i ρ₁ σ₁ => Knows ρ₁ (I i) ∧ σ₁ = J i) G hm hv hi hpur hxi hxv ⟨h0, hσ⟩ (fun i d ρ₁ σ₁ hd hinv => ?_) (fun ρ₁ σ₁ hinv => ?_) hs hk hg hb hns hdb
  · obtain ⟨hk, rfl⟩ := hinv
    exact (hstep i d hd).forget (upd_get (upd_get hk.get _ _) _ _)
  · obtain ⟨hk, rfl⟩ := hinv
    exact hend.forget hk.get
end
end Mine

-- Laws1
namespace Mine
open PySem.Builtin.Str PySem.StrLaws

theorem mkS_len (x : List Nat) : (mkS x).length = x.length := by simp [mkS, Str.length]
theorem mkS_list (x : List Nat) : (mkS x).cps.toList = x := rfl
theorem at_one {x : List Nat} {c i : Nat} : At (mkS x) (mkS [c]) (mkS x).length i ↔ x[i]? = some c := subAt_one (mkS x) c i

/-- a character in a text -/
theorem in_one (x : List Nat) (c : Nat) : (!(occurrences (mkS x) (mkS [c]) 0 x.length 1).isEmpty) = x.contains c := by
  have h := occ_head (mkS x) (mkS [c]) 1 (Nat.le_refl 1)
  rw [mkS_len] at h
  rcases h with ⟨h, hn⟩ | ⟨i, r, h, hi, _⟩
  · rw [h]
    symm
    show x.contains c = false
    rw [← Bool.not_eq_true]
    intro hc
    obtain ⟨j, hj⟩ := List.getElem?_of_mem (List.contains_iff_mem.mp hc)
    exact hn j (by have := at_one (x := x) (c := c) (i := j); rw [mkS_len] at this; exact this.mpr hj)
  · rw [h]
    have := at_one (x := x) (c := c) (i := i)
    rw [mkS_len] at this
    have hm := List.mem_of_getElem? (this.mp hi)
    simp [hm]

theorem at_iff {s sep : List Nat} (hs : sep ≠ []) {i : Nat} : At (mkS s) (mkS sep) (mkS s).length i ↔ (s.drop i).take sep.length = sep := by
  unfold At
  rw [subAt_eq, mkS_len, mkS_len, mkS_list, mkS_list]
  constructor
  · intro h; exact eq_of_beq h.2
  · intro h
    refine ⟨?_, by rw [h]; simp⟩
    have hl := congrArg List.length h
    rw [List.length_take, List.length_drop] at hl
    have : 0 < sep.length := List.length_pos_iff.mpr hs
    omega

theorem sub_mk (s : List Nat) (a b : Nat) : strSub (mkS s) a b = mkS ((s.drop a).take (b - a)) := by
  apply Str.ext'
  apply Array.toList_inj.mp
  rw [strSub_toList]; rfl

/-- a function that cuts greedily -/
structure Cuts (sep : List Nat) (f : List Nat → List (List Nat)) : Prop where
  none : ∀ s, (∀ i, (s.drop i).take sep.length ≠ sep) → f s = [s]
  some : ∀ s c, (s.drop c).take sep.length = sep → (∀ k, k < c → (s.drop k).take sep.length ≠ sep) → f s = s.take c :: f (s.drop (c + sep.length))

theorem parts_cuts {sep : List Nat} {f : List Nat → List (List Nat)} (hs : sep ≠ []) (C : Cuts sep f) (s : List Nat) : ∀ (cuts : List Nat) (a e : Nat), ChainG (mkS s) (mkS sep) (mkS s).length a cuts e →
    (∀ k, e ≤ k → ¬ At (mkS s) (mkS sep) (mkS s).length k) → partsFrom (mkS s) (mkS sep).length a cuts = (f (s.drop a)).map mkS
  | [], a, e, h, hn => by
    have he : e = a := h
    subst he
    show [strSub (mkS s) e (mkS s).length] = _
    rw [C.none (s.drop e) fun i hi => ?_, sub_mk, mkS_len, List.take_of_length_le (by simp)]
    · rfl
    · rw [List.drop_drop] at hi
      exact hn (e + i) (Nat.le_add_right _ _) ((at_iff hs).mpr hi)
  | c :: r, a, e, h, hn => by
    obtain ⟨h1, h2, h3, h4⟩ := h
    show strSub (mkS s) a c :: partsFrom (mkS s) (mkS sep).length (c + (mkS sep).length) r = _
    rw [parts_cuts hs C s r _ e h4 hn, C.some (s.drop a) (c - a) ?_ ?_, sub_mk, mkS_len]
    · rw [List.drop_drop, show a + (c - a + sep.length) = c + sep.length by omega]; rfl
    · rw [List.drop_drop, show a + (c - a) = c by omega]; exact (at_iff hs).mp h2
    · intro k hk hh
      rw [List.drop_drop] at hh
      exact h3 (a + k) (Nat.le_add_right _ _) (by omega) ((at_iff hs).mpr hh)

theorem kind_one (x : Str) : 1 ≤ Builtin.Str.strKind x := by
  unfold Builtin.Str.strKind; split
  · exact Nat.le_refl _
  · split <;> omega

theorem split_cuts {sep : List Nat} {f : List Nat → List (List Nat)} (hs : sep ≠ []) (hk : Builtin.Str.strKind (mkS sep) = 1) (C : Cuts sep f) (s : List Nat) : Txt.split (mkS s) (mkS sep) = (f s).map mkS := by
  obtain ⟨e, h, hn⟩ := occ_tight (mkS s) (mkS sep) (by rw [mkS_len]; exact List.length_pos_iff.mpr hs)
  have key := parts_cuts hs C s _ 0 e h hn
  rw [List.drop_zero] at key
  have one : occurrences (mkS s) (mkS sep) 0 (mkS s).length ((mkS s).length + 1) = [] → (f s).map mkS = [mkS s] := fun ho => by
    rw [ho] at key
    rw [← key]
    show [strSub (mkS s) 0 (mkS s).length] = _
    rw [sub_whole]
  unfold Txt.split
  split
  · rename_i hc
    rw [Bool.or_eq_true, decide_eq_true_eq, decide_eq_true_eq, hk, mkS_len, mkS_len] at hc
    rcases hc with hc | hc
    · symm
      rw [C.none s fun i hi => ?_]
      · rfl
      · have := congrArg List.length hi
        rw [List.length_take, List.length_drop] at this
        omega
    · exact absurd hc (Nat.not_lt.mpr (kind_one _))
  · split
    · rename_i ho
      exact (one (List.isEmpty_iff.mp ho)).symm
    · rw [partsBetween_eq, key]

def consHead (c : Nat) : List (List Nat) → List (List Nat)
  | [] => [[c]]
  | p :: ps => (c :: p) :: ps
def spl1 (a : Nat) : List Nat → List (List Nat)
  | [] => [[]]
  | c :: r => if c = a then [] :: spl1 a r else consHead c (spl1 a r)
def spl2 (a b : Nat) : List Nat → List (List Nat)
  | [] => [[]]
  | [c] => [[c]]
  | c :: d :: r => if c = a ∧ d = b then [] :: spl2 a b r else consHead c (spl2 a b (d :: r))

theorem spl1_cons (a c : Nat) (r : List Nat) : spl1 a (c :: r) = if c = a then [] :: spl1 a r else consHead c (spl1 a r) := rfl
theorem spl2_cons (a b c d : Nat) (r : List Nat) : spl2 a b (c :: d :: r) = if c = a ∧ d = b then [] :: spl2 a b r else consHead c (spl2 a b (d :: r)) := rfl
theorem cuts1 (a : Nat) : Cuts [a] (spl1 a) where
  none := fun s => by
    induction s with
    | nil => intro _; rfl
    | cons c r ih =>
      intro h
      have h0 : c ≠ a := fun e => h 0 (by simp [e])
      rw [spl1_cons, if_neg h0, ih fun i hi => h (i + 1) (by simpa using hi)]; rfl
  some := fun s => by
    induction s with
    | nil => intro c h; simp at h
    | cons x r ih =>
      intro c h hn
      cases c with
      | zero =>
        have : x = a := by simpa using h
        rw [spl1_cons, if_pos this]; simp
      | succ c =>
        have h0 : x ≠ a := fun e => hn 0 (Nat.succ_pos _) (by simp [e])
        rw [spl1_cons, if_neg h0, ih c (by simpa using h) fun k hk hh => hn (k + 1) (by omega) (by simpa using hh)]
        simp only [consHead, List.take_succ_cons, List.length_singleton]
        rw [show c + 1 + 1 = (c + 1) + 1 from rfl, List.drop_succ_cons]
theorem cuts2 (a b : Nat) : Cuts [a, b] (spl2 a b) where
  none := fun s => by
    induction s with
    | nil => intro _; rfl
    | cons c r ih =>
      intro h
      cases r with
      | nil => rfl
      | cons d r =>
        have h0 : ¬ (c = a ∧ d = b) := fun e => h 0 (by simp [e.1, e.2])
        rw [spl2_cons, if_neg h0, ih fun i hi => h (i + 1) (by simpa using hi)]; rfl
  some := fun s => by
    induction s with
    | nil => intro c h; simp at h
    | cons x r ih =>
      intro c h hn
      cases c with
      | zero =>
        cases r with
        | nil => simp at h
        | cons d r =>
          have : x = a ∧ d = b := by simpa using h
          rw [spl2_cons, if_pos this]; simp
      | succ c =>
        cases r with
        | nil => simp at h
        | cons d r =>
          have h0 : ¬ (x = a ∧ d = b) := fun e => hn 0 (Nat.succ_pos _) (by simp [e.1, e.2])
          rw [spl2_cons, if_neg h0, ih c (by simpa using h) fun k hk hh => hn (k + 1) (by omega) (by simpa using hh)]
          simp only [consHead, List.take_succ_cons]
          rw [show c + 1 + [a, b].length = (c + [a, b].length) + 1 by simp, List.drop_succ_cons]

theorem split_lf (s : List Nat) : Txt.split (mkS s) (mkS [10]) = (spl1 10 s).map mkS := split_cuts (by simp) (by decide +kernel) (cuts1 10) s
theorem split_cr (s : List Nat) : Txt.split (mkS s) (mkS [13]) = (spl1 13 s).map mkS := split_cuts (by simp) (by decide +kernel) (cuts1 13) s
theorem split_crlf (s : List Nat) : Txt.split (mkS s) (mkS [13, 10]) = (spl2 13 10 s).map mkS := split_cuts (by simp) (by decide +kernel) (cuts2 13 10) s
end Mine

-- Laws2
namespace Mine

/-- the lines of a text, at any of the three line ends -/
def lns : List Nat → List (List Nat)
  | [] => [[]]
  | [c] => if c = 13 ∨ c = 10 then [[], []] else [[c]]
  | c :: d :: r => if c = 13 ∧ d = 10 then [] :: lns r else if c = 13 ∨ c = 10 then [] :: lns (d :: r) else consHead c (lns (d :: r))
theorem lns_cons (c d : Nat) (r : List Nat) : lns (c :: d :: r) = if c = 13 ∧ d = 10 then [] :: lns r else if c = 13 ∨ c = 10 then [] :: lns (d :: r) else consHead c (lns (d :: r)) := rfl

/-- no line end in it -/
def Free (x : List Nat) : Prop := ∀ c ∈ x, c ≠ 13 ∧ c ≠ 10
theorem free_nil : Free [] := fun c h => by cases h
theorem free_cons {c : Nat} {x : List Nat} (h : c ≠ 13 ∧ c ≠ 10) (hx : Free x) : Free (c :: x) := fun d hd => by
  rcases List.mem_cons.mp hd with rfl | hd
  · exact h
  · exact hx d hd
theorem Free.tail {c : Nat} {x : List Nat} (h : Free (c :: x)) : Free x := fun d hd => h d (List.mem_cons_of_mem _ hd)

theorem consHead_free {c : Nat} (h : c ≠ 13 ∧ c ≠ 10) : ∀ {l : List (List Nat)}, (∀ p ∈ l, Free p) → ∀ p ∈ consHead c l, Free p
  | [], _, p, hp => by rw [List.mem_singleton.mp hp]; exact free_cons h free_nil
  | q :: l, hl, p, hp => by
    rcases List.mem_cons.mp hp with rfl | hp
    · exact free_cons h (hl q (by simp))
    · exact hl p (List.mem_cons_of_mem _ hp)
theorem lns_free : ∀ s : List Nat, ∀ p ∈ lns s, Free p
  | [], p, hp => by rw [List.mem_singleton.mp hp]; exact free_nil
  | [c], p, hp => by
    unfold lns at hp
    split at hp
    · simp at hp; subst hp; exact free_nil
    · rename_i h
      rw [List.mem_singleton.mp hp]
      exact free_cons ⟨fun e => h (.inl e), fun e => h (.inr e)⟩ free_nil
  | c :: d :: r, p, hp => by
    rw [lns_cons] at hp
    split at hp
    · rcases List.mem_cons.mp hp with rfl | hp
      · exact free_nil
      · exact lns_free r p hp
    · split at hp
      · rcases List.mem_cons.mp hp with rfl | hp
        · exact free_nil
        · exact lns_free (d :: r) p hp
      · rename_i h
        exact consHead_free ⟨fun e => h (.inl e), fun e => h (.inr e)⟩ (lns_free (d :: r)) p hp
theorem consHead_ne (c : Nat) : ∀ l, consHead c l ≠ []
  | [] => by simp [consHead]
  | _ :: _ => by simp [consHead]
theorem lns_ne : ∀ s : List Nat, lns s ≠ []
  | [] => by simp [lns]
  | [c] => by unfold lns; split <;> simp
  | c :: d :: r => by
    rw [lns_cons]
    split
    · simp
    · split
      · simp
      · exact consHead_ne _ _

/-- a free row ahead of a line end -/
theorem lns_row : ∀ (x : List Nat), Free x → ∀ (c : Nat) (r : List Nat), (c = 13 ∨ c = 10) → ¬ (c = 13 ∧ r.head? = some 10) → lns (x ++ c :: r) = x :: lns r
  | [], _, c, [], hc, hn => by
    show (if c = 13 ∨ c = 10 then [[], []] else [[c]]) = _
    rw [if_pos hc]; rfl
  | [], _, c, d :: r, hc, hn => by
    show lns (c :: d :: r) = _
    rw [lns_cons, if_neg (fun h => hn ⟨h.1, by simp [h.2]⟩), if_pos hc]
  | [y], hx, c, r, hc, hn => by
    have hy := hx y (by simp)
    show lns (y :: c :: r) = _
    rw [lns_cons, if_neg (fun h => hy.1 h.1), if_neg (fun h => h.elim hy.1 hy.2)]
    rw [show (c :: r) = [] ++ c :: r from rfl, lns_row [] free_nil c r hc hn]; rfl
  | y :: z :: x, hx, c, r, hc, hn => by
    have hy := hx y (by simp)
    show lns (y :: z :: (x ++ c :: r)) = _
    rw [lns_cons, if_neg (fun h => hy.1 h.1), if_neg (fun h => h.elim hy.1 hy.2)]
    have := lns_row (z :: x) hx.tail c r hc hn
    rw [show z :: (x ++ c :: r) = (z :: x) ++ c :: r from rfl, this]; rfl
theorem lns_crlf : ∀ (x : List Nat), Free x → ∀ (r : List Nat), lns (x ++ 13 :: 10 :: r) = x :: lns r
  | [], _, r => by show lns (13 :: 10 :: r) = _; rw [lns_cons, if_pos ⟨rfl, rfl⟩]
  | [y], hx, r => by
    have hy := hx y (by simp)
    show lns (y :: 13 :: 10 :: r) = _
    rw [lns_cons, if_neg (fun h => hy.1 h.1), if_neg (fun h => h.elim hy.1 hy.2), lns_cons, if_pos ⟨rfl, rfl⟩]; rfl
  | y :: z :: x, hx, r => by
    have hy := hx y (by simp)
    show lns (y :: z :: (x ++ 13 :: 10 :: r)) = _
    rw [lns_cons, if_neg (fun h => hy.1 h.1), if_neg (fun h => h.elim hy.1 hy.2)]
    have := lns_crlf (z :: x) hx.tail r
    rw [show z :: (x ++ 13 :: 10 :: r) = (z :: x) ++ 13 :: 10 :: r from rfl, this]; rfl
theorem lns_free_row : ∀ (x : List Nat), Free x → lns x = [x]
  | [], _ => rfl
  | [y], hx => by
    have hy := hx y (by simp)
    show (if y = 13 ∨ y = 10 then [[], []] else [[y]]) = _
    rw [if_neg (fun h => h.elim hy.1 hy.2)]
  | y :: z :: x, hx => by
    have hy := hx y (by simp)
    rw [lns_cons, if_neg (fun h => hy.1 h.1), if_neg (fun h => h.elim hy.1 hy.2), lns_free_row (z :: x) hx.tail]; rfl

theorem lns_join : ∀ rows : List (List Nat), rows ≠ [] → (∀ p ∈ rows, Free p) → lns (joinL [13, 10] rows) = rows
  | [], h, _ => absurd rfl h
  | [x], _, h => lns_free_row x (h x (by simp))
  | x :: y :: r, _, h => by
    show lns (x ++ [13, 10] ++ joinL [13, 10] (y :: r)) = _
    rw [List.append_assoc]
    show lns (x ++ 13 :: 10 :: joinL [13, 10] (y :: r)) = _
    rw [lns_crlf x (h x (by simp)), lns_join (y :: r) (by simp) fun p hp => h p (List.mem_cons_of_mem _ hp)]

theorem spl2_row : ∀ (x : List Nat), Free x → ∀ r, spl2 13 10 (x ++ 13 :: 10 :: r) = x :: spl2 13 10 r
  | [], _, r => by show spl2 13 10 (13 :: 10 :: r) = _; rw [spl2_cons, if_pos ⟨rfl, rfl⟩]
  | [y], hx, r => by
    have hy := hx y (by simp)
    show spl2 13 10 (y :: 13 :: 10 :: r) = _
    rw [spl2_cons, if_neg (fun h => hy.1 h.1), spl2_cons, if_pos ⟨rfl, rfl⟩]; rfl
  | y :: z :: x, hx, r => by
    have hy := hx y (by simp)
    show spl2 13 10 (y :: z :: (x ++ 13 :: 10 :: r)) = _
    rw [spl2_cons, if_neg (fun h => hy.1 h.1)]
    have := spl2_row (z :: x) hx.tail r
    rw [show z :: (x ++ 13 :: 10 :: r) = (z :: x) ++ 13 :: 10 :: r from rfl, this]; rfl
theorem spl2_free : ∀ (x : List Nat), Free x → spl2 13 10 x = [x]
  | [], _ => rfl
  | [y], hx => rfl
  | y :: z :: x, hx => by
    have hy := hx y (by simp)
    rw [spl2_cons, if_neg (fun h => hy.1 h.1), spl2_free (z :: x) hx.tail]; rfl
theorem spl2_join : ∀ rows : List (List Nat), rows ≠ [] → (∀ p ∈ rows, Free p) → spl2 13 10 (joinL [13, 10] rows) = rows
  | [], h, _ => absurd rfl h
  | [x], _, h => spl2_free x (h x (by simp))
  | x :: y :: r, _, h => by
    show spl2 13 10 (x ++ [13, 10] ++ joinL [13, 10] (y :: r)) = _
    rw [List.append_assoc]
    show spl2 13 10 (x ++ 13 :: 10 :: joinL [13, 10] (y :: r)) = _
    rw [spl2_row x (h x (by simp)), spl2_join (y :: r) (by simp) fun p hp => h p (List.mem_cons_of_mem _ hp)]

theorem join_head : ∀ rows : List (List Nat), (∀ p ∈ rows, Free p) → (joinL [13, 10] rows).head? ≠ some 10
  | [], _ => by simp [joinL]
  | [x], h => by
    show x.head? ≠ _
    cases x with
    | nil => simp
    | cons c x => intro e; exact (h (c :: x) (by simp) c (by simp)).2 (by simpa using e)
  | x :: y :: r, h => by
    show (x ++ [13, 10] ++ joinL [13, 10] (y :: r)).head? ≠ _
    cases x with
    | nil => simp
    | cons c x => intro e; exact (h (c :: x) (by simp) c (by simp)).2 (by simpa using e)

/-- a dot ahead of each row that begins with one -/
def dq : List Nat → List Nat
  | [] => []
  | c :: r => if c = 46 then 46 :: 46 :: r else c :: r
theorem dq_free : ∀ {x : List Nat}, Free x → Free (dq x)
  | [], h => h
  | c :: r, h => by
    show Free (if c = 46 then 46 :: 46 :: r else c :: r)
    split
    · exact free_cons (c := 46) (by decide) (free_cons (c := 46) (by decide) h.tail)
    · exact h
/-- what quotedata makes -/
def quo (s : List Nat) : List Nat := joinL [13, 10] ((lns s).map dq)
theorem quo_free (s : List Nat) : ∀ p ∈ (lns s).map dq, Free p := fun p hp => by
  obtain ⟨q, hq, rfl⟩ := List.mem_map.mp hp
  exact dq_free (lns_free s q hq)
theorem lns_quo (s : List Nat) : lns (quo s) = (lns s).map dq := lns_join _ (by simp [lns_ne]) (quo_free s)
theorem spl_quo (s : List Nat) : spl2 13 10 (quo s) = (lns s).map dq := spl2_join _ (by simp [lns_ne]) (quo_free s)
/-- a letter's first row, then what was quoted -/
theorem lns_letter (x : List Nat) (hx : Free x) (sep : List Nat) (hs : sep = [13] ∨ sep = [10] ∨ sep = [13, 10]) (s : List Nat) : lns (x ++ (sep ++ quo s)) = x :: (lns s).map dq := by
  rcases hs with rfl | rfl | rfl
  · show lns (x ++ 13 :: quo s) = _
    rw [lns_row x hx 13 (quo s) (.inl rfl) (fun h => join_head _ (quo_free s) h.2), lns_quo]
  · show lns (x ++ 10 :: quo s) = _
    rw [lns_row x hx 10 (quo s) (.inr rfl) (fun h => by simp at h), lns_quo]
  · show lns (x ++ 13 :: 10 :: quo s) = _
    rw [lns_crlf x hx, lns_quo]
theorem lns_lf (x : List Nat) (hx : Free x) (s : List Nat) : lns (x ++ (10 :: s)) = x :: lns s := lns_row x hx 10 s (.inr rfl) (fun h => by simp at h)

-- the lines by the two replacings
def r1 : List Nat → List Nat
  | [] => []
  | [c] => [c]
  | c :: d :: r => if c = 13 ∧ d = 10 then 10 :: r1 r else c :: r1 (d :: r)
theorem r1_cons (c d : Nat) (r : List Nat) : r1 (c :: d :: r) = if c = 13 ∧ d = 10 then 10 :: r1 r else c :: r1 (d :: r) := rfl
def r2 (l : List Nat) : List Nat := l.map fun c => if c = 13 then 10 else c
theorem consHead_join (sep : List Nat) (c : Nat) : ∀ l : List (List Nat), l ≠ [] → joinL sep (consHead c l) = c :: joinL sep l
  | [], h => absurd rfl h
  | [x], _ => rfl
  | x :: y :: r, _ => rfl
theorem spl1_ne (a : Nat) : ∀ s, spl1 a s ≠ []
  | [] => by simp [spl1]
  | c :: r => by rw [spl1_cons]; split; simp; exact consHead_ne _ _
theorem spl2_ne (a b : Nat) : ∀ s, spl2 a b s ≠ []
  | [] => by simp [spl2]
  | [c] => by simp [spl2]
  | c :: d :: r => by rw [spl2_cons]; split; simp; exact consHead_ne _ _
theorem joinL_nil (sep : List Nat) : ∀ l : List (List Nat), l ≠ [] → joinL sep ([] :: l) = sep ++ joinL sep l
  | [], h => absurd rfl h
  | x :: r, _ => by simp [joinL]
theorem join_spl2 : ∀ s, joinL [10] (spl2 13 10 s) = r1 s
  | [] => rfl
  | [c] => rfl
  | c :: d :: r => by
    rw [spl2_cons, r1_cons]
    split
    · rw [joinL_nil _ _ (spl2_ne _ _ _), join_spl2 r]; rfl
    · rw [consHead_join _ _ _ (spl2_ne _ _ _), join_spl2 (d :: r)]
theorem join_spl1 : ∀ s, joinL [10] (spl1 13 s) = r2 s
  | [] => rfl
  | c :: r => by
    rw [spl1_cons]
    by_cases h : c = 13
    · rw [if_pos h, joinL_nil _ _ (spl1_ne _ _), join_spl1 r]; simp [r2, h]
    · rw [if_neg h, consHead_join _ _ _ (spl1_ne _ _), join_spl1 r]; simp [r2, h]
theorem r2_cons (c : Nat) (r : List Nat) : r2 (c :: r) = (if c = 13 then 10 else c) :: r2 r := rfl
theorem lns_r : ∀ s, spl1 10 (r2 (r1 s)) = lns s
  | [] => rfl
  | [c] => by
    show spl1 10 [if c = 13 then 10 else c] = _
    rw [spl1_cons]
    unfold lns
    by_cases h : c = 13
    · simp [h, spl1]
    · by_cases h2 : c = 10
      · simp [h2, spl1]
      · simp [h, h2, spl1, consHead]
  | c :: d :: r => by
    rw [r1_cons, lns_cons]
    by_cases h : c = 13 ∧ d = 10
    · rw [if_pos h, if_pos h, r2_cons, spl1_cons, lns_r r]; simp
    · rw [if_neg h, if_neg h, r2_cons, spl1_cons, lns_r (d :: r)]
      by_cases h1 : c = 13
      · simp [h1]
      · by_cases h2 : c = 10
        · simp [h2]
        · simp [h1, h2]

open PySem.Builtin.Str PySem.StrLaws in
theorem replace_cuts {sep z : List Nat} {f : List Nat → List (List Nat)} (hs : sep ≠ []) (C : Cuts sep f) (s : List Nat) : Txt.replace (mkS s) (mkS sep) (mkS z) = mkS (joinL z (f s)) := by
  obtain ⟨e, h, hn⟩ := occ_tight (mkS s) (mkS sep) (by rw [mkS_len]; exact List.length_pos_iff.mpr hs)
  have key := parts_cuts hs C s _ 0 e h hn
  rw [List.drop_zero] at key
  unfold Txt.replace
  have h0 : ((mkS sep).length == 0) = false := by rw [mkS_len]; simp [hs]
  rw [h0, Bool.false_and, Bool.or_false]
  split
  · rename_i ho
    rw [List.isEmpty_iff.mp ho] at key
    have : (f s).map mkS = [mkS s] := by
      rw [← key]
      show [strSub (mkS s) 0 (mkS s).length] = _
      rw [sub_whole]
    rw [← join_mk, this]; rfl
  · rw [glued_eq_join, partsBetween_eq, key, join_mk]
theorem replace_crlf (s : List Nat) : Txt.replace (mkS s) (mkS [13, 10]) (mkS [10]) = mkS (r1 s) := by rw [replace_cuts (by simp) (cuts2 13 10), join_spl2]
theorem replace_cr (s : List Nat) : Txt.replace (mkS s) (mkS [13]) (mkS [10]) = mkS (r2 s) := by rw [replace_cuts (by simp) (cuts1 13), join_spl1]
theorem split_lines (s : List Nat) : Txt.split (mkS (r2 (r1 s))) (mkS [10]) = (lns s).map mkS := by rw [split_lf, lns_r]
end Mine

-- Regex1
namespace Mine
open PySem.Sre PySem.Sre.M

def it : Nat → M → M
  | 0, m => m
  | n + 1, m => it n m.step
theorem it_add (a b : Nat) (m : M) : it (a + b) m = it b (it a m) := by
  induction a generalizing m with
  | zero => rw [Nat.zero_add]; rfl
  | succ a ih => rw [Nat.succ_add]; exact ih m.step
theorem step_done {m : M} (h : m.outcome.isSome = true) : m.step = m := by
  unfold M.step; rw [if_pos h]
theorem it_done {m : M} (h : m.outcome.isSome = true) : ∀ n, it n m = m
  | 0 => rfl
  | n + 1 => by show it n m.step = m; rw [step_done h]; exact it_done h n
theorem runFor_it : ∀ (n : Nat) (m : M), M.runFor n m = it n m
  | 0, m => rfl
  | n + 1, m => by
    show (if m.outcome.isSome = true then m else M.runFor n m.step) = it n m.step
    split
    · rename_i h; rw [step_done h, it_done h]
    · exact runFor_it n m.step

/-- the first pattern: a dot at the beginning of a line -/
def c1 : Array Nat := #[14, 4, 0, 1, 1, 6, 1, 16, 46, 1]
def m1 (text : Array Nat) (s hd : Nat) (must om : Bool) (sn : Sre.Seen) : M :=
  { code := c1, text, lim := text.size, start := s, lastStart := text.size, mustAdvance := must, pc := 5, pos := s, handed := hd, outermost := om, marks := #[],
    frames := [{ wait := .nextStart, pc := 5, pos := s, outermost := om }], weight := 1, seen := sn }

def bol (text : Array Nat) (s : Nat) : Bool := s == 0 || text.getD (s - 1) 0 == 10

theorem m1_no_at {text s hd must om sn} (h : bol text s = false) : (m1 text s hd must om sn).step = { m1 text s hd must om ((sn.add 6).add 44) with answer := some false } := by
  show (if bol text s = true then _ else _ : M) = _
  rw [h]; rfl
theorem m1_at {text s hd must om sn} (h : bol text s = true) : (m1 text s hd must om sn).step = { m1 text s hd must om ((sn.add 6).add 44) with pc := 7 } := by
  show (if bol text s = true then _ else _ : M) = _
  rw [h]; rfl
theorem m1_end {text s hd must om sn} (h : s ≥ text.size) : M.step { m1 text s hd must om sn with pc := 7 } = { m1 text s hd must om (sn.add 16) with pc := 7, answer := some false } := by
  show (if s ≥ text.size then _ else _ : M) = _
  rw [if_pos h]; rfl
theorem m1_no_dot {text s hd must om sn} (h : ¬ s ≥ text.size) (hc : (text.getD s 0 == 46) = false) : M.step { m1 text s hd must om sn with pc := 7 } = { m1 text s hd must om (sn.add 16) with pc := 7, answer := some false } := by
  show (if s ≥ text.size then _ else match (Except.ok (text.getD s 0 == 46, sn.add 16) : Except String (Bool × Sre.Seen)) with
    | .error why => _
    | .ok (false, sn2) => _
    | .ok (true, sn2) => _ : M) = _
  rw [if_neg h, hc]; rfl
theorem m1_dot {text s hd must om sn} (h : ¬ s ≥ text.size) (hc : (text.getD s 0 == 46) = true) : M.step { m1 text s hd must om sn with pc := 7 } = { m1 text s hd must om (sn.add 16) with pc := 9, pos := s + 1 } := by
  show (if s ≥ text.size then _ else match (Except.ok (text.getD s 0 == 46, sn.add 16) : Except String (Bool × Sre.Seen)) with
    | .error why => _
    | .ok (false, sn2) => _
    | .ok (true, sn2) => _ : M) = _
  rw [if_neg h, hc]; rfl
theorem m1_success {text s hd must om sn} : M.step { m1 text s hd must om sn with pc := 9, pos := s + 1 } = { m1 text s (s + 1) must om (sn.add 1) with pc := 9, pos := s + 1, answer := some true } := by
  have h : (om && ((false && (s + 1) != text.size) || (must && (s + 1) == s))) = false := by
    have : ((s + 1) == s) = false := by simp
    rw [this]; simp
  show (if (om && ((false && (s + 1) != text.size) || (must && (s + 1) == s))) = true then _ else _ : M) = _
  rw [h]; rfl
/-- what stands when the answer is no -/
theorem m1_again {text s hd must om sn pc} (h : s < text.size) : M.step { m1 text s hd must om sn with pc := pc, answer := some false } = m1 text (s + 1) (s + 1) false false sn := by
  show (if s < text.size then _ else _ : M) = _
  rw [if_pos h]; rfl
theorem m1_last {text s hd must om sn pc} (h : ¬ s < text.size) : (it 2 { m1 text s hd must om sn with pc := pc, answer := some false }).outcome = some .failed := by
  have : M.step { m1 text s hd must om sn with pc := pc, answer := some false } = { m1 text s hd must om sn with pc := 5, answer := some false, frames := [], weight := 0 } := by
    show (if s < text.size then _ else _ : M) = _
    rw [if_neg h]; rfl
  show (M.step (M.step _)).outcome = _
  rw [this]; rfl
theorem m1_yes {text s hd must om sn} : (it 2 { m1 text s hd must om sn with pc := 9, pos := s + 1, answer := some true }).outcome = some .matched ∧ (it 2 { m1 text s hd must om sn with pc := 9, pos := s + 1, answer := some true }).start = s ∧
    (it 2 { m1 text s hd must om sn with pc := 9, pos := s + 1, answer := some true }).handed = hd := ⟨rfl, rfl, rfl⟩

/-- the next dot at the beginning of a line -/
def find1 (text : Array Nat) : Nat → Nat → Option Nat
  | 0, _ => none
  | n + 1, s => if bol text s && text.getD s 0 == 46 then some s else find1 text n (s + 1)

def Says (m : M) : Option (Nat × Nat) → Prop
  | none => m.outcome = some .failed
  | some (a, b) => m.outcome = some .matched ∧ m.start = a ∧ m.handed = b

theorem run1 (text : Array Nat) : ∀ (n s hd : Nat) (must om : Bool) (sn : Sre.Seen), n = text.size - s → s ≤ text.size →
    ∃ k, k ≤ 5 * n + 5 ∧ Says (it k (m1 text s hd must om sn)) ((find1 text n s).map fun i => (i, i + 1))
  | 0, s, hd, must, om, sn, hn, hle => by
    have h : ¬ s < text.size := by omega
    cases hb : bol text s with
    | false =>
      refine ⟨3, by omega, ?_⟩
      show (it 2 (m1 text s hd must om sn).step).outcome = _
      rw [m1_no_at hb]; exact m1_last h
    | true =>
      refine ⟨4, by omega, ?_⟩
      show (it 2 (M.step (m1 text s hd must om sn).step)).outcome = _
      rw [m1_at hb, m1_end (by omega)]; exact m1_last h
  | n + 1, s, hd, must, om, sn, hn, hle => by
    have h : s < text.size := by omega
    show ∃ k, k ≤ _ ∧ Says _ ((if (bol text s && text.getD s 0 == 46) = true then some s else find1 text n (s + 1)).map _)
    have next : ∀ m, m.step = m1 text (s + 1) (s + 1) false false m.seen → ∃ k, k ≤ 5 * n + 5 + 1 ∧ Says (it k m) ((find1 text n (s + 1)).map fun i => (i, i + 1)) := fun m hm => by
      obtain ⟨k, h1, h2⟩ := run1 text n (s + 1) (s + 1) false false m.seen (by omega) (by omega)
      refine ⟨k + 1, by omega, ?_⟩
      show Says (it k m.step) _
      rw [hm]; exact h2
    cases hb : bol text s with
    | false =>
      obtain ⟨k, h1, h2⟩ := next { m1 text s hd must om ((sn.add 6).add 44) with answer := some false } (m1_again (pc := 5) h)
      refine ⟨k + 1, by omega, ?_⟩
      show Says (it k (m1 text s hd must om sn).step) _
      rw [m1_no_at hb]; exact h2
    | true =>
      cases hc : (text.getD s 0 == 46) with
      | false =>
        obtain ⟨k, h1, h2⟩ := next { m1 text s hd must om (((sn.add 6).add 44).add 16) with pc := 7, answer := some false } (m1_again (pc := 7) h)
        refine ⟨k + 2, by omega, ?_⟩
        show Says (it k (M.step (m1 text s hd must om sn).step)) _
        rw [m1_at hb, m1_no_dot (by omega) hc]; exact h2
      | true =>
        refine ⟨5, by omega, ?_⟩
        show Says (it 2 (M.step (M.step (m1 text s hd must om sn).step))) _
        rw [m1_at hb, m1_dot (by omega) hc, m1_success]
        exact m1_yes
end Mine

-- Regex2
namespace Mine
open PySem.Sre PySem.Sre.M

/-- the second pattern: a line end -/
def c2 : Array Nat := #[14, 9, 4, 1, 2, 16, 10, 16, 13, 0, 7, 7, 16, 13, 16, 10, 15, 18, 5, 16, 10, 15, 13, 11, 16, 13, 5, 5, 0, 16, 10, 1, 15, 2, 0, 1]
def q (text : Array Nat) (s hd pc pos : Nat) (om : Bool) (fr : List Sre.Frame) (wt : Nat) (an : Option Bool) (sn : Sre.Seen) : M :=
  { code := c2, text, lim := text.size, start := s, lastStart := text.size, pc, pos, handed := hd, outermost := om, marks := #[], frames := fr, weight := wt, answer := an, seen := sn }
def F0 (s : Nat) (om : Bool) : Sre.Frame := { wait := .nextStart, pc := 10, pos := s, outermost := om }
def FB (s : Nat) (om : Bool) (alt : Nat) : Sre.Frame := { wait := .nextBranch, pc := alt, pos := s, outermost := om }
def FL (s : Nat) (om : Bool) : Sre.Frame := { wait := .lookNot, pc := 26, pos := s, outermost := om }

section
variable {text : Array Nat} {s hd pos : Nat} {om : Bool} {fr : List Sre.Frame} {sn : Sre.Seen} {wt : Nat}
theorem q_end12 (h : pos ≥ text.size) : (q text s hd 12 pos om fr wt none sn).step = q text s hd 12 pos om fr wt (some false) (sn.add 16) := by
  show (if pos ≥ text.size then _ else _ : M) = _
  rw [if_pos h]; rfl
theorem q_no12 (h : ¬ pos ≥ text.size) (hc : (text.getD pos 0 == 13) = false) : (q text s hd 12 pos om fr wt none sn).step = q text s hd 12 pos om fr wt (some false) (sn.add 16) := by
  show (if pos ≥ text.size then _ else match (Except.ok (text.getD pos 0 == 13, sn.add 16) : Except String (Bool × Sre.Seen)) with
    | .error why => _
    | .ok (false, sn2) => _
    | .ok (true, sn2) => _ : M) = _
  rw [if_neg h, hc]; rfl
theorem q_yes12 (h : ¬ pos ≥ text.size) (hc : (text.getD pos 0 == 13) = true) : (q text s hd 12 pos om fr wt none sn).step = q text s hd 14 (pos + 1) om fr wt none (sn.add 16) := by
  show (if pos ≥ text.size then _ else match (Except.ok (text.getD pos 0 == 13, sn.add 16) : Except String (Bool × Sre.Seen)) with
    | .error why => _
    | .ok (false, sn2) => _
    | .ok (true, sn2) => _ : M) = _
  rw [if_neg h, hc]; rfl
theorem q_end14 (h : pos ≥ text.size) : (q text s hd 14 pos om fr wt none sn).step = q text s hd 14 pos om fr wt (some false) (sn.add 16) := by
  show (if pos ≥ text.size then _ else _ : M) = _
  rw [if_pos h]; rfl
theorem q_no14 (h : ¬ pos ≥ text.size) (hc : (text.getD pos 0 == 10) = false) : (q text s hd 14 pos om fr wt none sn).step = q text s hd 14 pos om fr wt (some false) (sn.add 16) := by
  show (if pos ≥ text.size then _ else match (Except.ok (text.getD pos 0 == 10, sn.add 16) : Except String (Bool × Sre.Seen)) with
    | .error why => _
    | .ok (false, sn2) => _
    | .ok (true, sn2) => _ : M) = _
  rw [if_neg h, hc]; rfl
theorem q_yes14 (h : ¬ pos ≥ text.size) (hc : (text.getD pos 0 == 10) = true) : (q text s hd 14 pos om fr wt none sn).step = q text s hd 16 (pos + 1) om fr wt none (sn.add 16) := by
  show (if pos ≥ text.size then _ else match (Except.ok (text.getD pos 0 == 10, sn.add 16) : Except String (Bool × Sre.Seen)) with
    | .error why => _
    | .ok (false, sn2) => _
    | .ok (true, sn2) => _ : M) = _
  rw [if_neg h, hc]; rfl
theorem q_end19 (h : pos ≥ text.size) : (q text s hd 19 pos om fr wt none sn).step = q text s hd 19 pos om fr wt (some false) (sn.add 16) := by
  show (if pos ≥ text.size then _ else _ : M) = _
  rw [if_pos h]; rfl
theorem q_no19 (h : ¬ pos ≥ text.size) (hc : (text.getD pos 0 == 10) = false) : (q text s hd 19 pos om fr wt none sn).step = q text s hd 19 pos om fr wt (some false) (sn.add 16) := by
  show (if pos ≥ text.size then _ else match (Except.ok (text.getD pos 0 == 10, sn.add 16) : Except String (Bool × Sre.Seen)) with
    | .error why => _
    | .ok (false, sn2) => _
    | .ok (true, sn2) => _ : M) = _
  rw [if_neg h, hc]; rfl
theorem q_yes19 (h : ¬ pos ≥ text.size) (hc : (text.getD pos 0 == 10) = true) : (q text s hd 19 pos om fr wt none sn).step = q text s hd 21 (pos + 1) om fr wt none (sn.add 16) := by
  show (if pos ≥ text.size then _ else match (Except.ok (text.getD pos 0 == 10, sn.add 16) : Except String (Bool × Sre.Seen)) with
    | .error why => _
    | .ok (false, sn2) => _
    | .ok (true, sn2) => _ : M) = _
  rw [if_neg h, hc]; rfl
theorem q_end24 (h : pos ≥ text.size) : (q text s hd 24 pos om fr wt none sn).step = q text s hd 24 pos om fr wt (some false) (sn.add 16) := by
  show (if pos ≥ text.size then _ else _ : M) = _
  rw [if_pos h]; rfl
theorem q_no24 (h : ¬ pos ≥ text.size) (hc : (text.getD pos 0 == 13) = false) : (q text s hd 24 pos om fr wt none sn).step = q text s hd 24 pos om fr wt (some false) (sn.add 16) := by
  show (if pos ≥ text.size then _ else match (Except.ok (text.getD pos 0 == 13, sn.add 16) : Except String (Bool × Sre.Seen)) with
    | .error why => _
    | .ok (false, sn2) => _
    | .ok (true, sn2) => _ : M) = _
  rw [if_neg h, hc]; rfl
theorem q_yes24 (h : ¬ pos ≥ text.size) (hc : (text.getD pos 0 == 13) = true) : (q text s hd 24 pos om fr wt none sn).step = q text s hd 26 (pos + 1) om fr wt none (sn.add 16) := by
  show (if pos ≥ text.size then _ else match (Except.ok (text.getD pos 0 == 13, sn.add 16) : Except String (Bool × Sre.Seen)) with
    | .error why => _
    | .ok (false, sn2) => _
    | .ok (true, sn2) => _ : M) = _
  rw [if_neg h, hc]; rfl
theorem q_end29 (h : pos ≥ text.size) : (q text s hd 29 pos om fr wt none sn).step = q text s hd 29 pos om fr wt (some false) (sn.add 16) := by
  show (if pos ≥ text.size then _ else _ : M) = _
  rw [if_pos h]; rfl
theorem q_no29 (h : ¬ pos ≥ text.size) (hc : (text.getD pos 0 == 10) = false) : (q text s hd 29 pos om fr wt none sn).step = q text s hd 29 pos om fr wt (some false) (sn.add 16) := by
  show (if pos ≥ text.size then _ else match (Except.ok (text.getD pos 0 == 10, sn.add 16) : Except String (Bool × Sre.Seen)) with
    | .error why => _
    | .ok (false, sn2) => _
    | .ok (true, sn2) => _ : M) = _
  rw [if_neg h, hc]; rfl
theorem q_yes29 (h : ¬ pos ≥ text.size) (hc : (text.getD pos 0 == 10) = true) : (q text s hd 29 pos om fr wt none sn).step = q text s hd 31 (pos + 1) om fr wt none (sn.add 16) := by
  show (if pos ≥ text.size then _ else match (Except.ok (text.getD pos 0 == 10, sn.add 16) : Except String (Bool × Sre.Seen)) with
    | .error why => _
    | .ok (false, sn2) => _
    | .ok (true, sn2) => _ : M) = _
  rw [if_neg h, hc]; rfl
theorem q_branch : (q text s hd 10 s om [F0 s om] 1 none sn).step = q text s s 12 s om [FB s om 11, F0 s om] 2 none (sn.add 7) := rfl
theorem q_alt2 {pc pos om'} : (q text s hd pc pos om' [FB s om 11, F0 s om] 2 (some false) sn).step = q text s s 19 s om [FB s om 18, F0 s om] 2 none sn := rfl
theorem q_alt3 {pc pos om'} : (q text s hd pc pos om' [FB s om 18, F0 s om] 2 (some false) sn).step = q text s s 24 s om [FB s om 23, F0 s om] 2 none sn := rfl
theorem q_jump16 : (q text s hd 16 pos om fr wt none sn).step = q text s hd 35 pos om fr wt none (sn.add 15) := rfl
theorem q_jump21 : (q text s hd 21 pos om fr wt none sn).step = q text s hd 35 pos om fr wt none (sn.add 15) := rfl
theorem q_jump32 : (q text s hd 32 pos om fr wt none sn).step = q text s hd 35 pos om fr wt none (sn.add 15) := rfl
theorem q_success : (q text s hd 35 pos om fr wt none sn).step = q text s pos 35 pos om fr wt (some true) (sn.add 1) := by
  show (if (om && ((false && pos != text.size) || (false && pos == s))) = true then _ else _ : M) = _
  have : (om && ((false && pos != text.size) || (false && pos == s))) = false := by simp
  rw [this]; rfl
theorem q_look : (q text s hd 26 pos om [FB s om 23, F0 s om] 2 none sn).step = q text s (pos - 0) 29 (pos - 0) false [FL pos om, FB s om 23, F0 s om] 3 none (sn.add 5) := by
  rfl
theorem q_lookno {pc pos' om'} : (q text s hd pc pos' om' [FL pos om, FB s om 23, F0 s om] 3 (some false) sn).step = q text s hd 32 pos om [FB s om 23, F0 s om] 2 none sn := rfl
theorem q_fin {pc pos om' alt} : (it 3 (q text s hd pc pos om' [FB s om alt, F0 s om] 2 (some true) sn)).outcome = some .matched ∧ (it 3 (q text s hd pc pos om' [FB s om alt, F0 s om] 2 (some true) sn)).start = s ∧
    (it 3 (q text s hd pc pos om' [FB s om alt, F0 s om] 2 (some true) sn)).handed = hd := ⟨rfl, rfl, rfl⟩

theorem run2_crlf (h1 : s < text.size) (c1 : text.getD s 0 = 13) (h2 : s + 1 < text.size) (c2 : text.getD (s + 1) 0 = 10) : Says (it 8 (q text s hd 10 s om [F0 s om] 1 none sn)) (some (s, s + 2)) := by
  show Says (it 3 (M.step (M.step (M.step (M.step (M.step (q text s hd 10 s om [F0 s om] 1 none sn))))))) _
  rw [q_branch, q_yes12 (by omega) (by simp [c1]), q_yes14 (by omega) (by simp [c2]), q_jump16, q_success]
  exact q_fin
theorem run2_lf (h1 : s < text.size) (c1 : text.getD s 0 = 10) : Says (it 9 (q text s hd 10 s om [F0 s om] 1 none sn)) (some (s, s + 1)) := by
  show Says (it 3 (M.step (M.step (M.step (M.step (M.step (M.step (q text s hd 10 s om [F0 s om] 1 none sn)))))))) _
  rw [q_branch, q_no12 (by omega) (by simp [c1]), q_alt2, q_yes19 (by omega) (by simp [c1]), q_jump21, q_success]
  exact q_fin
theorem run2_cr (h1 : s < text.size) (c1 : text.getD s 0 = 13) (h2 : s + 1 ≥ text.size ∨ text.getD (s + 1) 0 ≠ 10) : Says (it 15 (q text s hd 10 s om [F0 s om] 1 none sn)) (some (s, s + 1)) := by
  show Says (it 3 (M.step (M.step (M.step (M.step (M.step (M.step (M.step (M.step (M.step (M.step (M.step (M.step (q text s hd 10 s om [F0 s om] 1 none sn)))))))))))))) _
  have n14 : ∀ {hd om fr wt sn}, (q text s hd 14 (s + 1) om fr wt none sn).step = q text s hd 14 (s + 1) om fr wt (some false) (sn.add 16) := fun {hd om fr wt sn} => by
    by_cases h : s + 1 ≥ text.size
    · exact q_end14 h
    · exact q_no14 h (by simpa using h2.resolve_left h)
  have n29 : ∀ {hd om fr wt sn}, (q text s hd 29 (s + 1) om fr wt none sn).step = q text s hd 29 (s + 1) om fr wt (some false) (sn.add 16) := fun {hd om fr wt sn} => by
    by_cases h : s + 1 ≥ text.size
    · exact q_end29 h
    · exact q_no29 h (by simpa using h2.resolve_left h)
  rw [q_branch, q_yes12 (by omega) (by simp [c1]), n14, q_alt2, q_no19 (by omega) (by simp [c1]), q_alt3, q_yes24 (by omega) (by simp [c1]), q_look, Nat.sub_zero, n29, q_lookno, q_jump32, q_success]
  exact q_fin
end

def isEnd (c : Nat) : Bool := c == 10 || c == 13
theorem inSet2 (c : Nat) (sn : Sre.Seen) : ∃ sn', inSet c2 c 36 5 true sn = .ok (isEnd c, sn') := by
  by_cases h : c = 10
  · subst h; exact ⟨_, rfl⟩
  · by_cases h2 : c = 13
    · subst h2; exact ⟨_, rfl⟩
    · refine ⟨((sn.add 16).add 16).add 0, ?_⟩
      show (if (c == 10) = true then _ else if (c == 13) = true then _ else _ : Except String (Bool × Sre.Seen)) = _
      have e1 : (c == 10) = false := by simpa using h
      have e2 : (c == 13) = false := by simpa using h2
      have e3 : isEnd c = false := by simp [isEnd, e1, e2]
      rw [e1, e2, e3]; rfl
/-- the next line end -/
def findE (text : Array Nat) : Nat → Nat → Option Nat
  | 0, _ => none
  | n + 1, s => if s ≥ text.size then none else if isEnd (text.getD s 0) then some s else findE text n (s + 1)
theorem admitted2 {m : M} {text : Array Nat} (hc : m.code = c2) (ht : m.text = text) (hl : m.lim = text.size) : ∀ (n s : Nat) (sn : Sre.Seen), ∃ sn', admitted m n s sn = .ok (findE text n s, sn')
  | 0, s, sn => ⟨sn, rfl⟩
  | n + 1, s, sn => by
    unfold admitted findE
    rw [hl, hc, ht]
    by_cases h : s ≥ text.size
    · rw [if_pos h, if_pos h]; exact ⟨sn, rfl⟩
    · rw [if_neg h, if_neg h]
      obtain ⟨sn', e⟩ := inSet2 (text.getD s 0) sn
      have e' : inSet c2 (text.getD s 0) c2.size 5 true sn = .ok (isEnd (text.getD s 0), sn') := e
      rw [e']
      cases hE : isEnd (text.getD s 0) with
      | true => exact ⟨sn', rfl⟩
      | false =>
        obtain ⟨sn2, e2⟩ := admitted2 hc ht hl n (s + 1) sn'
        exact ⟨sn2, by simpa using e2⟩
end Mine

-- Regex3
namespace Mine
theorem plainAttrs_pat : PlainAttrs "re.Pattern" :=
  ⟨⟨"object.__getattribute__", by rw [typeLookup_type, builtinLookup_eq_fast]; kernel_rfl, by decide +kernel⟩, by rw [typeLookup_type, builtinLookup_eq_fast]; kernel_rfl⟩
theorem slot_pat_sub : Slot "re.Pattern" "sub" "re.Pattern.sub" :=
  .of (owner := "re.Pattern") (n := "sub") (by rw [typeLookup_type, builtinLookup_eq_fast]; kernel_rfl) (by decide +kernel) (by decide +kernel) (by decide +kernel)
    (by first | exact .inl (by decide +kernel) | exact .inr (by decide +kernel)) (by rw [isSubtype_type]; kernel_rfl)
theorem type_pat_sub : typeOf (.builtin "re.Pattern.sub") = pure (.type "method_descriptor") := by show builtinType _ = _; rw [builtinType_eq_fast]; kernel_rfl
theorem entry_pat_sub : entryFor table "re.Pattern.sub" = some Builtin.«re.Pattern.sub» := entryFor_of_tree (by kernel_rfl)
theorem entry_pat_loop : entryFor table "re.Pattern.sub.loop" = some Builtin.«re.Pattern.sub.loop» := entryFor_of_fast (by kernel_rfl)
theorem plain_pat_loop : plainId "re.Pattern.sub.loop" = true := by decide +kernel
theorem args_pat_sub (a b c : Value) : argsOk "re.Pattern.sub" ⟨[a, b, c], []⟩ := by
  unfold argsOk; kernel_rfl
theorem kind_pat_sub : plainId "re.Pattern.sub" = true := by decide +kernel
end Mine

-- Regex4
namespace Mine
open PySem.Builtin.Re
section
variable {M : Model} {A : Around} {E : Value → Shared → Prop} {s : Shared}

theorem drive : ∀ (T : Nat) (m : Sre.M) (k : Nat) {Q : Sre.M → Shared → Prop}, (it k m).outcome.isSome = true → k ≤ 4 * T → 1 ≤ T → Q (it k m) s → wpAny M A (reDrive T m) Q E s
  | 0, m, k, Q, h, hk, hT, hQ => absurd hT (by omega)
  | T + 1, m, k, Q, h, hk, hT, hQ => by
    show wpAny M A (if (Sre.M.runFor reTurnSteps m).outcome.isSome = true then pure (Sre.M.runFor reTurnSteps m) else do rule "sre.turn"; reDrive T (Sre.M.runFor reTurnSteps m)) Q E s
    have e4 : Sre.M.runFor reTurnSteps m = it 4 m := runFor_it 4 m
    rw [e4]
    by_cases h4 : (it 4 m).outcome.isSome = true
    · rw [if_pos h4]
      have : it k m = it 4 m := by
        by_cases hle : k ≤ 4
        · have := it_add k (4 - k) m
          rw [show k + (4 - k) = 4 by omega, it_done h] at this; exact this.symm
        · have := it_add 4 (k - 4) m
          rw [show 4 + (k - 4) = k by omega, it_done h4] at this; exact this
      exact wpAny_pure (this ▸ hQ)
    · rw [if_neg h4]
      have hgt : ¬ k ≤ 4 := fun hle => h4 (by
        have := it_add k (4 - k) m
        rw [show k + (4 - k) = 4 by omega, it_done h] at this; rw [this]; exact h)
      have e := it_add 4 (k - 4) m
      rw [show 4 + (k - 4) = k by omega] at e
      rw [e] at h hQ
      exact wpAny_bind (wpAny_rule (drive T _ (k - 4) h (by omega) (by omega) hQ))

theorem forIn_quiet {body : Nat → PUnit → Sem (ForInStep PUnit)} (h : ∀ i (Q : ForInStep PUnit → Shared → Prop), Q (.yield ⟨⟩) s → wpAny M A (body i ⟨⟩) Q E s) {Q : PUnit → Shared → Prop} (hQ : Q ⟨⟩ s) : ∀ l : List Nat, wpAny M A (forIn l PUnit.unit body) Q E s
  | [] => by rw [List.forIn_nil]; exact wpAny_pure hQ
  | i :: l => by rw [List.forIn_cons]; exact wpAny_bind (h i _ (forIn_quiet h hQ l))

theorem runs_to_end {m : Sre.M} {k : Nat} {r : Option (Nat × Nat)} (hk : k ≤ 2 ^ 62) (h : Says (it k m) r) {Q : Option Sre.M → Shared → Prop}
    (hQ : match r with | none => Q none s | some (a, b) => ∀ m', m'.start = a → m'.handed = b → Q (some m') s) : wpAny M A (reRunToEnd m) Q E s := by
  unfold reRunToEnd
  have hs : (it k m).outcome.isSome = true := by
    cases r with
    | none => have h' : (it k m).outcome = some .failed := h; rw [h']; rfl
    | some p => have h' : (it k m).outcome = some .matched := h.1; rw [h']; rfl
  refine wpAny_bind (drive (2 ^ 64) m k hs (by omega) (by omega) ?_)
  refine wpAny_bind (forIn_quiet (fun i Q' hQ' => ?_) ?_ _)
  · split
    · exact wpAny_bind (wpAny_rule (wpAny_pure hQ'))
    · exact wpAny_bind (wpAny_pure (wpAny_pure hQ'))
  · cases r with
    | none => have h' : (it k m).outcome = some .failed := h; rw [h']; exact wpAny_pure hQ
    | some p => have h' : (it k m).outcome = some .matched := h.1; rw [h']; exact wpAny_pure (hQ _ h.2.1 h.2.2)

/-- a compiled pattern in the heap -/
structure Pat (h : Heap) (a c : Addr) (code : Array Nat) : Prop where
  pat : ∃ o fs i j, h.get? a = some o ∧ o.cls = .type "re.Pattern" ∧ o.data = .fields fs ∧ fs.getD 2 .none = .int 0 i ∧ fs.getD 5 .none = .ref c ∧ fs.getD 6 .none = .int 0 j
  code : ∃ o items n, h.get? c = some o ∧ o.data = .seq items n ∧ (items.map reRawOf).map (·.toNat) = code

theorem whole {a c : Addr} {code : Array Nat} {x : Str} {t : Tok} (P : Pat s.heap a c code) {Q : ReTarget → Shared → Prop}
    (hQ : Q { pattern := .ref a, string := .str x t, code := code, text := x.cps, kind := 0, groups := 0, pos := 0, lim := x.cps.size } s) : wpAny M A (reWholeTarget (.ref a) (.str x t)) Q E s := by
  obtain ⟨⟨o, fs, i, j, ho, hcl, hd, h2, h5, h6⟩, ⟨o', items, n, ho', hd', hcode⟩⟩ := P
  unfold reWholeTarget
  refine wpAny_bind ?_
  show wpAny M A (load a >>= _) _ _ s
  refine wpAny_bind (wpAny_load ho ?_)
  rw [hd]
  refine wpAny_pure ?_
  refine wpAny_bind ?_
  show wpAny M A (pure (x.cps, 0)) _ _ s
  refine wpAny_pure ?_
  simp only [h6, reRawNat, h2, h5]
  refine wpAny_bind (wpAny_pure ?_)
  refine wpAny_bind ?_
  show wpAny M A (seqItems? (.ref c) >>= _) _ _ s
  refine wpAny_bind (wpAny_seqItems ho' hd' (wpAny_pure (wpAny_pure ?_)))
  show Q { pattern := .ref a, string := .str x t, code := (items.map reRawOf).map (·.toNat), text := x.cps, kind := 0, groups := 0, pos := 0, lim := x.cps.size } s
  rw [hcode]; exact hQ
end
end Mine

-- Regex5
namespace Mine
open PySem.Builtin.Re PySem.Sre

def nx1 (text : Array Nat) (p : Nat) : Option (Nat × Nat) := (find1 text (text.size - p) p).map fun i => (i, i + 1)
theorem search1 (text : Array Nat) (p : Nat) (must : Bool) (hp : p ≤ text.size) : ∃ k, k ≤ 5 * text.size + 10 ∧ Says (it k (Sre.forSearch c1 text 0 p text.size must)) (nx1 text p) := by
  by_cases h : p = text.size
  · refine ⟨1, by omega, ?_⟩
    have e : nx1 text p = none := by unfold nx1; rw [h, Nat.sub_self]; rfl
    rw [e]
    unfold Sre.forSearch
    have hc : (decide (p > text.size) || decide (text.size - p < (Sre.header c1).1)) = true := by
      have : (Sre.header c1).1 = 1 := rfl
      rw [this]; simp; omega
    simp only [hc, if_true]
    rfl
  · have e : Sre.forSearch c1 text 0 p text.size must = m1 text p p must true (({} : Sre.Seen).add 14) := by
      unfold Sre.forSearch
      have hc : (decide (p > text.size) || decide (text.size - p < (Sre.header c1).1)) = false := by
        have : (Sre.header c1).1 = 1 := rfl
        rw [this]; simp; omega
      simp only [hc, Bool.false_eq_true, if_false]
      rfl
    rw [e]
    obtain ⟨k, hk, hs⟩ := run1 text (text.size - p) p p must true (({} : Sre.Seen).add 14) rfl hp
    exact ⟨k, by omega, hs⟩

def endAt (text : Array Nat) (s : Nat) : Nat × Nat := if text.getD s 0 = 13 ∧ s + 1 < text.size ∧ text.getD (s + 1) 0 = 10 then (s, s + 2) else (s, s + 1)
def nx2 (text : Array Nat) (p : Nat) : Option (Nat × Nat) := (findE text (text.size + 1 - p) p).map (endAt text)
theorem findE_spec (text : Array Nat) : ∀ (n p s : Nat), findE text n p = some s → p ≤ s ∧ s < text.size ∧ isEnd (text.getD s 0) = true
  | 0, p, s, h => by cases h
  | n + 1, p, s, h => by
    unfold findE at h
    split at h
    · cases h
    · split at h
      · cases h; rename_i h1 h2; exact ⟨Nat.le_refl _, by omega, h2⟩
      · obtain ⟨h1, h2, h3⟩ := findE_spec text n (p + 1) s h
        exact ⟨by omega, h2, h3⟩
theorem search2 (text : Array Nat) (p : Nat) (must : Bool) (hp : p ≤ text.size) : ∃ k, k ≤ 5 * text.size + 20 ∧ Says (it k (Sre.forSearch c2 text 0 p text.size must)) (nx2 text p) := by
  by_cases h : p = text.size
  · refine ⟨1, by omega, ?_⟩
    have e : nx2 text p = none := by
      unfold nx2
      rw [h, show text.size + 1 - text.size = 1 by omega]
      unfold findE
      rw [if_pos (Nat.le_refl _)]; rfl
    rw [e]
    unfold Sre.forSearch
    have hc : (decide (p > text.size) || decide (text.size - p < (Sre.header c2).1)) = true := by
      have : (Sre.header c2).1 = 1 := rfl
      rw [this]; simp; omega
    simp only [hc, if_true]
    rfl
  · let m0 : Sre.M := { code := c2, text, lim := text.size, start := p, lastStart := text.size, mustAdvance := must, pc := 10, pos := p, handed := p, marks := #[], seen := ({} : Sre.Seen).add 14 }
    have e : Sre.forSearch c2 text 0 p text.size must = (match Sre.M.admitted m0 (text.size + 1 - p) p m0.seen with
        | .ok (some s, sn) => Sre.M.attemptAt { m0 with mustAdvance := false, seen := sn } s true
        | .ok (none, sn) => Sre.M.say { m0 with seen := sn } false
        | .error why => m0.stick why) := by
      unfold Sre.forSearch
      have hc : (decide (p > text.size) || decide (text.size - p < (Sre.header c2).1)) = false := by
        have : (Sre.header c2).1 = 1 := rfl
        rw [this]; simp; omega
      simp only [hc, Bool.false_eq_true, if_false]
      rfl
    rw [e]
    obtain ⟨sn', e'⟩ := admitted2 (text := text) (m := m0) rfl rfl rfl (text.size + 1 - p) p m0.seen
    rw [e']
    unfold nx2
    cases hf : findE text (text.size + 1 - p) p with
    | none => exact ⟨1, by omega, rfl⟩
    | some s =>
      obtain ⟨h1, h2, h3⟩ := findE_spec text _ _ _ hf
      show ∃ k, k ≤ _ ∧ Says (it k (q text s s 10 s true [F0 s true] 1 none sn')) (some (endAt text s))
      unfold endAt
      by_cases hcr : text.getD s 0 = 13
      · by_cases hlf : s + 1 < text.size ∧ text.getD (s + 1) 0 = 10
        · rw [if_pos ⟨hcr, hlf⟩]
          exact ⟨8, by omega, run2_crlf h2 hcr hlf.1 hlf.2⟩
        · rw [if_neg (fun hh => hlf hh.2)]
          refine ⟨15, by omega, run2_cr h2 hcr ?_⟩
          by_cases hb : s + 1 < text.size
          · exact .inr fun hh => hlf ⟨hb, hh⟩
          · exact .inl (by omega)
      · rw [if_neg (fun hh => hcr hh.1)]
        refine ⟨9, by omega, run2_lf h2 ?_⟩
        unfold isEnd at h3
        rw [Bool.or_eq_true, beq_iff_eq, beq_iff_eq] at h3
        exact h3.resolve_right hcr
end Mine

-- Regex6
namespace Mine
open PySem.Builtin.Re

def flat (l : List (Str × Tok)) : List Nat := (l.map fun p => p.1.cps.toList).flatten
theorem flat_snoc (l : List (Str × Tok)) (x : Str) (t : Tok) : flat (l ++ [(x, t)]) = flat l ++ x.cps.toList := by simp [flat]
theorem flat_join : ∀ l : List (Str × Tok), Str.join (mkS []) (l.map (·.1)) = mkS (flat l)
  | [] => rfl
  | [p] => by
    show p.1 = mkS (flat [p])
    apply Str.ext'
    apply Array.toList_inj.mp
    simp [flat, mkS]
  | p :: r :: l => by
    show p.1 ++ mkS [] ++ Str.join (mkS []) ((r :: l).map (·.1)) = _
    rw [flat_join (r :: l)]
    apply Str.ext'
    apply Array.toList_inj.mp
    simp [flat, mkS, Str.cps_append]

section
variable {prog : Program} {w : World} {A : Around}
theorem small3 {k : Nat} (h : k ≤ 100000) : k ≤ sizeLine := by have : sizeLine = 2 ^ 24 := rfl; omega
theorem small {k : Nat} (h : k ≤ 10000) : k ≤ sizeLine := by have : sizeLine = 2 ^ 24 := rfl; omega

theorem runs_none {M : Model} {E : Value → Shared → Prop} {s : Shared} {m : Sre.M} {k : Nat} (hk : k ≤ 2 ^ 62) (h : Says (it k m) none) {Q : Option Sre.M → Shared → Prop} (hQ : Q none s) : wpAny M A (reRunToEnd m) Q E s := runs_to_end hk h hQ
theorem runs_some {M : Model} {E : Value → Shared → Prop} {s : Shared} {m : Sre.M} {k a b : Nat} (hk : k ≤ 2 ^ 62) (h : Says (it k m) (some (a, b))) {Q : Option Sre.M → Shared → Prop} (hQ : ∀ m', m'.start = a → m'.handed = b → Q (some m') s) : wpAny M A (reRunToEnd m) Q E s := runs_to_end hk h hQ

/-- the cutting of a text: what is found from p on, and what the whole becomes -/
structure Subst (code : Array Nat) (x : List Nat) (rp : List Nat) (nxt : Nat → Option (Nat × Nat)) (G : Nat → List Nat) : Prop where
  search : ∀ p must, p ≤ x.length → ∃ k, k ≤ 2 ^ 62 ∧ Says (it k (Sre.forSearch code x.toArray 0 p x.toArray.size must)) (nxt p)
  none : ∀ p, nxt p = none → G p = x.drop p
  some : ∀ p a b, nxt p = some (a, b) → p ≤ a ∧ a < b ∧ b ≤ x.length ∧ G p = (x.drop p).take (a - p) ++ rp ++ G b

theorem upd_push {h : Heap} {S : Addr} {l : List Value} {c : Nat} {v : Value} (hS : h.get? S = some { cls := .type "list", dict := none, data := .seq l.toArray c, slots := #[] }) :
    ∃ c', (h.update S (Obj.mapSeq (·.push v))).get? S = some { cls := .type "list", dict := none, data := .seq (l ++ [v]).toArray c', slots := #[] } := by
  have e := Heap.get?_update_self (Obj.mapSeq (·.push v)) hS rfl
  refine ⟨(match (Obj.mapSeq (·.push v) { cls := .type "list", dict := none, data := .seq l.toArray c, slots := #[] }).data with | .seq _ k => k | _ => 0), e.trans ?_⟩
  rw [← List.push_toArray]
  rfl

theorem sub_loop {code : Array Nat} {x rp : List Nat} {nxt : Nat → Option (Nat × Nat)} {G : Nat → List Nat} (B : Subst code x rp nxt G) {pa ca S : Addr} {t u : Tok} (hx : x.length ≤ 10000) {R : Result → Shared → Prop} :
    ∀ (N p : Nat) (n : Nat) (must : Bool) (s : Shared) (l : List (Str × Tok)) (c : Nat), N = x.length - p → p ≤ x.length → Pat s.heap pa ca code → pa ≠ S → ca ≠ S →
    s.heap.get? S = some { cls := .type "list", dict := none, data := .seq (strValues l).toArray c, slots := #[] } → l.length + 2 * N ≤ 30000 → (flat l ++ G p).length ≤ 100000 →
    (∀ h' tk t', (∀ b o, b ≠ S → s.heap.get? b = some o → h'.get? b = some o) → R (.ok (.ret (.str (mkS (flat l ++ G p)) t'))) { s with heap := h', toks := tk }) →
    codeAny (model prog w) A (.builtin "re.Pattern.sub.loop" ⟨[.ref pa, .str (mkS x) t, .str (mkS rp) u, rawInt 0, rawInt 0, rawInt n, rawInt p, rawInt p, .bool must, .ref S, .bool false], []⟩) R s := by
  intro N
  induction N using Nat.strongRecOn with
  | ind N ih =>
    intro p n must s l c hN hp P hpS hcS hS hl hG hR
    refine codeAny_builtin entry_pat_loop ?_
    rw [Around.under_plainId plain_pat_loop _]
    show wpAny _ A.in1 (reWholeTarget (.ref pa) (.str (mkS x) t) >>= _) _ _ s
    refine wpAny_bind (whole P ?_)
    show wpAny _ A.in1 (reLiteralCannotBeTurned (.str (mkS rp) u) >>= _) _ _ s
    refine wpAny_bind ?_
    show wpAny _ A.in1 (pure ()) _ _ s
    refine wpAny_pure ?_
    show wpAny _ A.in1 (reRunToEnd (Sre.forSearch code x.toArray 0 p x.toArray.size must) >>= _) _ _ s
    obtain ⟨k, hk, hsays⟩ := B.search p must hp
    cases hn : nxt p with
    | none =>
      rw [hn] at hsays
      refine wpAny_bind (runs_none hk hsays ?_)
      have hGp := B.none p hn
      have fin : ∀ (s1 : Shared) (l1 : List (Str × Tok)) (c1 : Nat), s1.heap.get? S = some { cls := .type "list", dict := none, data := .seq (strValues l1).toArray c1, slots := #[] } → flat l1 = flat l ++ G p →
          (∃ h tk, s1 = { s with heap := h, toks := tk }) → (∀ b o, b ≠ S → s.heap.get? b = some o → s1.heap.get? b = some o) →
          wpAny (model prog w) A.in1 (reSlice x.toArray 0 0 0 >>= fun joiner => seqItems? (.ref S) >>= fun it0 => if (it0.getD #[]).isEmpty = true then (pure joiner >>= fun text => ret text) else (call (.builtin "str.join") [joiner, .ref S] >>= fun text => ret text))
            (fun fin s' => match fin with | .done f => R (.ok f) s' | .again c' => c'.quiet = true ∧ codeAny (model prog w) A c' R s') (fun e s' => R (.error e) s') s1 := fun s1 l1 c1 hS1 hf hsame hkeep => by
        obtain ⟨hh, tk, rfl⟩ := hsame
        refine wpAny_bind ?_
        show wpAny _ A.in1 (mkStr ⟨x.toArray.extract 0 0⟩) _ _ _
        refine wpAny_mkStr ?_ (by simp [Str.length])
        have ej : (⟨x.toArray.extract 0 0⟩ : Str) = mkS [] := by simp [mkS]
        rw [ej]
        refine wpAny_bind (wpAny_seqItems hS1 rfl ?_)
        show wpAny _ A.in1 (if ((some (strValues l1).toArray).getD #[]).isEmpty = true then _ else _) _ _ _
        cases l1 with
        | nil =>
          refine wpAny_bind (wpAny_pure (wpAny_pure ?_))
          have := hR hh (tk + 1) tk hkeep
          rw [← hf] at this; exact this
        | cons y l1 =>
          rw [if_neg (by simp [strValues])]
          refine wpAny_bind (SC.join (x := mkS []) (texts := (y :: l1).map (·.1)) ⟨_, hS1, rfl, _, rfl⟩ rfl ?_ fun t' k' => wpAny_pure ?_)
          · unfold JoinOk
            rw [StrLaws.joinTotal]
            have : ∀ l2 : List (Str × Tok), ((l2.map (·.1)).map (·.length)).sum = (flat l2).length := fun l2 => by
              induction l2 with
              | nil => rfl
              | cons z l2 ih2 => simp [flat, Str.length] at ih2 ⊢; omega
            rw [this, hf]
            have e0 : (mkS []).length = 0 := rfl
            rw [e0, Nat.mul_zero, Nat.add_zero]
            unfold Builtin.Str.tooLong
            have : sizeLine = 2 ^ 24 := rfl
            have h9 := hG
            rw [List.length_append] at h9
            simp
            omega
          · have e1 : Txt.join (mkS []) ((y :: l1).map (·.1)) = mkS (flat l ++ G p) := by
              show Builtin.Str.glued _ _ = _
              rw [StrLaws.glued_eq_join, flat_join, hf]
            rw [e1]
            exact hR hh k' t' hkeep
      show wpAny _ A.in1 (if (p : Int).toNat < x.toArray.size then (reSlice x.toArray 0 (p : Int).toNat x.toArray.size >>= fun v => updateSeq S (·.push v) >>= fun _ => _) else _) _ _ s
      split
      · rename_i hlt
        have hp2 : (p : Int).toNat = p := rfl
        refine wpAny_bind ?_
        show wpAny _ A.in1 (mkStr ⟨x.toArray.extract (p : Int).toNat x.toArray.size⟩) _ _ _
        refine wpAny_mkStr ?_ (by simp [Str.length]; have : sizeLine = 2 ^ 24 := rfl; omega)
        refine wpAny_bind (wpAny_updateSeq hS rfl ?_ (by simp [strValues]; have : sizeLine = 2 ^ 24 := rfl; omega) (by simp [strValues]; have : sizeLine = 2 ^ 24 := rfl; omega))
        obtain ⟨c', hS'⟩ := upd_push (v := .str ⟨x.toArray.extract (p : Int).toNat x.toArray.size⟩ s.toks) hS
        have e1 : strValues l ++ [Value.str ⟨x.toArray.extract (p : Int).toNat x.toArray.size⟩ s.toks] = strValues (l ++ [(⟨x.toArray.extract (p : Int).toNat x.toArray.size⟩, s.toks)]) := by simp [strValues]
        rw [e1] at hS'
        refine fin _ (l ++ [(⟨x.toArray.extract (p : Int).toNat x.toArray.size⟩, s.toks)]) c' hS' ?_ ⟨_, _, rfl⟩ fun b o hb e => (Heap.get?_update_other _ _ (Ne.symm hb)).trans e
        rw [flat_snoc, hGp]
        congr 1
        simp
        exact List.take_of_length_le (by simp)
      · rename_i hlt
        refine fin s l c hS ?_ ⟨_, _, rfl⟩ fun _ _ _ e => e
        rw [hGp, List.drop_of_length_le (by simpa using hlt)]; simp
    | some ab =>
      obtain ⟨a, b⟩ := ab
      obtain ⟨h1, h2, h3, h4⟩ := B.some p a b hn
      rw [hn] at hsays
      refine wpAny_bind (runs_some hk hsays fun m' hs' hh' => ?_)
      have hNlt : x.length - b < N := by omega
      have fin : ∀ (s1 : Shared) (l1 : List (Str × Tok)) (c1 : Nat), s1.heap.get? S = some { cls := .type "list", dict := none, data := .seq (strValues l1).toArray c1, slots := #[] } → flat l1 = flat l ++ (x.drop p).take (a - p) → l1.length ≤ l.length + 1 →
          (∃ h tk, s1 = { s with heap := h, toks := tk }) → (∀ b o, b ≠ S → s.heap.get? b = some o → s1.heap.get? b = some o) →
          wpAny (model prog w) A.in1 (updateSeq S (·.push (.str (mkS rp) u)) >>= fun _ => again (.builtin "re.Pattern.sub.loop" ⟨[.ref pa, .str (mkS x) t, .str (mkS rp) u, rawInt 0, rawInt 0, rawInt ((n : Int) + 1), rawInt (m'.handed : Int), rawInt (m'.handed : Int), .bool (m'.handed == a), .ref S, .bool false], []⟩))
            (fun fin s' => match fin with | .done f => R (.ok f) s' | .again c' => c'.quiet = true ∧ codeAny (model prog w) A c' R s') (fun e s' => R (.error e) s') s1 := fun s1 l1 c1 hS1 hf hl1 hsame hkeep => by
        obtain ⟨hh, tk, rfl⟩ := hsame
        refine wpAny_bind (wpAny_updateSeq hS1 rfl ?_ (by simp [strValues]; have : sizeLine = 2 ^ 24 := rfl; omega) (by simp [strValues]; have : sizeLine = 2 ^ 24 := rfl; omega))
        obtain ⟨c', hS'⟩ := upd_push (v := .str (mkS rp) u) hS1
        have e1 : strValues l1 ++ [Value.str (mkS rp) u] = strValues (l1 ++ [(mkS rp, u)]) := by simp [strValues]
        rw [e1] at hS'
        have hk2 : ∀ b o, b ≠ S → s.heap.get? b = some o → (hh.update S (Obj.mapSeq (·.push (.str (mkS rp) u)))).get? b = some o := fun b o hb e => (Heap.get?_update_other _ _ (Ne.symm hb)).trans (hkeep b o hb e)
        have hP2 : Pat (hh.update S (Obj.mapSeq (·.push (.str (mkS rp) u)))) pa ca code := by
          obtain ⟨⟨o, fs, i, j, ho, hr⟩, ⟨o', items, n', ho', hr'⟩⟩ := P
          exact ⟨⟨o, fs, i, j, hk2 _ _ hpS ho, hr⟩, ⟨o', items, n', hk2 _ _ hcS ho', hr'⟩⟩
        have hflat : flat (l1 ++ [(mkS rp, u)]) ++ G b = flat l ++ G p := by
          rw [flat_snoc, hf, h4, mkS_list]; simp
        refine wpAny_pure ⟨plainId_quiet plain_pat_loop _, ?_⟩
        rw [hh']
        have en : ((n : Int) + 1) = ((n + 1 : Nat) : Int) := by push_cast; rfl
        rw [en]
        refine ih (x.length - b) hNlt b (n + 1) _ _ (l1 ++ [(mkS rp, u)]) c' rfl h3 hP2 hpS hcS hS' (by simp; omega) (by rw [hflat]; exact hG) fun h'' tk'' t'' hk'' => ?_
        rw [hflat]
        exact hR h'' tk'' t'' fun b o hb e => hk'' b o hb (hk2 b o hb e)
      show wpAny _ A.in1 (if (p : Int).toNat < m'.start then (reSlice x.toArray 0 (p : Int).toNat m'.start >>= fun v => updateSeq S (·.push v) >>= fun _ => _) else _) _ _ s
      rw [hs']
      split
      · rename_i hlt
        refine wpAny_bind ?_
        show wpAny _ A.in1 (mkStr ⟨x.toArray.extract (p : Int).toNat a⟩) _ _ _
        refine wpAny_mkStr ?_ (by simp [Str.length]; have : sizeLine = 2 ^ 24 := rfl; omega)
        refine wpAny_bind (wpAny_updateSeq hS rfl ?_ (by simp [strValues]; have : sizeLine = 2 ^ 24 := rfl; omega) (by simp [strValues]; have : sizeLine = 2 ^ 24 := rfl; omega))
        obtain ⟨c', hS'⟩ := upd_push (v := .str ⟨x.toArray.extract (p : Int).toNat a⟩ s.toks) hS
        have e1 : strValues l ++ [Value.str ⟨x.toArray.extract (p : Int).toNat a⟩ s.toks] = strValues (l ++ [(⟨x.toArray.extract (p : Int).toNat a⟩, s.toks)]) := by simp [strValues]
        rw [e1] at hS'
        refine wpAny_bind (wpAny_pure ?_)
        refine fin _ (l ++ [(⟨x.toArray.extract (p : Int).toNat a⟩, s.toks)]) c' hS' ?_ (by simp) ⟨_, _, rfl⟩ fun b o hb e => (Heap.get?_update_other _ _ (Ne.symm hb)).trans e
        rw [flat_snoc]
        congr 1
        simp
      · rename_i hlt
        refine wpAny_bind (wpAny_pure ?_)
        refine fin s l c hS ?_ (by omega) ⟨_, _, rfl⟩ fun _ _ _ e => e
        have : a - p = 0 := by have : (p : Int).toNat = p := rfl; omega
        rw [this]; simp
end
end Mine

-- Regex7
namespace Mine
open PySem.Builtin.Re
section
variable {prog : Program} {w : World} {A : Around} {E : Value → Shared → Prop} {s : Shared}

theorem no_call_str : typeLookup (.type "str") "__call__" = pure none := by rw [typeLookup_type, builtinLookup_eq_fast]; kernel_rfl

theorem pat_sub {code : Array Nat} {x rp : List Nat} {nxt : Nat → Option (Nat × Nat)} {G : Nat → List Nat} (B : Subst code x rp nxt G) {pa ca : Addr} {t u : Tok} (hx : x.length ≤ 10000) (hG : (G 0).length ≤ 100000)
    (hrp : (mkS rp).cps.contains 92 = false) (P : Pat s.heap pa ca code) {Q : Value → Shared → Prop}
    (hQ : ∀ h' tk t', (∀ b o, s.heap.get? b = some o → h'.get? b = some o) → Q (.str (mkS (G 0)) t') { s with heap := h', toks := tk }) :
    wpAny (model prog w) A (call (.builtin "re.Pattern.sub") [.ref pa, .str (mkS rp) u, .str (mkS x) t]) Q E s := by
  have hT : s.TypeIs (.ref pa) "re.Pattern" := by obtain ⟨o, fs, i, j, ho, hc, _⟩ := P.pat; exact ⟨o, ho, hc⟩
  refine wpAny_call (codeAny_call_builtin slot_pat_sub.plain entry_pat_sub (slot_pat_sub.check _ _ _ _ _ _ _ _ hT (args_pat_sub _ _ _) ?_))
  show wpAny _ A.in1 (reNamed "re.Pattern.sub" "sub" ["repl", "string", "count"] 2 [.str (mkS rp) u, .str (mkS x) t] [] >>= _) _ _ s
  refine wpAny_bind (wpAny_of_eq (show reNamed "re.Pattern.sub" "sub" ["repl", "string", "count"] 2 [.str (mkS rp) u, .str (mkS x) t] [] = pure [some (.str (mkS rp) u), some (.str (mkS x) t), none] from rfl) ?_)
  refine wpAny_bind (wpAny_pure ?_)
  refine wpAny_bind (wpAny_specialOf (typeIs_str _ _ _) no_call_str ?_)
  refine wpAny_bind (wpAny_pure ?_)
  show wpAny _ A.in1 (pure (!(mkS rp).cps.contains 92) >>= _) _ _ s
  rw [hrp]
  refine wpAny_bind (wpAny_pure ?_)
  show wpAny _ A.in1 (pure (Value.str (mkS rp) u, (0 : Int)) >>= _) _ _ s
  refine wpAny_bind (wpAny_pure ?_)
  show wpAny _ A.in1 (holding [.str (mkS rp) u] (reWholeTarget (.ref pa) (.str (mkS x) t)) >>= _) _ _ s
  refine wpAny_bind (wpAny_holding (whole P ?_))
  show wpAny _ A.in1 (newList [] >>= _) _ _ s
  refine wpAny_bind (wpAny_newObj_type ?_ (by size_fits))
  refine wpAny_pure ⟨plainId_quiet plain_pat_loop _, ?_⟩
  have hP2 : Pat (s.heap.push { cls := .type "list", data := .seq ([] : List Value).toArray }) pa ca code := by
    obtain ⟨⟨o, fs, i, j, ho, hr⟩, ⟨o', items, n', ho', hr'⟩⟩ := P
    exact ⟨⟨o, fs, i, j, Heap.get?_push_of_some _ ho, hr⟩, ⟨o', items, n', Heap.get?_push_of_some _ ho', hr'⟩⟩
  have hne1 : pa ≠ s.heap.objs.size := by obtain ⟨o, fs, i, j, ho, _⟩ := P.pat; exact Nat.ne_of_lt (Heap.lt_size ho)
  have hne2 : ca ≠ s.heap.objs.size := by obtain ⟨o, its, k, ho, _⟩ := P.code; exact Nat.ne_of_lt (Heap.lt_size ho)
  refine sub_loop B hx (S := s.heap.objs.size) (x.length - 0) 0 0 false _ [] 0 rfl (Nat.zero_le _) hP2 hne1 hne2 (Heap.get?_push_size _ rfl) (by simp; omega) (by simpa [flat] using hG) fun h' tk t' hk => ?_
  have e : flat [] ++ G 0 = G 0 := by simp [flat]
  rw [e]
  exact hQ h' tk t' fun b o hb => hk b o (Nat.ne_of_lt (Heap.lt_size hb)) (Heap.get?_push_of_some _ hb)
end
end Mine

-- Laws3
namespace Mine

theorem getD_arr (x : List Nat) (i : Nat) : x.toArray.getD i 0 = x.getD i 0 := by simp [List.getD]
theorem drop_cons {x : List Nat} {i : Nat} (h : i < x.length) : x.drop i = x.getD i 0 :: x.drop (i + 1) := by
  rw [List.drop_eq_getElem_cons h]
  simp [List.getD, h]

-- line ends
theorem findE_none (x : List Nat) : ∀ (n p : Nat), n = x.length + 1 - p → findE x.toArray n p = none → Free (x.drop p)
  | 0, p, hn, h => by rw [List.drop_of_length_le (by omega)]; exact free_nil
  | n + 1, p, hn, h => by
    unfold findE at h
    split at h
    · rename_i hge; rw [List.drop_of_length_le (by simpa using hge)]; exact free_nil
    · rename_i hlt
      have hl : p < x.length := by simpa using hlt
      split at h
      · cases h
      · rename_i he
        rw [drop_cons hl]
        refine free_cons ?_ (findE_none x n (p + 1) (by omega) h)
        rw [getD_arr] at he
        unfold isEnd at he
        simp only [Bool.or_eq_true, beq_iff_eq, not_or] at he
        exact ⟨he.2, he.1⟩
theorem findE_some (x : List Nat) : ∀ (n p s : Nat), findE x.toArray n p = some s → p ≤ s ∧ s < x.length ∧ Free ((x.drop p).take (s - p)) ∧ (x.getD s 0 = 13 ∨ x.getD s 0 = 10)
  | 0, p, s, h => by cases h
  | n + 1, p, s, h => by
    unfold findE at h
    split at h
    · cases h
    · rename_i hlt
      have hl : p < x.length := by simpa using hlt
      split at h
      · rename_i he
        cases h
        refine ⟨Nat.le_refl _, hl, by rw [Nat.sub_self]; exact free_nil, ?_⟩
        rw [getD_arr] at he
        unfold isEnd at he
        simp only [Bool.or_eq_true, beq_iff_eq] at he
        exact he.symm
      · rename_i he
        obtain ⟨h1, h2, h3, h4⟩ := findE_some x n (p + 1) s h
        refine ⟨by omega, h2, ?_, h4⟩
        rw [drop_cons hl, show s - p = (s - (p + 1)) + 1 by omega, List.take_succ_cons]
        refine free_cons ?_ h3
        rw [getD_arr] at he
        unfold isEnd at he
        simp only [Bool.or_eq_true, beq_iff_eq, not_or] at he
        exact ⟨he.2, he.1⟩

theorem take_drop_at {x : List Nat} {p s : Nat} (h1 : p ≤ s) : x.drop p = (x.drop p).take (s - p) ++ x.drop s := by
  have := List.take_append_drop (s - p) (x.drop p)
  rw [List.drop_drop, show p + (s - p) = s by omega] at this
  exact this.symm
theorem join_cons (sep x : List Nat) : ∀ l : List (List Nat), l ≠ [] → joinL sep (x :: l) = x ++ sep ++ joinL sep l
  | [], h => absurd rfl h
  | y :: l, _ => rfl

theorem subst2 (x : List Nat) (hx : x.length ≤ 10000) : Subst c2 x [13, 10] (nx2 x.toArray) (fun p => joinL [13, 10] (lns (x.drop p))) where
  search := fun p must hp => by
    obtain ⟨k, hk, hs⟩ := search2 x.toArray p must (by simpa using hp)
    exact ⟨k, by simp at hk; omega, hs⟩
  none := fun p h => by
    unfold nx2 at h
    rw [Option.map_eq_none_iff] at h
    show joinL _ (lns (x.drop p)) = _
    rw [lns_free_row _ (findE_none x _ p (by simp) h)]; rfl
  some := fun p a b h => by
    unfold nx2 at h
    obtain ⟨s, hs, he⟩ := Option.map_eq_some_iff.mp h
    obtain ⟨h1, h2, h3, h4⟩ := findE_some x _ p s hs
    unfold endAt at he
    rw [getD_arr, getD_arr] at he
    split at he
    · rename_i hc
      cases he
      have hb : a + 1 < x.length := by simpa using hc.2.1
      refine ⟨h1, by omega, by omega, ?_⟩
      show joinL _ (lns (x.drop p)) = _
      have e : x.drop p = (x.drop p).take (a - p) ++ 13 :: 10 :: x.drop (a + 2) := by
        have := take_drop_at (x := x) h1
        rw [drop_cons h2, hc.1, drop_cons hb, hc.2.2] at this
        exact this
      have e2 : lns (x.drop p) = (x.drop p).take (a - p) :: lns (x.drop (a + 2)) := (congrArg lns e).trans (lns_crlf _ h3 _)
      rw [e2, join_cons _ _ _ (lns_ne _)]
    · rename_i hc
      cases he
      refine ⟨h1, by omega, by omega, ?_⟩
      show joinL _ (lns (x.drop p)) = _
      have e : x.drop p = (x.drop p).take (a - p) ++ x.getD a 0 :: x.drop (a + 1) := by
        have := take_drop_at (x := x) h1
        rw [drop_cons h2] at this
        exact this
      have e2 : lns (x.drop p) = (x.drop p).take (a - p) :: lns (x.drop (a + 1)) := (congrArg lns e).trans (lns_row _ h3 _ _ h4 fun hh => hc ⟨hh.1, by
        by_cases hb : a + 1 < x.length
        · refine ⟨by simpa using hb, ?_⟩
          have := hh.2
          rw [drop_cons hb] at this
          simpa using this
        · have := hh.2
          rw [List.drop_of_length_le (by omega)] at this
          cases this⟩)
      rw [e2, join_cons _ _ _ (lns_ne _)]

-- dots
def dbl : Bool → List Nat → List Nat
  | _, [] => []
  | b, c :: r => if b = true ∧ c = 46 then 46 :: 46 :: dbl false r else c :: dbl (c == 10) r
theorem dbl_cons (b : Bool) (c : Nat) (r : List Nat) : dbl b (c :: r) = if b = true ∧ c = 46 then 46 :: 46 :: dbl false r else c :: dbl (c == 10) r := rfl
def bolL (x : List Nat) (p : Nat) : Bool := p == 0 || x.getD (p - 1) 0 == 10
theorem bol_arr (x : List Nat) (p : Nat) : bol x.toArray p = bolL x p := by unfold bol bolL; rw [getD_arr]
theorem bol_succ (x : List Nat) (p : Nat) : bolL x (p + 1) = (x.getD p 0 == 10) := by simp [bolL]

theorem find1_none (x : List Nat) : ∀ (n p : Nat), n = x.length - p → find1 x.toArray n p = none → dbl (bolL x p) (x.drop p) = x.drop p
  | 0, p, hn, h => by rw [List.drop_of_length_le (by omega)]; rfl
  | n + 1, p, hn, h => by
    unfold find1 at h
    have hl : p < x.length := by omega
    rw [bol_arr, getD_arr] at h
    split at h
    · cases h
    · rename_i hc
      have ih := find1_none x n (p + 1) (by omega) h
      rw [bol_succ] at ih
      rw [drop_cons hl, dbl_cons, if_neg (by simpa using hc), ih]
theorem find1_some (x : List Nat) : ∀ (n p s : Nat), n = x.length - p → find1 x.toArray n p = some s → p ≤ s ∧ s < x.length ∧ dbl (bolL x p) (x.drop p) = (x.drop p).take (s - p) ++ [46, 46] ++ dbl (bolL x (s + 1)) (x.drop (s + 1))
  | 0, p, s, hn, h => by cases h
  | n + 1, p, s, hn, h => by
    unfold find1 at h
    have hl : p < x.length := by omega
    rw [bol_arr, getD_arr] at h
    split at h
    · rename_i hc
      cases h
      have hc' : bolL x p = true ∧ x.getD p 0 = 46 := by simpa using hc
      refine ⟨Nat.le_refl _, hl, ?_⟩
      rw [drop_cons hl, dbl_cons, if_pos hc', bol_succ, hc'.2]
      simp
    · rename_i hc
      obtain ⟨h1, h2, h3⟩ := find1_some x n (p + 1) s (by omega) h
      refine ⟨by omega, h2, ?_⟩
      rw [bol_succ] at h3
      rw [drop_cons hl, dbl_cons, if_neg (by simpa using hc), h3, show s - p = (s - (p + 1)) + 1 by omega, List.take_succ_cons]
      simp

theorem subst1 (x : List Nat) (hx : x.length ≤ 10000) : Subst c1 x [46, 46] (nx1 x.toArray) (fun p => dbl (bolL x p) (x.drop p)) where
  search := fun p must hp => by
    obtain ⟨k, hk, hs⟩ := search1 x.toArray p must (by simpa using hp)
    exact ⟨k, by simp at hk; omega, hs⟩
  none := fun p h => by
    unfold nx1 at h
    rw [Option.map_eq_none_iff] at h
    exact find1_none x _ p (by simp) h
  some := fun p a b h => by
    unfold nx1 at h
    obtain ⟨s, hs, he⟩ := Option.map_eq_some_iff.mp h
    cases he
    obtain ⟨h1, h2, h3⟩ := find1_some x _ p a (by simp) hs
    exact ⟨h1, Nat.lt_succ_self _, h2, h3⟩

theorem dbl_free : ∀ (x : List Nat), Free x → ∀ r, dbl false (x ++ r) = x ++ dbl (if x = [] then false else false) r
  | [], _, r => rfl
  | c :: x, h, r => by
    show dbl false (c :: (x ++ r)) = _
    have hc := h c (by simp)
    have h10 : (c == 10) = false := by simpa using hc.2
    rw [dbl_cons, if_neg (by simp), h10, dbl_free x h.tail r]
    simp
theorem dbl_row (x : List Nat) (h : Free x) (r : List Nat) : dbl true (x ++ r) = if x = [] then dbl true r else dq x ++ dbl false r := by
  cases x with
  | nil => rfl
  | cons c x =>
    have hc := h c (by simp)
    have h10 : (c == 10) = false := by simpa using hc.2
    show dbl true (c :: (x ++ r)) = _
    rw [if_neg (by simp), dbl_cons]
    have hx := dbl_free x h.tail r
    simp only [ite_self] at hx
    by_cases h46 : c = 46
    · rw [if_pos ⟨rfl, h46⟩, hx]; simp [dq, h46]
    · rw [if_neg (fun hh => h46 hh.2), h10, hx]; simp [dq, h46]
theorem dbl_join : ∀ rows : List (List Nat), (∀ p ∈ rows, Free p) → dbl true (joinL [13, 10] rows) = joinL [13, 10] (rows.map dq)
  | [], _ => rfl
  | [x], h => by
    show dbl true x = dq x
    have := dbl_row x (h x (by simp)) []
    rw [List.append_nil] at this
    rw [this]
    cases x with
    | nil => rfl
    | cons c x => simp [dbl]
  | x :: y :: r, h => by
    have ih := dbl_join (y :: r) fun p hp => h p (List.mem_cons_of_mem _ hp)
    show dbl true (x ++ [13, 10] ++ joinL [13, 10] (y :: r)) = dq x ++ [13, 10] ++ joinL [13, 10] ((y :: r).map dq)
    rw [List.append_assoc, dbl_row x (h x (by simp)), ← ih]
    cases x with
    | nil => simp [dbl, dq]
    | cons c x => simp [dbl]
theorem quo_eq (x : List Nat) : dbl true (joinL [13, 10] (lns x)) = quo x := dbl_join _ (lns_free x)
end Mine

-- Walk2
namespace Mine

theorem dq_len : ∀ p : List Nat, p.length ≤ (dq p).length ∧ (dq p).length ≤ p.length + 1
  | [] => by simp [dq]
  | c :: p => by show p.length + 1 ≤ (if c = 46 then 46 :: 46 :: p else c :: p).length ∧ (if c = 46 then 46 :: 46 :: p else c :: p).length ≤ p.length + 1 + 1; split <;> simp
theorem len_consHead (f : List Nat → List Nat) (hf : ∀ p, p.length ≤ (f p).length ∧ (f p).length ≤ p.length + 1) (c : Nat) : ∀ l : List (List Nat), l ≠ [] → (joinL [13, 10] ((consHead c l).map f)).length ≤ (joinL [13, 10] (l.map f)).length + 2
  | [], h => absurd rfl h
  | [p], _ => by
    have h1 := (hf p).1
    have h2 := (hf (c :: p)).2
    simp [consHead, joinL] at h2 ⊢
    omega
  | p :: r :: l, _ => by
    have h1 := (hf p).1
    have h2 := (hf (c :: p)).2
    simp [consHead, joinL] at h2 ⊢
    omega
theorem len_nilHead (f : List Nat → List Nat) (hf0 : f [] = []) : ∀ l : List (List Nat), l ≠ [] → (joinL [13, 10] (([] :: l).map f)).length ≤ (joinL [13, 10] (l.map f)).length + 2
  | [], h => absurd rfl h
  | p :: l, _ => by simp [joinL, hf0]
theorem len_lns (f : List Nat → List Nat) (hf : ∀ p, p.length ≤ (f p).length ∧ (f p).length ≤ p.length + 1) (hf0 : f [] = []) : ∀ s, (joinL [13, 10] ((lns s).map f)).length ≤ 2 * s.length
  | [] => by simp [lns, joinL, hf0]
  | [c] => by
    have := (hf [c]).2
    unfold lns
    split <;> simp [joinL, hf0] at this ⊢
    omega
  | c :: d :: r => by
    rw [lns_cons]
    split
    · have h1 := len_nilHead f hf0 _ (lns_ne r)
      have h2 := len_lns f hf hf0 r
      simp at h1 h2 ⊢; omega
    · split
      · have h1 := len_nilHead f hf0 _ (lns_ne (d :: r))
        have h2 := len_lns f hf hf0 (d :: r)
        simp at h1 h2 ⊢; omega
      · have h1 := len_consHead f hf c _ (lns_ne (d :: r))
        have h2 := len_lns f hf hf0 (d :: r)
        simp at h1 h2 ⊢; omega
theorem len_quo (s : List Nat) : (quo s).length ≤ 2 * s.length := len_lns dq dq_len rfl s
theorem len_nl (s : List Nat) : (joinL [13, 10] (lns s)).length ≤ 2 * s.length := by
  have := len_lns id (fun p => ⟨Nat.le_refl _, Nat.le_succ _⟩) rfl s
  simpa using this

section
variable {prog : Program} {w : World} {hT : Heap} {n : Nat} {env : Env} {ρ : List (Str × D)} {σ : List (List D)} {mg mb : Str → Option Value}

/-- the method sub of a compiled pattern of the text's -/
theorem Ev.patsub {x p apos e1 e2 pos pa ca code rp y nxt} {G : Nat → List Nat} (GG : GL hT mg mb) (hv : mg x = some (.ref pa)) (P : Pat hT pa ca code) (hdict : ∃ o, hT.get? pa = some o ∧ o.dict = none)
    (B : Subst code y rp nxt G) (hy : y.length ≤ 10000) (hG : (G 0).length ≤ 100000) (hrp : (mkS rp).cps.contains 92 = false)
    (h1 : Ev prog w hT n env ρ σ e1 (.str rp)) (h2 : Ev prog w hT n env ρ σ e2 (.str y))
    (hbase : attributeBase (.Name x p) (Str.ofString "sub") env (eval (.Name x p) env) = eval (.Name x p) env := by rfl) (hp1 : plainE e1 = true := by rfl) (hp2 : plainE e2 = true := by rfl)
    (hk : env.kindOf x = some .globalImplicit := by rfl) (hg : env.globals = mainGlobals := by rfl) (hline : (apos.endLine == pos.line) = true := by rfl) (hdb : (x == ("__debug__" : Str)) = false := by decide) :
    Ev prog w hT n env ρ σ (.Call (.Attribute (.Name x p) (Str.ofString "sub") apos) [e1, e2] [] pos) (.str (G 0)) := .of fun A hA s μ fz S Q E hQ => by
  have hns := starEach_two (env := env) hp1 hp2
  refine wpAny_Call_method hbase (by rw [hns]; rfl) hline plainAttrs_pat slot_pat_sub type_pat_sub (glob_name GG S hk hg hv ?_ hdb)
  have hTs : ∀ a o, hT.get? a = some o → s.heap.get? a = some o := fun a o e => S.sub a o (S.top a o e)
  refine ⟨?_, ?_, ?_⟩
  · obtain ⟨o, fs, i, j, ho, hc, _⟩ := P.pat; exact ⟨o, hTs _ _ ho, hc⟩
  · intro b hb
    cases hb
    obtain ⟨o, ho, hd⟩ := hdict
    exact ⟨o, hTs _ _ ho, hd⟩
  · refine Calls.callWith_builtin (by rw [hns]; rfl) (args_run hA S (Evs.cons h1 (Evs.cons h2 Evs.nil (starEach_plain hp2)) (starEach_plain hp1)) (starEach_plain hp1) fun vs fz1 s1 X1 r1 => ?_)
    obtain ⟨v1, vs1, rfl, ⟨u, rfl⟩, v2, vs2, rfl, ⟨t, rfl⟩, r3⟩ := r1
    cases r3
    have P1 : Pat s1.heap pa ca code := by
      obtain ⟨⟨o, fs, i, j, ho, hr⟩, ⟨o', items, n', ho', hr'⟩⟩ := P
      exact ⟨⟨o, fs, i, j, keeps_get X1.keeps _ _ (hTs _ _ ho), hr⟩, ⟨o', items, n', keeps_get X1.keeps _ _ (hTs _ _ ho'), hr'⟩⟩
    refine pat_sub B hy hG hrp P1 fun h' tk t' hk => ?_
    exact hQ _ fz1 _ (X1.trans (.keep X1.sub ⟨h', tk, rfl, hk⟩)) ⟨t', rfl⟩

structure Pats (hT : Heap) (mg : Str → Option Value) : Prop where
  one : ∃ a c, mg (Str.ofString "_twin_re_1") = some (.ref a) ∧ Pat hT a c c1 ∧ ∃ o, hT.get? a = some o ∧ o.dict = none
  two : ∃ a c, mg (Str.ofString "_twin_re_2") = some (.ref a) ∧ Pat hT a c c2 ∧ ∃ o, hT.get? a = some o ∧ o.dict = none
  crlf : ∃ t, mg (Str.ofString "CRLF") = some (.str (mkS [13, 10]) t)

theorem w_quo (G : GL hT mg mb) (P : Pats hT mg) (hd : Def hT mg (defAt 5)) (x : List Nat) (hx : x.length ≤ 5000) : FnN prog w hT mg 1 (defAt 5).name [.str x] (.str (quo x)) := by
  refine FnN.mk (xs := [Str.ofString "data"]) G hd (fun pm code doc vs hv => ?_) (fun N x hx => ?_) (by decide) rfl rfl rfl fun pm code doc L f => ?_
  · match vs, hv with
    | [v], _ => rfl
  · simp at hx; subst hx; left; rfl
  · obtain ⟨a1, k1, m1, P1, D1⟩ := P.one
    obtain ⟨a2, k2, m2, P2, D2⟩ := P.two
    obtain ⟨t, mc⟩ := P.crlf
    have l1 := len_nl x
    have l2 := len_quo x
    have e : quo x = dbl (bolL (joinL [13, 10] (lns x)) 0) ((joinL [13, 10] (lns x)).drop 0) := by rw [List.drop_zero]; exact (quo_eq x).symm
    refine Ex.cons (Ex1.ret (d := .str (quo x)) ?_ rfl)
    rw [e]
    refine Ev.patsub (nxt := nx1 (joinL [13, 10] (lns x)).toArray) (G := fun p => dbl (bolL (joinL [13, 10] (lns x)) p) ((joinL [13, 10] (lns x)).drop p)) G m1 P1 D1 (subst1 _ (by omega)) (by omega) (by show (dbl (bolL (joinL [13, 10] (lns x)) 0) ((joinL [13, 10] (lns x)).drop 0)).length ≤ _; rw [← e]; omega) (by decide +kernel) ?_ ?_
    · exact Ev.str
    · exact Ev.patsub (nxt := nx2 x.toArray) (G := fun p => joinL [13, 10] (lns (x.drop p))) G m2 P2 D2 (subst2 x (by omega)) (by omega) (by show (joinL [13, 10] (lns x)).length ≤ _; omega) (by decide +kernel) (Ev.glob G mc ⟨t, rfl⟩ rfl) (Ev.name rfl)
end
end Mine

-- Walk3
namespace Mine

local macro_rules | `(tactic| walk_at "op") => `(tactic| first
  | with_reducible exact Op2.add_int | with_reducible exact Op2.sub_int | with_reducible exact Op2.and_int | with_reducible exact Op2.add_str | with_reducible exact Op2.eq_int | with_reducible exact Op2.ne_int | with_reducible exact Op2.gt_int | with_reducible exact Op2.eq_str | with_reducible exact Op2.ne_bool | with_reducible exact Op2.in_str
  | exact Op2.mul_int (by first | decide | assumption) | exact Op2.mod_int (by decide))
local macro_rules | `(tactic| walk_at "ev") => `(tactic| first
  | with_reducible exact Ev.int | with_reducible exact Ev.str | with_reducible exact Ev.bool
  | ((with_reducible show Ev _ _ _ _ _ _ _ (Expr.Name _ _) _); exact Ev.name rfl)
  | ((with_reducible show Ev _ _ _ _ _ _ _ (Expr.BinOp _ _ _ _) _); exact Ev.bin (by walk_at "ev") (by walk_at "ev") (by walk_at "op"))
  | ((with_reducible show Ev _ _ _ _ _ _ _ (Expr.Compare _ _ _ _) _); exact Ev.cmp (by walk_at "ev") (by walk_at "ev") (by walk_at "op"))
  | ((with_reducible show Ev _ _ _ _ _ _ _ (Expr.UnaryOp _ _ _) _); exact Ev.neg (by walk_at "ev"))
  | ((with_reducible show Ev _ _ _ _ _ _ _ (Expr.List _ _) _); exact Ev.list (by walk_at "evs") (small (by simp)))
  | ((with_reducible show Ev _ _ _ _ _ _ _ (Expr.Tuple _ _ _) _); exact Ev.tuple (by walk_at "evs") (small (by simp))))
local macro_rules | `(tactic| walk_at "evs") => `(tactic| first
  | exact Evs.nil
  | exact Evs.cons (by walk_at "ev") (by walk_at "evs"))

section
variable {prog : Program} {w : World} {hT : Heap} {n : Nat} {env : Env} {ρ : List (Str × D)} {σ : List (List D)} {mg mb : Str → Option Value}

structure Bt (mg mb : Str → Option Value) : Prop where
  range : mg (Str.ofString "range") = none ∧ mb (Str.ofString "range") = some (.type "range")
  len : mg (Str.ofString "len") = none ∧ mb (Str.ofString "len") = some (.builtin "len")
  sum : mg (Str.ofString "sum") = none ∧ mb (Str.ofString "sum") = some (.builtin "sum")
  enum : mg (Str.ofString "enumerate") = none ∧ mb (Str.ofString "enumerate") = some (.type "enumerate")

theorem w_ifmt (G : GL hT mg mb) (hd : Def hT mg (defAt 7)) (mode : Int) : FnN prog w hT mg 1 (defAt 7).name [.int mode] (.int (Builtin.bitAnd mode 61440)) := by
  refine FnN.mk (xs := [Str.ofString "mode"]) G hd (fun pm code doc vs hv => ?_) (fun N x hx => ?_) (by decide) rfl rfl rfl fun pm code doc L f => ?_
  · match vs, hv with
    | [v], _ => rfl
  · simp at hx; subst hx; left; rfl
  · exact .cons (.ret (by walk_at "ev") rfl)

def bitsL : List Int := [256, 128, 64, 2048, 32, 16, 8, 1024, 4, 2, 1, 512]
theorem w_bits (G : GL hT mg mb) (hd : Def hT mg (defAt 30)) : FnN prog w hT mg 1 (defAt 30).name [] (.list (bitsL.map D.int)) := by
  refine FnN.mk (xs := []) G hd (fun pm code doc vs hv => ?_) (fun N x hx => ?_) (by decide) rfl rfl rfl fun pm code doc L f => ?_
  · match vs, hv with
    | [], _ => rfl
  · simp at hx
  · exact .cons (.ret (d := .list [.int 256, .int 128, .int 64, .int 2048, .int 32, .int 16, .int 8, .int 1024, .int 4, .int 2, .int 1, .int 512]) (by walk_at "ev") rfl)

def chr (l : List Nat) (i : Nat) : Nat := l.getD i 0
def heldAt (row : List Nat) (i : Nat) : List Bool := [[chr row i] == [114], [chr row (i + 1)] == [119], [120, 115, 116].contains (chr row (i + 2)), [115, 83, 116, 84].contains (chr row (i + 2))]
def heldOf (row : List Nat) : List Bool := heldAt row 1 ++ heldAt row 4 ++ heldAt row 7
theorem chr_get {row : List Nat} {i : Nat} (h : i < row.length) : row[i]? = some (chr row i) := by
  unfold chr; rw [List.getD, List.getElem?_eq_getElem h]; rfl

-- filemode
def fmTab : List (List (Int × Nat)) := [[(40960, 108), (49152, 115), (32768, 45), (24576, 98), (16384, 100), (8192, 99), (4096, 112)], [(256, 114)], [(128, 119)], [(2112, 115), (2048, 83), (64, 120)], [(32, 114)], [(16, 119)], [(1032, 115), (1024, 83), (8, 120)], [(4, 114)], [(2, 119)], [(513, 116), (512, 84), (1, 120)]]
def dpair (p : Int × Nat) : D := .tup [.int p.1, .str [p.2]]
def drow (t : List (Int × Nat)) : D := .tup (t.map dpair)
def fmHit (i : Nat) (mode : Int) (p : Int × Nat) : Bool := if i = 0 then Builtin.bitAnd mode 61440 == p.1 else Builtin.bitAnd mode p.1 == p.1
def fmPick (i : Nat) (mode : Int) (t : List (Int × Nat)) : Nat := match t.find? (fmHit i mode) with
  | some p => p.2
  | none => if i = 0 then 63 else 45
def fmUp (mode : Int) (i : Nat) : List Nat := (List.range i).map fun k => fmPick k mode (fmTab.getD k [])
def fm (mode : Int) : List Nat := fmUp mode 10

theorem find_skip {α : Type} {f : α → Bool} : ∀ {l : List α} {k : Nat} {a : α}, l[k]? = some a → (∀ j b, j < k → l[j]? = some b → f b = false) → f a = true → l.find? f = some a
  | [], k, a, h, _, _ => by simp at h
  | x :: l, 0, a, h, _, hf => by simp at h; subst h; simp [hf]
  | x :: l, k + 1, a, h, hn, hf => by
    have hx := hn 0 x (Nat.succ_pos _) rfl
    rw [List.find?_cons, hx]
    exact find_skip (by simpa using h) (fun j b hj hb => hn (j + 1) b (by omega) (by simpa using hb)) hf
theorem find_no {α : Type} {f : α → Bool} {l : List α} (hn : ∀ (j : Nat) b, l[j]? = some b → f b = false) : l.find? f = none := by
  rw [List.find?_eq_none]
  intro b hb
  obtain ⟨j, hj⟩ := List.getElem?_of_mem hb
  rw [hn j b hj]; simp

theorem sum_ones : ∀ l : List Nat, (l.map ((fun x : List Nat => x.length) ∘ fun c => [c])).sum = l.length
  | [] => rfl
  | c :: l => by simp [sum_ones l]; omega

theorem map_get {α β : Type} {f : α → β} {l : List α} {i : Nat} {b : β} (h : (l.map f)[i]? = some b) : ∃ a, l[i]? = some a ∧ b = f a := by
  rw [List.getElem?_map] at h
  obtain ⟨a, h1, h2⟩ := Option.map_eq_some_iff.mp h
  exact ⟨a, h1, h2.symm⟩

theorem purs_rows (l : List (List (Int × Nat))) : D.purs (l.map drow) = true := by
  rw [purs_iff]
  intro d hd
  obtain ⟨t, _, rfl⟩ := List.mem_map.mp hd
  show D.purs (t.map dpair) = true
  rw [purs_iff]
  intro e he
  obtain ⟨p, _, rfl⟩ := List.mem_map.mp he
  rfl

theorem w_fm (G : GL hT mg mb) (T : Bt mg mb) (hd : Def hT mg (defAt 28)) (hif : Def hT mg (defAt 7)) (ht : ∃ v, mg (Str.ofString "_filemode_table") = some v ∧ Rep hT.get? [] (.tup (fmTab.map drow)) v) (mode : Int) :
    FnN prog w hT mg 2 (defAt 28).name [.int mode] (.str (fm mode)) := by
  refine FnN.mk (xs := [Str.ofString "mode"]) G hd (fun pm code doc vs hv => ?_) (fun N x hx => ?_) (by decide) rfl rfl rfl fun pm code doc L f => ?_
  · match vs, hv with
    | [v], _ => rfl
  · simp at hx; subst hx; left; rfl
  · obtain ⟨tv, htv, htr⟩ := ht
    refine Ex.cons (Ex1.newcell (.inl rfl) ?_)
    refine Ex.cons (Ex1.forE (fun i => [(Str.ofString "mode", .int mode), (Str.ofString "perm", .cell 0)]) (fun i => [(dstrs ((fmUp mode i).map fun c => [c]))]) G T.enum.1 T.enum.2 (Ev.glob G htv htr (by exact purs_rows fmTab)) (purs_rows fmTab) (.inl rfl) (.inl rfl)
      ⟨rfl, rfl, trivial⟩ rfl (fun i d hd => ?_) ?_)
    · obtain ⟨r, hr, rfl⟩ := map_get hd
      have hi10 : i < 10 := (List.getElem?_eq_some_iff.mp hr).1
      have hup : fmUp mode (i + 1) = fmUp mode i ++ [fmPick i mode r] := by
        unfold fmUp
        rw [List.range_succ, List.map_append]
        simp [hr]
      have hlen : (fmUp mode i).length = i := by simp [fmUp]
      have hsz : (dstrs ((fmUp mode i).map fun c => [c])).length ≤ sizeLine := small (by simp [dstrs, hlen]; omega)
      have hJ : ∀ c, fmPick i mode r = c → app [dstrs ((fmUp mode i).map fun c => [c])] 0 (.str [c]) = [dstrs ((fmUp mode (i + 1)).map fun c => [c])] := fun c hc => by
        rw [hup, hc]; simp [app, dstrs]
      refine Ex.forget (ρ' := [(Str.ofString "mode", .int mode), (Str.ofString "perm", .cell 0), (Str.ofString "index", .int i), (Str.ofString "table", drow r)]) (Knows.get ⟨rfl, rfl, rfl, rfl, trivial⟩) ?_
      refine Ex.cons (Ex1.for_ (fun k ρ₁ σ₁ => Knows ρ₁ [(Str.ofString "mode", .int mode), (Str.ofString "perm", .cell 0), (Str.ofString "index", .int i)] ∧ σ₁ = [dstrs ((fmUp mode i).map fun c => [c])] ∧ ∀ (j : Nat) b, j < k → r[j]? = some b → fmHit i mode b = false)
        (EvI.tup (Ev.name rfl)) ?_ ⟨⟨rfl, rfl, rfl, trivial⟩, rfl, fun j b hj => absurd hj (Nat.not_lt_zero _)⟩ (fun k d ρ₁ σ₁ hd hinv => ?_) (fun ρ₁ σ₁ hinv => ?_))
      · rw [purs_iff]
        intro e he
        obtain ⟨p, _, rfl⟩ := List.mem_map.mp he
        rfl
      · obtain ⟨hk, rfl, hno⟩ := hinv
        obtain ⟨pr, hpr, rfl⟩ := map_get hd
        refine ⟨_, _, As.tuple (AsN.cons (.inl rfl) (AsN.cons (.inl rfl) (AsN.nil _))), ?_⟩
        refine Ex.forget (ρ' := [(Str.ofString "mode", .int mode), (Str.ofString "perm", .cell 0), (Str.ofString "index", .int i), (Str.ofString "bit", .int pr.1), (Str.ofString "char", .str [pr.2])]) (fun x d hx => upd_get (upd_get hk.get _ _) _ _ x d hx) ?_
        have hinv' : ∀ ρ2, Knows ρ2 [(Str.ofString "mode", .int mode), (Str.ofString "perm", .cell 0), (Str.ofString "index", .int i)] → fmHit i mode pr = false →
            Knows ρ2 [(Str.ofString "mode", .int mode), (Str.ofString "perm", .cell 0), (Str.ofString "index", .int i)] ∧ [dstrs ((fmUp mode i).map fun c => [c])] = [dstrs ((fmUp mode i).map fun c => [c])] ∧ ∀ (j : Nat) b, j < k + 1 → r[j]? = some b → fmHit i mode b = false := fun ρ2 hk2 hf => ⟨hk2, rfl, fun j b hj hb => by
          by_cases hjk : j = k
          · subst hjk; rw [hpr] at hb; cases hb; exact hf
          · exact hno j b (by omega) hb⟩
        have hpick : fmHit i mode pr = true → fmPick i mode r = pr.2 := fun hf => by
          unfold fmPick; rw [find_skip hpr hno hf]
        refine Ex.cons (Ex1.ite (c := ((i : Int) == 0)) (EvT.cmp (by exact Ev.name rfl) (by exact Ev.int) (by exact Op2.eq_int)) (fun hc => ?_) (fun hc => ?_))
        · have h0 : i = 0 := by simpa using hc
          refine Ex.cons (Ex1.ite (c := (Builtin.bitAnd mode 61440 == pr.1)) (EvT.cmp (by exact Ev.fn G (w_ifmt G hif mode) (by exact Evs.cons (by exact Ev.name rfl) (by exact Evs.nil)) (Nat.le_refl _)) (by exact Ev.name rfl) (by exact Op2.eq_int)) (fun hc2 => ?_) (fun hc2 => ?_))
          · refine Ex.cons (Ex1.append (k := 0) (d := .str [pr.2]) (by exact Ev.name rfl) (by exact Ev.name rfl) rfl hsz ?_)
            refine Ex.cons (Ex1.brk ?_)
            exact Ex.nil ⟨⟨rfl, rfl, trivial⟩, hJ _ (hpick (by unfold fmHit; rw [if_pos h0]; exact hc2))⟩
          · exact Ex.nil (Ex.nil (Ex.nil (hinv' _ ⟨rfl, rfl, rfl, trivial⟩ (by unfold fmHit; rw [if_pos h0]; exact hc2))))
        · have h0 : ¬ i = 0 := by simpa using hc
          refine Ex.cons (Ex1.ite (c := (Builtin.bitAnd mode pr.1 == pr.1)) (EvT.cmp (by exact Ev.bin (by exact Ev.name rfl) (by exact Ev.name rfl) (by exact Op2.and_int)) (by exact Ev.name rfl) (by exact Op2.eq_int)) (fun hc2 => ?_) (fun hc2 => ?_))
          · refine Ex.cons (Ex1.append (k := 0) (d := .str [pr.2]) (by exact Ev.name rfl) (by exact Ev.name rfl) rfl hsz ?_)
            refine Ex.cons (Ex1.brk ?_)
            exact Ex.nil ⟨⟨rfl, rfl, trivial⟩, hJ _ (hpick (by unfold fmHit; rw [if_neg h0]; exact hc2))⟩
          · exact Ex.nil (Ex.nil (Ex.nil (hinv' _ ⟨rfl, rfl, rfl, trivial⟩ (by unfold fmHit; rw [if_neg h0]; exact hc2))))
      · obtain ⟨hk, rfl, hno⟩ := hinv
        have hnone : r.find? (fmHit i mode) = none := find_no fun j b hb => hno j b (by
          have := (List.getElem?_eq_some_iff.mp hb).1
          simpa using this) hb
        refine Ex.forget hk.get ?_
        refine Ex.cons (Ex1.ite (c := ((i : Int) == 0)) (EvT.cmp (by exact Ev.name rfl) (by exact Ev.int) (by exact Op2.eq_int)) (fun hc => ?_) (fun hc => ?_))
        · have h0 : i = 0 := by simpa using hc
          refine Ex.cons (Ex1.append (k := 0) (d := .str [63]) (by exact Ev.name rfl) (by exact Ev.str) rfl hsz ?_)
          exact Ex.nil (Ex.nil (Ex.nil ⟨⟨rfl, rfl, trivial⟩, hJ _ (by unfold fmPick; rw [hnone, h0]; rfl)⟩))
        · have h0 : ¬ i = 0 := by simpa using hc
          refine Ex.cons (Ex1.append (k := 0) (d := .str [45]) (by exact Ev.name rfl) (by exact Ev.str) rfl hsz ?_)
          exact Ex.nil (Ex.nil (Ex.nil ⟨⟨rfl, rfl, trivial⟩, hJ _ (by unfold fmPick; rw [hnone]; show (if i = 0 then 63 else 45) = 45; rw [if_neg h0])⟩))
    · refine Ex.nil ?_
      have hp : D.purs (dstrs ((fm mode).map fun c => [c])) = true := by
        rw [purs_iff]
        intro e he
        obtain ⟨c, _, rfl⟩ := List.mem_map.mp he
        rfl
      refine Ex.freeze (x := Str.ofString "perm") (d := .cell 0) (k := 0) (l := dstrs ((fm mode).map fun c => [c])) (ρ' := [(Str.ofString "perm", .list (dstrs ((fm mode).map fun c => [c])))]) (σ' := [[]]) rfl rfl rfl hp (AllV.get ⟨⟨_, rfl, rfl⟩, trivial⟩) rfl (fun j l' hj h => ?_) ?_
      · cases j with
        | zero => exact absurd rfl hj
        | succ j => simp at h
      · have e : fm mode = joinL [] ((fm mode).map fun c => [c]) := by
          generalize fm mode = l
          induction l with
          | nil => rfl
          | cons c l ih => cases l with
            | nil => rfl
            | cons d l => simp only [List.map_cons, joinL] at ih ⊢; rw [← ih]; rfl
        have hl : (fm mode).length = 10 := by simp [fm, fmUp]
        refine Ex.cons (Ex1.ret (d := .str (joinL [] ((fm mode).map fun c => [c]))) (Ev.join (sep := []) (by exact Ev.str) (by exact Ev.name rfl) (by rw [List.map_map, sum_ones, hl]; simp; exact small (by omega))) (by rw [← e]; rfl))
end
end Mine

-- Walk4
namespace Mine
section
variable {prog : Program} {w : World} {hT : Heap} {n : Nat} {env : Env} {ρ : List (Str × D)} {σ : List (List D)} {mg mb : Str → Option Value}

theorem Op2.in_one {a : List Nat} {c : Nat} : Op2 prog w hT n env ρ σ (compareOp .In) (.str [c]) (.str a) (.bool (a.contains c)) := by
  have := Op2.in_str (prog := prog) (w := w) (hT := hT) (n := n) (env := env) (ρ := ρ) (σ := σ) (a := a) (b := [c])
  rw [show (!(Builtin.Str.occurrences ⟨a.toArray⟩ ⟨[c].toArray⟩ 0 a.length 1).isEmpty) = a.contains c from Mine.in_one a c] at this
  exact this
theorem seqIdx {i : Int} {len j : Nat} (h : i = j) (hl : j < len) : seqIndex? i len = some j := by
  subst h
  unfold seqIndex?
  have h1 : ¬ ((j : Int) < 0) := by omega
  simp [h1]; omega
/-- a character of a text by a plain index -/
theorem Ev.chr {value slice pos l i} {j : Nat} (h1 : Ev prog w hT n env ρ σ value (.str l)) (h2 : Ev prog w hT n env ρ σ slice (.int i)) (hij : i = j) (hj : j < l.length) (hb : j < 1000000)
    (hs : ∀ o i, subscripted slice false o i = operate [o, i] (getItem o i) := by intro _ _; rfl) : Ev prog w hT n env ρ σ (.Subscript value slice pos) (.str [chr l j]) :=
  Ev.item_str h1 h2 (seqIdx hij hj) (chr_get hj) (by subst hij; simp; omega) hs
theorem Ev.elt {value slice pos l i d} {j : Nat} (h1 : Ev prog w hT n env ρ σ value (.list l)) (h2 : Ev prog w hT n env ρ σ slice (.int i)) (hij : i = j) (hj : l[j]? = some d) (hb : j < 1000000)
    (hs : ∀ o i, subscripted slice false o i = operate [o, i] (getItem o i) := by intro _ _; rfl) : Ev prog w hT n env ρ σ (.Subscript value slice pos) d :=
  Ev.item_list h1 h2 (seqIdx hij (List.getElem?_eq_some_iff.mp hj).1) hj (by omega) (by omega) hs

def bl (l : List Bool) : List D := l.map D.bool
theorem purs_bl (l : List Bool) : D.purs (bl l) = true := by
  rw [purs_iff]
  intro e he
  obtain ⟨c, _, rfl⟩ := List.mem_map.mp he
  rfl
theorem w_held (G : GL hT mg mb) (T : Bt mg mb) (hd : Def hT mg (defAt 31)) (row : List Nat) (hrow : row.length = 10) : FnN prog w hT mg 1 (defAt 31).name [.str row] (.list (bl (heldOf row))) := by
  refine FnN.mk (xs := [Str.ofString "row"]) G hd (fun pm code doc vs hv => ?_) (fun N x hx => ?_) (by decide) rfl rfl (purs_bl _) fun pm code doc L f => ?_
  · match vs, hv with
    | [v], _ => rfl
  · simp at hx; subst hx; left; rfl
  · refine Ex.cons (Ex1.assign (Ev.list (ds := []) (by exact Evs.nil) (by exact small (Nat.zero_le _))) (As.name (.inl rfl)) ?_)
    refine Ex.cons (Ex1.forK (fun k => [(Str.ofString "row", .str row), (Str.ofString "held", .list (bl (((heldAt row 1 ++ heldAt row 4 ++ heldAt row 7)).take (4 * k))))]) (fun k => []) (EvI.range3 G T.range.1 T.range.2 (by exact Ev.int) (by exact Ev.int) (by exact Ev.int)) rfl ⟨rfl, rfl, trivial⟩ rfl (fun k d hd => ?_) ?_)
    · obtain ⟨b, rfl, hb, hacc⟩ : ∃ b : Nat, d = .int b ∧ b ≤ 7 ∧ (heldAt row 1 ++ heldAt row 4 ++ heldAt row 7).take (4 * (k + 1)) = (heldAt row 1 ++ heldAt row 4 ++ heldAt row 7).take (4 * k) ++ heldAt row b := by
        match k, hd with
        | 0, h => exact ⟨1, by simpa using h.symm, by omega, rfl⟩
        | 1, h => exact ⟨4, by simpa using h.symm, by omega, rfl⟩
        | 2, h => exact ⟨7, by simpa using h.symm, by omega, rfl⟩
        | k + 3, h => simp at h
      rw [hacc]
      have hlen : ((heldAt row 1 ++ heldAt row 4 ++ heldAt row 7).take (4 * k)).length ≤ 12 := by
        have : (heldAt row 1 ++ heldAt row 4 ++ heldAt row 7).length = 12 := rfl
        rw [List.length_take]; omega
      generalize (heldAt row 1 ++ heldAt row 4 ++ heldAt row 7).take (4 * k) = acc at hlen
      refine ⟨_, _, As.name (.inl rfl), ?_⟩
      refine Ex.forget (ρ' := [(Str.ofString "row", .str row), (Str.ofString "held", .list (bl acc)), (Str.ofString "i", .int b)]) (Knows.get ⟨rfl, rfl, rfl, trivial⟩) ?_
      refine Ex.cons (Ex1.assign (d := .list (bl acc ++ bl (heldAt row b))) ?_ (As.name (.inl rfl)) ?_)
      · refine Ev.bin (d1 := .list (bl acc)) (d2 := .list (bl (heldAt row b))) (Ev.name rfl) ?_ (Op2.add_list (small (by simp [bl, heldAt]; omega)))
        refine Ev.list ?_ (small (by simp [bl, heldAt]))
        refine Evs.cons (d := .bool ([chr row b] == [114])) ?_ ?_
        · exact Ev.cmp (by exact Ev.chr (j := b) (by exact Ev.name rfl) (by exact Ev.name rfl) rfl (by omega) (by omega)) (by exact Ev.str) (by exact Op2.eq_str)
        · refine Evs.cons (d := .bool ([chr row (b + 1)] == [119])) ?_ ?_
          · exact Ev.cmp (by exact Ev.chr (j := b + 1) (by exact Ev.name rfl) (by exact Ev.bin (by exact Ev.name rfl) (by exact Ev.int) (by exact Op2.add_int)) (by push_cast; rfl) (by omega) (by omega)) (by exact Ev.str) (by exact Op2.eq_str)
          · refine Evs.cons (d := .bool ([120, 115, 116].contains (chr row (b + 2)))) ?_ ?_
            · exact Ev.cmp (by exact Ev.chr (j := b + 2) (by exact Ev.name rfl) (by exact Ev.bin (by exact Ev.name rfl) (by exact Ev.int) (by exact Op2.add_int)) (by push_cast; rfl) (by omega) (by omega)) (by exact Ev.str) (by exact Op2.in_one)
            · refine Evs.cons (d := .bool ([115, 83, 116, 84].contains (chr row (b + 2)))) ?_ Evs.nil
              exact Ev.cmp (by exact Ev.chr (j := b + 2) (by exact Ev.name rfl) (by exact Ev.bin (by exact Ev.name rfl) (by exact Ev.int) (by exact Op2.add_int)) (by push_cast; rfl) (by omega) (by omega)) (by exact Ev.str) (by exact Op2.in_one)
      refine Ex.nil ⟨⟨rfl, ?_, trivial⟩, rfl⟩
      show some (D.list (bl acc ++ bl (heldAt row b))) = _
      simp [bl]
    · refine Ex.nil ?_
      exact Ex.cons (Ex1.ret (by exact Ev.name rfl) rfl)
end
end Mine

-- Walk5
namespace Mine
section
variable {prog : Program} {w : World} {hT : Heap} {n : Nat} {env : Env} {ρ : List (Str × D)} {σ : List (List D)} {mg mb : Str → Option Value}

theorem Ev.ifS {t a b pos c u v} (ht : EvT prog w hT n env ρ σ t c) (h1 : Ev prog w hT n env ρ σ a (.str [u])) (h2 : Ev prog w hT n env ρ σ b (.str [v])) : Ev prog w hT n env ρ σ (.IfExp t a b pos) (.str [if c = true then u else v]) :=
  Ev.ifexp ht (fun h => by rw [if_pos h]; exact h1) (fun h => by rw [if_neg (by simp [h])]; exact h2)
theorem EvT.nm {x p b} (h : ρ.lookup x = some (.bool b)) (hd : (x == ("__debug__" : Str)) = false := by decide) (hc : (x == ("__classdict__" : Str)) = false := by decide) : EvT prog w hT n env ρ σ (.Name x p) b :=
  EvT.plain (Ev.name h hd hc) Tru.bool
theorem Ev.cat {l r pos a b} (h1 : Ev prog w hT n env ρ σ l (.str a)) (h2 : Ev prog w hT n env ρ σ r (.str b)) (hs : a.length + b.length ≤ sizeLine) : Ev prog w hT n env ρ σ (.BinOp l .Add r pos) (.str (a ++ b)) := Ev.bin h1 h2 (Op2.add_str hs)
theorem twelve {α : Type} (l : List α) (h : l.length = 12) : ∃ a0 a1 a2 a3 a4 a5 a6 a7 a8 a9 a10 a11, l = [a0, a1, a2, a3, a4, a5, a6, a7, a8, a9, a10, a11] := by
  match l, h with
  | [a0, a1, a2, a3, a4, a5, a6, a7, a8, a9, a10, a11], _ => exact ⟨a0, a1, a2, a3, a4, a5, a6, a7, a8, a9, a10, a11, rfl⟩

def kindS : List Nat := [63, 112, 99, 63, 100, 63, 98, 63, 45, 63, 108, 63, 115, 63, 63, 63]
def third (i : Nat) (x mark : Bool) : Nat := if mark = true then (if x = true then chr [115, 115, 116] i else chr [83, 83, 84] i) else (if x = true then 120 else 45)
def rowAt (held : List Bool) (i : Nat) : List Nat := [if held.getD (4 * i) false = true then 114 else 45, if held.getD (4 * i + 1) false = true then 119 else 45, third i (held.getD (4 * i + 2) false) (held.getD (4 * i + 3) false)]
def rowUp (kind : Nat) (held : List Bool) (k : Nat) : List Nat := [chr kindS kind] ++ (List.range k).flatMap (rowAt held)
def rowOf (kind : Nat) (held : List Bool) : List Nat := rowUp kind held 3

theorem w_row (G : GL hT mg mb) (T : Bt mg mb) (hd : Def hT mg (defAt 32)) (kind : Nat) (hkind : kind < 16) (held : List Bool) (hh : held.length = 12) : FnN prog w hT mg 1 (defAt 32).name [.int kind, .list (bl held)] (.str (rowOf kind held)) := by
  refine FnN.mk (xs := [Str.ofString "kind", Str.ofString "held"]) G hd (fun pm code doc vs hv => ?_) (fun N x hx => ?_) (by decide) rfl (by simp [D.purs, D.pur, purs_bl]) rfl fun pm code doc L f => ?_
  · match vs, hv with
    | [v, u], _ => rfl
  · simp at hx; rcases hx with rfl | rfl <;> (left; rfl)
  · refine Ex.cons (Ex1.assign (d := .str [chr kindS kind]) ?_ (As.name (.inl rfl)) ?_)
    · exact Ev.chr (l := kindS) (by exact Ev.str) (by exact Ev.name rfl) rfl hkind (by omega)
    refine Ex.cons (Ex1.forK (fun k => [(Str.ofString "held", .list (bl held)), (Str.ofString "row", .str (rowUp kind held k))]) (fun k => []) (EvI.range1 (N := 3) G T.range.1 T.range.2 (by exact Ev.int) (by omega) (by omega)) rfl ⟨rfl, rfl, trivial⟩ rfl (fun k d hd => ?_) ?_)
    · have hk : k < 3 := by simpa using (List.getElem?_eq_some_iff.mp hd).1
      have hd2 : d = .int (k : Int) := by
        obtain ⟨a, ha, rfl⟩ := map_get hd
        have : a = k := by
          have := (List.getElem?_eq_some_iff.mp ha).2
          simpa using this.symm
        rw [this]
      subst hd2
      have hsl : dsl (bl held) (some (4 * (k : Int))) (some (4 * (k : Int) + 4)) = [.bool (held.getD (4 * k) false), .bool (held.getD (4 * k + 1) false), .bool (held.getD (4 * k + 2) false), .bool (held.getD (4 * k + 3) false)] := by
        obtain ⟨a0, a1, a2, a3, a4, a5, a6, a7, a8, a9, a10, a11, rfl⟩ := twelve held hh
        match k, hk with
        | 0, _ => rfl
        | 1, _ => rfl
        | 2, _ => rfl
      refine ⟨_, _, As.name (.inl rfl), ?_⟩
      refine Ex.cons (Ex1.assign (d := .list [.bool (held.getD (4 * k) false), .bool (held.getD (4 * k + 1) false), .bool (held.getD (4 * k + 2) false), .bool (held.getD (4 * k + 3) false)]) ?_ (As.unlist (AsN.cons (.inl rfl) (AsN.cons (.inl rfl) (AsN.cons (.inl rfl) (AsN.cons (.inl rfl) (AsN.nil _)))))) ?_)
      · rw [← hsl]
        exact Ev.slice_list (by exact Ev.name rfl) (EvP.some (by exact Ev.bin (by exact Ev.int) (by exact Ev.name rfl) (by exact Op2.mul_int (IntMulOk.of_left (by decide)))))
          (EvP.some (by exact Ev.bin (by exact Ev.bin (by exact Ev.int) (by exact Ev.name rfl) (by exact Op2.mul_int (IntMulOk.of_left (by decide)))) (by exact Ev.int) (by exact Op2.add_int))) (small (by simp [bl, hh]))
      have hup : rowUp kind held (k + 1) = rowUp kind held k ++ rowAt held k := by
        unfold rowUp
        rw [List.range_succ, List.flatMap_append]; simp
      have hlen : (rowUp kind held k).length = 1 + 3 * k := by
        have : ∀ j, ((List.range j).flatMap (rowAt held)).length = 3 * j := fun j => by
          induction j with
          | zero => rfl
          | succ j ih => rw [List.range_succ, List.flatMap_append, List.length_append, ih]; simp [rowAt]; omega
        unfold rowUp; rw [List.length_append, this]; rfl
      unfold rowAt at hup
      generalize hr : held.getD (4 * k) false = r
      generalize hw : held.getD (4 * k + 1) false = ww
      generalize hx : held.getD (4 * k + 2) false = x
      generalize hm : held.getD (4 * k + 3) false = mark
      refine Ex.forget (ρ' := [(Str.ofString "held", .list (bl held)), (Str.ofString "row", .str (rowUp kind held k)), (Str.ofString "i", .int k), (Str.ofString "r", .bool r), (Str.ofString "w", .bool ww), (Str.ofString "x", .bool x), (Str.ofString "mark", .bool mark)]) (Knows.get ⟨rfl, rfl, rfl, rfl, rfl, rfl, rfl, trivial⟩) ?_
      refine Ex.cons (Ex1.assign (d := .str [if x = true then 120 else 45]) (Ev.ifS (by exact EvT.nm rfl) (by exact Ev.str) (by exact Ev.str)) (As.name (.inl rfl)) ?_)
      cases mark with
      | true =>
        refine Ex.cons (Ex1.ite (c := true) (EvT.nm rfl) (fun _ => ?_) (fun h => by cases h))
        refine Ex.cons (Ex1.assign (d := .str [if x = true then chr [115, 115, 116] k else chr [83, 83, 84] k]) ?_ (As.name (.inl rfl)) ?_)
        · exact Ev.ifS (by exact EvT.nm rfl) (by exact Ev.chr (l := [115, 115, 116]) (by exact Ev.str) (by exact Ev.name rfl) rfl hk (by omega)) (by exact Ev.chr (l := [83, 83, 84]) (by exact Ev.str) (by exact Ev.name rfl) rfl hk (by omega))
        · refine Ex.nil ?_
          refine Ex.cons (Ex1.assign (d := .str (rowUp kind held k ++ [if r = true then 114 else 45] ++ [if ww = true then 119 else 45] ++ [if x = true then chr [115, 115, 116] k else chr [83, 83, 84] k])) ?_ (As.name (.inl rfl)) ?_)
          · exact Ev.cat (by exact Ev.cat (by exact Ev.cat (by exact Ev.name rfl) (by exact Ev.ifS (u := 114) (v := 45) (by exact EvT.nm rfl) (by exact Ev.str) (by exact Ev.str)) (small (by simp [hlen]; omega))) (by exact Ev.ifS (u := 119) (v := 45) (by exact EvT.nm rfl) (by exact Ev.str) (by exact Ev.str)) (small (by simp [hlen]; omega))) (by exact Ev.name rfl) (small (by simp [hlen]; omega))
          · refine Ex.nil ⟨⟨rfl, ?_, trivial⟩, rfl⟩
            show some (D.str (rowUp kind held k ++ [if r = true then 114 else 45] ++ [if ww = true then 119 else 45] ++ [if x = true then chr [115, 115, 116] k else chr [83, 83, 84] k])) = some (D.str (rowUp kind held (k + 1)))
            rw [hup, hr, hw, hx, hm]; simp [third]
      | false =>
        refine Ex.cons (Ex1.ite (c := false) (EvT.nm rfl) (fun h => by cases h) (fun _ => ?_))
        refine Ex.nil ?_
        refine Ex.cons (Ex1.assign (d := .str (rowUp kind held k ++ [if r = true then 114 else 45] ++ [if ww = true then 119 else 45] ++ [if x = true then 120 else 45])) ?_ (As.name (.inl rfl)) ?_)
        · exact Ev.cat (by exact Ev.cat (by exact Ev.cat (by exact Ev.name rfl) (by exact Ev.ifS (u := 114) (v := 45) (by exact EvT.nm rfl) (by exact Ev.str) (by exact Ev.str)) (small (by simp [hlen]; omega))) (by exact Ev.ifS (u := 119) (v := 45) (by exact EvT.nm rfl) (by exact Ev.str) (by exact Ev.str)) (small (by simp [hlen]; omega))) (by exact Ev.name rfl) (small (by simp [hlen]; omega))
        · refine Ex.nil ⟨⟨rfl, ?_, trivial⟩, rfl⟩
          show some (D.str (rowUp kind held k ++ [if r = true then 114 else 45] ++ [if ww = true then 119 else 45] ++ [if x = true then 120 else 45])) = some (D.str (rowUp kind held (k + 1)))
          rw [hup, hr, hw, hx, hm]; simp [third]
    · refine Ex.nil ?_
      exact Ex.cons (Ex1.ret (by exact Ev.name rfl) rfl)
end
end Mine

-- Walk6
namespace Mine
section
variable {prog : Program} {w : World} {hT : Heap} {n : Nat} {env : Env} {ρ : List (Str × D)} {σ : List (List D)} {mg mb : Str → Option Value}

theorem purs_strs (l : List (List Nat)) : D.purs (dstrs l) = true := by
  rw [purs_iff]
  intro e he
  obtain ⟨c, _, rfl⟩ := List.mem_map.mp he
  rfl
theorem purs_ints (l : List Nat) : D.purs (l.map fun i : Nat => D.int (i : Int)) = true := by
  rw [purs_iff]
  intro e he
  obtain ⟨c, _, rfl⟩ := List.mem_map.mp he
  rfl
theorem hass_of_purs {k : Nat} {l : List D} (h : D.purs l = true) : D.hass k l = false := by
  cases hh : D.hass k l with
  | false => rfl
  | true =>
    exfalso
    induction l with
    | nil => cases hh
    | cons d l ih =>
      have h' := Bool.and_eq_true_iff.mp h
      rcases Bool.or_eq_true_iff.mp hh with h1 | h1
      · have := has_pur (k := k) h'.1; rw [this] at h1; cases h1
      · exact ih h'.2 h1

theorem dstrs_get {l : List (List Nat)} {k : Nat} {x : List Nat} (h : l[k]? = some x) : (dstrs l)[k]? = some (.str x) := by
  show (l.map D.str)[k]? = _
  rw [List.getElem?_map, h]; rfl

/-- a row that ends in an order -/
def isO (row : List Nat) : Bool := [[114], [119], [120]].contains (dsl row (some (-1)) none)

theorem w_head (G : GL hT mg mb) (T : Bt mg mb) (hd : Def hT mg (defAt 33)) (rows : List (List Nat)) (hlen : rows.length ≤ 5000) (hsz : ∀ r ∈ rows, r.length ≤ 10000) (i : Nat) (r : List Nat) (hi : rows[i]? = some r) (hO : isO r = true)
    (hno : ∀ (j : Nat) q, j < i → rows[j]? = some q → isO q = false) : FnN prog w hT mg 1 (defAt 33).name [.list (dstrs rows)] (.list (dstrs (rows.take (i + 1)))) := by
  refine FnN.mk (xs := [Str.ofString "rows"]) G hd (fun pm code doc vs hv => ?_) (fun N x hx => ?_) (by decide) rfl (by simp [D.purs, D.pur, purs_strs]) (purs_strs _) fun pm code doc L f => ?_
  · match vs, hv with
    | [v], _ => rfl
  · simp at hx; subst hx; right; exact ⟨rfl, rfl⟩
  · have hl : (dstrs rows).length = rows.length := by simp [dstrs]
    let g : D → Option D := fun d => match d with
      | .int k => if isO (rows.getD k.toNat []) = true then some d else none
      | _ => none
    have hds : (((List.range ((rows.length : Int)).toNat).map fun i : Nat => D.int (i : Int)).filterMap g)[0]? = some (.int (i : Int)) := by
      have hil : i < rows.length := (List.getElem?_eq_some_iff.mp hi).1
      have e : (List.range ((rows.length : Int)).toNat) = List.range i ++ i :: (List.range (rows.length - i - 1)).map (· + (i + 1)) := by
        rw [show ((rows.length : Int)).toNat = i + 1 + (rows.length - i - 1) by omega, List.range_add, List.range_succ]
        simp [Nat.add_comm]
      rw [e, List.map_append, List.filterMap_append]
      have e0 : ((List.range i).map fun i : Nat => D.int (i : Int)).filterMap g = [] := by
        rw [List.filterMap_eq_nil_iff]
        intro d hd
        obtain ⟨k, hk, rfl⟩ := List.mem_map.mp hd
        have hk' : k < i := by simpa using hk
        have hrk : rows[k]? = some (rows.getD k []) := by rw [List.getD, List.getElem?_eq_getElem (by omega)]; rfl
        show (if isO (rows.getD (k : Int).toNat []) = true then _ else _) = _
        rw [show (k : Int).toNat = k from rfl, if_neg (by rw [hno k _ hk' hrk]; exact Bool.false_ne_true)]
      have e1 : g (.int (i : Int)) = some (.int (i : Int)) := by
        show (if isO (rows.getD (i : Int).toNat []) = true then _ else _) = _
        have : rows.getD i [] = r := by rw [List.getD, hi]; rfl
        rw [show (i : Int).toNat = i from rfl, this, if_pos hO]
      rw [e0, List.map_cons, List.filterMap_cons, e1]
      rfl
    refine Ex.cons (Ex1.assign_comp (d := .list (((List.range ((rows.length : Int)).toNat).map fun i : Nat => D.int (i : Int)).filterMap g)) (EvL.fm (cl := [(Str.ofString "rows", L + 1)]) (ρc := [(Str.ofString "rows", .list (dstrs rows))]) g
      (EvI.range1 (N := (rows.length : Int)) G T.range.1 T.range.2 (by exact hl ▸ Ev.builtin G T.len.1 T.len.2 (by exact Evs.cons (by exact Ev.name rfl) (by exact Evs.nil)) (by exact OpN.len_list (small (by omega)))) (by omega) (by omega)).toX ?_ ?_ ?_ (fun C l d hd => ?_) ?_) rfl ?_)
    · exact ⟨rfl, rfl, by decide, fun x c h => h⟩
    · exact ⟨⟨rfl, fun C => .inl rfl, (fun h => by have h' : (some NameKind.cell : Option NameKind) = some NameKind.local := h; cases h'), ⟨L + 1, fun C => rfl, rfl⟩⟩, trivial⟩
    · exact small (by simp; omega)
    · obtain ⟨k, hk, rfl⟩ := List.mem_map.mp hd
      have hk' : k < rows.length := by simpa using hk
      have hrk : rows[k]? = some (rows.getD k []) := by rw [List.getD, List.getElem?_eq_getElem hk']; rfl
      refine ⟨_, _, isO (rows.getD k []), As.name (.inl rfl), ?_, AllV.get ⟨rfl, trivial⟩, EvIf.one ?_, fun h => ?_, fun h => ⟨.int (k : Int), ?_, ?_⟩⟩
      · intro x hx; rw [List.mem_singleton.mp hx]; rfl
      · refine EvT.cmp (d1 := .str (dsl (rows.getD k []) (some (-1)) none)) (d2 := .list (dstrs [[114], [119], [120]])) ?_ ?_ Op2.in_strs
        · exact Ev.slice_str (by exact Ev.elt (j := k) (by exact Ev.name rfl) (by exact Ev.name rfl) rfl (dstrs_get hrk) (by omega)) (EvP.some (by exact Ev.neg (by exact Ev.int))) EvP.none (small (hsz _ (List.mem_of_getElem? hrk)))
        · refine Ev.list ?_ (small (by simp [dstrs]))
          exact Evs.cons (by exact Ev.str) (by exact Evs.cons (by exact Ev.str) (by exact Evs.cons (by exact Ev.str) (by exact Evs.nil)))
      · show (if isO (rows.getD (k : Int).toNat []) = true then _ else _) = _
        rw [show (k : Int).toNat = k from rfl, if_neg (by rw [h]; exact Bool.false_ne_true)]
      · exact Ev.name rfl
      · show (if isO (rows.getD (k : Int).toNat []) = true then _ else _) = _
        rw [show (k : Int).toNat = k from rfl, if_pos h]
    · refine hass_of_purs ?_
      rw [purs_iff]
      intro d hd
      obtain ⟨d', hd', he⟩ := List.mem_filterMap.mp hd
      obtain ⟨k, _, rfl⟩ := List.mem_map.mp hd'
      have he' : (if isO (rows.getD (k : Int).toNat []) = true then some (D.int (k : Int)) else none) = some d := he
      split at he'
      · cases he'; rfl
      · cases he'
    · refine Ex.cons (Ex1.ret (d := .list (dstrs (rows.take (i + 1)))) ?_ rfl)
      have hil : i < rows.length := (List.getElem?_eq_some_iff.mp hi).1
      have e : dstrs (rows.take (i + 1)) = dsl (dstrs rows) none (some ((i : Int) + 1)) := by
        show (rows.take (i + 1)).map D.str = dsl (rows.map D.str) none (some ((i : Int) + 1))
        unfold dsl
        have h1 : clipN (rows.map D.str).length 0 none = 0 := rfl
        have h2 : clipN (rows.map D.str).length (rows.map D.str).length (some ((i : Int) + 1)) = i + 1 := by
          simp only [clipN, List.length_map]
          rw [if_neg (by omega)]
          omega
        rw [h1, h2, List.drop_zero, List.map_take]; rfl
      rw [e]
      exact Ev.slice_list (by exact Ev.name rfl) EvP.none (EvP.some (by exact Ev.bin (by exact Ev.elt (j := 0) (by exact Ev.name rfl) (by exact Ev.int) rfl hds (by omega)) (by exact Ev.int) (by exact Op2.add_int))) (small (by omega))
end
end Mine

-- Walk7
namespace Mine
section
variable {prog : Program} {w : World} {hT : Heap} {n : Nat} {env : Env} {ρ : List (Str × D)} {σ : List (List D)} {mg mb : Str → Option Value}

def dsh (sh : List (List Bool)) : List D := sh.map fun l => D.list (bl l)
theorem purs_sh (sh : List (List Bool)) : D.purs (dsh sh) = true := by
  rw [purs_iff]
  intro e he
  obtain ⟨c, _, rfl⟩ := List.mem_map.mp he
  exact purs_bl c
def bit (sh : List (List Bool)) (r c : Nat) : Bool := (sh.getD r []).getD c false
/-- four rows of twelve -/
structure Sh (sh : List (List Bool)) : Prop where
  four : sh.length = 4
  each : ∀ r, r < 4 → (sh.getD r []).length = 12
theorem Sh.row {sh : List (List Bool)} (S : Sh sh) {r : Nat} (h : r < 4) : (dsh sh)[r]? = some (.list (bl (sh.getD r []))) := by
  have hr : r < sh.length := by rw [S.four]; exact h
  show (sh.map _)[r]? = _
  rw [List.getElem?_map, List.getD, List.getElem?_eq_getElem hr]; rfl
theorem Sh.cell {sh : List (List Bool)} (S : Sh sh) {r c : Nat} (h : r < 4) (hc : c < 12) : (bl (sh.getD r []))[c]? = some (.bool (bit sh r c)) := by
  have hl : c < (sh.getD r []).length := by rw [S.each r h]; exact hc
  unfold bit
  generalize sh.getD r [] = l at hl ⊢
  show (l.map D.bool)[c]? = _
  rw [List.getElem?_map, List.getD, List.getElem?_eq_getElem hl]; rfl
/-- shown[e1][e2] -/
theorem Ev.bit {e e1 e2 p1 p2 sh i1 i2} {r c : Nat} (S : Sh sh) (h : Ev prog w hT n env ρ σ e (.list (dsh sh))) (h1 : Ev prog w hT n env ρ σ e1 (.int i1)) (h2 : Ev prog w hT n env ρ σ e2 (.int i2)) (e1' : i1 = r) (e2' : i2 = c) (hr : r < 4) (hc : c < 12)
    (hs : ∀ o i, subscripted e1 false o i = operate [o, i] (getItem o i) := by intro _ _; rfl) (hs2 : ∀ o i, subscripted e2 false o i = operate [o, i] (getItem o i) := by intro _ _; rfl) :
    Ev prog w hT n env ρ σ (.Subscript (.Subscript e e1 p1) e2 p2) (.bool (Mine.bit sh r c)) :=
  Ev.elt (Ev.elt h h1 e1' (S.row hr) (by omega) hs) h2 e2' (S.cell hr hc) (by omega) hs2

def md (a b : Nat) : Nat := (b + 3 - a) % 3
theorem fmod_md {a b : Nat} (ha : a < 3) (hb : b < 3) : ((b : Int) - (a : Int)).fmod 3 = (md a b : Nat) := by
  match a, ha, b, hb with
  | 0, _, 0, _ => rfl
  | 0, _, 1, _ => rfl
  | 0, _, 2, _ => rfl
  | 1, _, 0, _ => rfl
  | 1, _, 1, _ => rfl
  | 1, _, 2, _ => rfl
  | 2, _, 0, _ => rfl
  | 2, _, 1, _ => rfl
  | 2, _, 2, _ => rfl
theorem md_lt (a b : Nat) : md a b < 3 := Nat.mod_lt _ (by omega)
theorem md_pos {a b : Nat} (ha : a < 3) (hb : b < 3) (h : b ≠ a) : 1 ≤ md a b := by unfold md; omega
def rwx : List Nat := [114, 119, 120]
def dig : List Nat := [48, 49, 50]
theorem occ_rwx {j : Nat} (hj : j < 3) : ∃ rest, Builtin.Str.occurrences (mkS rwx) (mkS [chr rwx j]) 0 (mkS rwx).length 1 = j :: rest := by
  match j, hj with
  | 0, _ => exact ⟨[], by decide +kernel⟩
  | 1, _ => exact ⟨[], by decide +kernel⟩
  | 2, _ => exact ⟨[], by decide +kernel⟩
theorem occ_dig {j : Nat} (hj : j < 3) : ∃ rest, Builtin.Str.occurrences (mkS dig) (mkS [chr dig j]) 0 (mkS dig).length 1 = j :: rest := by
  match j, hj with
  | 0, _ => exact ⟨[], by decide +kernel⟩
  | 1, _ => exact ⟨[], by decide +kernel⟩
  | 2, _ => exact ⟨[], by decide +kernel⟩
theorem seqIdx_last {len : Nat} (h : 0 < len) : seqIndex? (-1) len = some (len - 1) := by
  unfold seqIndex?
  simp; omega
/-- the last character of a text -/
theorem Ev.lastc {value slice pos y c} (h1 : Ev prog w hT n env ρ σ value (.str (y ++ [c]))) (h2 : Ev prog w hT n env ρ σ slice (.int (-1))) (hs : ∀ o i, subscripted slice false o i = operate [o, i] (getItem o i) := by intro _ _; rfl) :
    Ev prog w hT n env ρ σ (.Subscript value slice pos) (.str [c]) :=
  Ev.item_str h1 h2 (seqIdx_last (by simp)) (by simp) (by decide) hs
theorem Ev.laste {value slice pos l d} (h1 : Ev prog w hT n env ρ σ value (.list (l ++ [d]))) (h2 : Ev prog w hT n env ρ σ slice (.int (-1))) (hs : ∀ o i, subscripted slice false o i = operate [o, i] (getItem o i) := by intro _ _; rfl) :
    Ev prog w hT n env ρ σ (.Subscript value slice pos) d :=
  Ev.item_list h1 h2 (seqIdx_last (by simp)) (by simp) (by decide) (by decide) hs

def goesN : List Str := [Str.ofString "shown", Str.ofString "holder", Str.ofString "new", Str.ofString "head", Str.ofString "other"]

theorem w_goes (G : GL hT mg mb) (T : Bt mg mb) (hd : Def hT mg (defAt 34)) {sh : List (List Bool)} (S : Sh sh) {a b j c : Nat} (ha : a < 3) (hb : b < 3) (hab : b ≠ a) (hj : j < 3) (hc : c < 3) (new : Bool) (head : List (List Nat)) (hs : List (List Nat)) (y : List Nat)
    (hhead : head = hs ++ [y ++ [chr rwx j]]) (hfirst : hs = [] ∨ ∃ u r, head = (u ++ [chr dig c]) :: r) (hlen : head.length ≤ 100) (hylen : y.length ≤ 1000) (res : Bool)
    (hres : res = if bit sh 0 (4 * a + 3) = true then (if hs = [] then (bit sh (a + 1) (4 * j + md a b - 1) != (y.length == 3)) else bit sh (a + 1) (4 * j + 1 + md a c)) else new) :
    FnN prog w hT mg 1 (defAt 34).name [.list (dsh sh), .int a, .bool new, .list (dstrs head), .int b] (.bool res) := by
  refine FnN.mk (xs := goesN) G hd (fun pm code doc vs hv => ?_) (fun N x hx => ?_) (by decide) rfl (by simp [D.purs, D.pur, purs_strs, purs_sh]) rfl fun pm code doc L f => ?_
  · match vs, hv with
    | [v1, v2, v3, v4, v5], _ => rfl
  · simp [goesN] at hx; rcases hx with rfl | rfl | rfl | rfl | rfl <;> (left; rfl)
  · have m1 := md_lt a b
    have m2 := md_pos ha hb hab
    have m3 := md_lt a c
    refine Ex.cons (Ex1.ite (c := !(bit sh 0 (4 * a + 3))) ?_ (fun h => ?_) (fun h => ?_))
    · exact EvT.not (by exact EvT.plain (by exact Ev.bit (r := 0) (c := 4 * a + 3) S (by exact Ev.name rfl) (by exact Ev.int) (by exact Ev.bin (by exact Ev.bin (by exact Ev.int) (by exact Ev.name rfl) (by exact Op2.mul_int (IntMulOk.of_left (by decide)))) (by exact Ev.int) (by exact Op2.add_int)) rfl (by push_cast; rfl) (by omega) (by omega)) (by exact Tru.bool))
    · have hf : bit sh 0 (4 * a + 3) = false := by simpa using h
      rw [hf] at hres
      refine Ex.cons (Ex1.ret (d := .bool res) ?_ rfl)
      rw [show res = new by simpa using hres]
      exact Ev.name rfl
    · have hf : bit sh 0 (4 * a + 3) = true := by simpa using h
      rw [hf, if_pos rfl] at hres
      refine Ex.nil ?_
      obtain ⟨rest, hocc⟩ := occ_rwx hj
      refine Ex.cons (Ex1.assign (d := .int j) ?_ (As.name (.inl rfl)) ?_)
      · refine Ev.index (l := rwx) (c := [chr rwx j]) (rest := rest) (Ev.str) ?_ hocc
        refine Ev.lastc (y := y) ?_ (Ev.neg Ev.int)
        refine Ev.laste (l := dstrs hs) ?_ (Ev.neg Ev.int)
        have : dstrs head = dstrs hs ++ [.str (y ++ [chr rwx j])] := by rw [hhead]; simp [dstrs]
        rw [← this]
        exact Ev.name rfl
      · refine Ex.forget (ρ' := [(Str.ofString "shown", .list (dsh sh)), (Str.ofString "holder", .int a), (Str.ofString "head", .list (dstrs head)), (Str.ofString "other", .int b), (Str.ofString "order", .int j)]) (Knows.get ⟨rfl, rfl, rfl, rfl, rfl, trivial⟩) ?_
        refine Ex.cons (Ex1.ite (c := decide ((1 : Int) < ((dstrs head).length : Nat))) ?_ (fun h => ?_) (fun h => ?_))
        · exact EvT.cmp (by exact Ev.builtin G T.len.1 T.len.2 (by exact Evs.cons (by exact Ev.name rfl) (by exact Evs.nil)) (by exact OpN.len_list (small (by simp [dstrs]; omega)))) (by exact Ev.int) (by exact Op2.gt_int)
        · have hne : hs ≠ [] := by
            rintro rfl
            rw [hhead] at h
            simp at h
          rw [if_neg hne] at hres
          obtain ⟨u, r, hur⟩ := hfirst.resolve_left hne
          obtain ⟨rest2, hocc2⟩ := occ_dig hc
          refine Ex.cons (Ex1.ret (d := .bool res) ?_ rfl)
          rw [hres]
          have hidx : (4 : Int) * j + 1 + ((c : Int) - a).fmod 3 = ((4 * j + 1 + md a c : Nat) : Int) := by rw [fmod_md ha hc]; push_cast; rfl
          refine Ev.bit (i1 := (a : Int) + 1) (i2 := (4 : Int) * j + 1 + ((c : Int) - a).fmod 3) S (Ev.name rfl) ?_ ?_ (by push_cast; rfl) hidx (by omega) (by omega)
          · exact Ev.bin (by exact Ev.name rfl) (by exact Ev.int) (by exact Op2.add_int)
          · refine Ev.bin (d1 := .int ((4 : Int) * j + 1)) (d2 := .int (((c : Int) - a).fmod 3)) ?_ ?_ Op2.add_int
            · exact Ev.bin (by exact Ev.bin (by exact Ev.int) (by exact Ev.name rfl) (by exact Op2.mul_int (IntMulOk.of_left (by decide)))) (by exact Ev.int) (by exact Op2.add_int)
            · refine Ev.bin (d1 := .int ((c : Int) - a)) (d2 := .int 3) ?_ Ev.int (Op2.mod_int (by decide))
              refine Ev.bin (d1 := .int c) (d2 := .int a) ?_ (Ev.name rfl) Op2.sub_int
              refine Ev.index (l := dig) (c := [chr dig c]) (rest := rest2) (Ev.str) ?_ hocc2
              refine Ev.lastc (y := u) ?_ (Ev.neg Ev.int)
              refine Ev.elt (j := 0) (l := dstrs head) (Ev.name rfl) Ev.int rfl ?_ (by omega)
              rw [hur]; rfl
        · have he : hs = [] := by
            cases hs with
            | nil => rfl
            | cons z hs =>
              rw [hhead] at h
              simp at h
              omega
          subst he
          rw [if_pos rfl] at hres
          refine Ex.nil ?_
          refine Ex.cons (Ex1.ret (d := .bool res) ?_ rfl)
          rw [hres]
          have hidx : (4 : Int) * j - 1 + ((b : Int) - a).fmod 3 = ((4 * j + md a b - 1 : Nat) : Int) := by rw [fmod_md ha hb]; omega
          have hyl : ((((y ++ [chr rwx j]).length : Nat) : Int) == (4 : Int)) = (y.length == 3) := by
            rw [Bool.eq_iff_iff]; simp; omega
          refine Ev.cmp (d1 := .bool (bit sh (a + 1) (4 * j + md a b - 1))) (d2 := .bool ((((y ++ [chr rwx j]).length : Nat) : Int) == (4 : Int))) ?_ ?_ (by rw [hyl]; exact Op2.ne_bool)
          · refine Ev.bit (i1 := (a : Int) + 1) (i2 := (4 : Int) * j - 1 + ((b : Int) - a).fmod 3) S (Ev.name rfl) ?_ ?_ (by push_cast; rfl) hidx (by omega) (by omega)
            · exact Ev.bin (by exact Ev.name rfl) (by exact Ev.int) (by exact Op2.add_int)
            · refine Ev.bin (d1 := .int ((4 : Int) * j - 1)) (d2 := .int (((b : Int) - a).fmod 3)) ?_ ?_ Op2.add_int
              · exact Ev.bin (by exact Ev.bin (by exact Ev.int) (by exact Ev.name rfl) (by exact Op2.mul_int (IntMulOk.of_left (by decide)))) (by exact Ev.int) (by exact Op2.sub_int)
              · exact Ev.bin (by exact Ev.bin (by exact Ev.name rfl) (by exact Ev.name rfl) (by exact Op2.sub_int)) (by exact Ev.int) (by exact Op2.mod_int (by decide))
          · refine Ev.cmp (d1 := .int ((y ++ [chr rwx j]).length : Nat)) (d2 := .int 4) ?_ Ev.int Op2.eq_int
            refine Ev.builtin G T.len.1 T.len.2 (ds := [.str (y ++ [chr rwx j])]) (Evs.cons ?_ Evs.nil) (OpN.len_str (small (by simp; omega)))
            refine Ev.elt (j := 0) (l := dstrs head) (Ev.name rfl) Ev.int rfl ?_ (by omega)
            rw [hhead]; rfl
end
end Mine

-- Walk8
namespace Mine
section
variable {prog : Program} {w : World} {hT : Heap} {n : Nat} {env : Env} {ρ : List (Str × D)} {σ : List (List D)} {mg mb : Str → Option Value}

theorem EvT.and2 {x y pos b c} (hx : EvT prog w hT n env ρ σ x b) (hy : b = true → EvT prog w hT n env ρ σ y c) : EvT prog w hT n env ρ σ (.BoolOp .And [x, y] pos) (b && c) := by
  cases b with
  | false => exact EvT.and hx (fun h => by cases h) (fun _ => rfl)
  | true =>
    refine EvT.and hx (fun _ => ?_) (fun h => by cases h)
    have h2 := hy rfl
    cases c with
    | false => exact EvT.and h2 (fun h => by cases h) (fun _ => rfl)
    | true => exact EvT.and h2 (fun _ => EvT.and_nil) (fun h => by cases h)

def rchB (sh : List (List Bool)) (j a b : Nat) : Bool := (decide (b ≠ a) && bit sh (a + 1) (4 * j + md a b - 1)) && (!bit sh 0 (4 * b + 3) || (!bit sh 0 (4 * (3 - a - b) + 3) && bit sh (b + 1) (4 * j + 1 + md b a)))
def rchA (sh : List (List Bool)) (j a : Nat) : Bool := bit sh 0 (4 * a + j) && (!bit sh 0 (4 * a + 3) || (List.range 3).any (rchB sh j a))
def rch (sh : List (List Bool)) (j : Nat) : Bool := (List.range 3).any (rchA sh j)

theorem range3_get {k : Nat} {d : D} (hd : ((List.range (Int.toNat 3)).map fun i : Nat => D.int (i : Int))[k]? = some d) : k < 3 ∧ d = .int (k : Int) := by
  have hk : k < 3 := by simpa using (List.getElem?_eq_some_iff.mp hd).1
  obtain ⟨a, ha, rfl⟩ := map_get hd
  have : a = k := by
    have := (List.getElem?_eq_some_iff.mp ha).2
    simpa using this.symm
  exact ⟨hk, by rw [this]⟩

theorem w_reached (G : GL hT mg mb) (T : Bt mg mb) (hd : Def hT mg (defAt 36)) {sh : List (List Bool)} (S : Sh sh) {j : Nat} (hj : j < 3) : FnN prog w hT mg 1 (defAt 36).name [.list (dsh sh), .int j] (.bool (rch sh j)) := by
  refine FnN.mk (xs := [Str.ofString "bits", Str.ofString "j"]) G hd (fun pm code doc vs hv => ?_) (fun N x hx => ?_) (by decide) rfl (by simp [D.purs, D.pur, purs_sh]) rfl fun pm code doc L f => ?_
  · match vs, hv with
    | [v1, v2], _ => rfl
  · simp at hx; rcases hx with rfl | rfl <;> (left; rfl)
  · have yes : ∀ a, a < 3 → rchA sh j a = true → Fl.ret (.bool true) = Fl.ret (.bool (rch sh j)) := fun a ha h => by
      have : rch sh j = true := List.any_eq_true.mpr ⟨a, by simpa using ha, h⟩
      rw [this]
    refine Ex.cons (Ex1.for_ (fun k ρ₁ σ₁ => Knows ρ₁ [(Str.ofString "bits", .list (dsh sh)), (Str.ofString "j", .int j)] ∧ σ₁ = [] ∧ ∀ a, a < k → rchA sh j a = false) (EvI.range1 (N := 3) G T.range.1 T.range.2 (by exact Ev.int) (by omega) (by omega)) rfl
      ⟨⟨rfl, rfl, trivial⟩, rfl, fun a ha => absurd ha (Nat.not_lt_zero _)⟩ (fun a d ρ₁ σ₁ hd hinv => ?_) (fun ρ₁ σ₁ hinv => ?_))
    · obtain ⟨hk, rfl, hno⟩ := hinv
      obtain ⟨ha, rfl⟩ := range3_get hd
      have next : ∀ ρ2, Knows ρ2 [(Str.ofString "bits", .list (dsh sh)), (Str.ofString "j", .int j)] → rchA sh j a = false → Knows ρ2 [(Str.ofString "bits", .list (dsh sh)), (Str.ofString "j", .int j)] ∧ ([] : List (List D)) = [] ∧ ∀ a', a' < a + 1 → rchA sh j a' = false := fun ρ2 hk2 hf => ⟨hk2, rfl, fun a' ha' => by
        by_cases h : a' = a
        · rw [h]; exact hf
        · exact hno a' (by omega)⟩
      refine ⟨_, _, As.name (.inl rfl), ?_⟩
      refine Ex.forget (ρ' := [(Str.ofString "bits", .list (dsh sh)), (Str.ofString "j", .int j), (Str.ofString "a", .int a)]) (fun x d hx => upd_get hk.get _ _ x d hx) ?_
      refine Ex.cons (Ex1.ite (c := bit sh 0 (4 * a + j)) ?_ (fun h1 => ?_) (fun h1 => ?_))
      · exact EvT.plain (by exact Ev.bit (r := 0) (c := 4 * a + j) S (by exact Ev.name rfl) (by exact Ev.int) (by exact Ev.bin (by exact Ev.bin (by exact Ev.int) (by exact Ev.name rfl) (by exact Op2.mul_int (IntMulOk.of_left (by decide)))) (by exact Ev.name rfl) (by exact Op2.add_int)) rfl (by push_cast; rfl) (by omega) (by omega)) (by exact Tru.bool)
      · refine Ex.cons (Ex1.ite (c := !bit sh 0 (4 * a + 3)) ?_ (fun h2 => ?_) (fun h2 => ?_))
        · exact EvT.not (by exact EvT.plain (by exact Ev.bit (r := 0) (c := 4 * a + 3) S (by exact Ev.name rfl) (by exact Ev.int) (by exact Ev.bin (by exact Ev.bin (by exact Ev.int) (by exact Ev.name rfl) (by exact Op2.mul_int (IntMulOk.of_left (by decide)))) (by exact Ev.int) (by exact Op2.add_int)) rfl (by push_cast; rfl) (by omega) (by omega)) (by exact Tru.bool))
        · exact Ex.cons (Ex1.ret (by exact Ev.bool) (yes a ha (by unfold rchA; rw [h1, h2]; rfl)))
        · refine Ex.nil ?_
          have hA : (List.range 3).any (rchB sh j a) = true → rchA sh j a = true := fun h => by unfold rchA; rw [h1, h]; simp
          refine Ex.cons (Ex1.for_ (fun k ρ₁ σ₁ => Knows ρ₁ [(Str.ofString "bits", .list (dsh sh)), (Str.ofString "j", .int j), (Str.ofString "a", .int a)] ∧ σ₁ = [] ∧ ∀ b, b < k → rchB sh j a b = false) (EvI.range1 (N := 3) G T.range.1 T.range.2 (by exact Ev.int) (by omega) (by omega)) rfl
            ⟨⟨rfl, rfl, rfl, trivial⟩, rfl, fun b hb => absurd hb (Nat.not_lt_zero _)⟩ (fun b d ρ₁ σ₁ hd hinv => ?_) (fun ρ₁ σ₁ hinv => ?_))
          · obtain ⟨hk2, rfl, hno2⟩ := hinv
            obtain ⟨hb, rfl⟩ := range3_get hd
            have yesB : rchB sh j a b = true → Fl.ret (.bool true) = Fl.ret (.bool (rch sh j)) := fun h => yes a ha (hA (List.any_eq_true.mpr ⟨b, by simpa using hb, h⟩))
            have nextB : ∀ ρ2, Knows ρ2 [(Str.ofString "bits", .list (dsh sh)), (Str.ofString "j", .int j), (Str.ofString "a", .int a)] → rchB sh j a b = false → Knows ρ2 [(Str.ofString "bits", .list (dsh sh)), (Str.ofString "j", .int j), (Str.ofString "a", .int a)] ∧ ([] : List (List D)) = [] ∧ ∀ b', b' < b + 1 → rchB sh j a b' = false := fun ρ2 hk2 hf => ⟨hk2, rfl, fun b' hb' => by
              by_cases h : b' = b
              · rw [h]; exact hf
              · exact hno2 b' (by omega)⟩
            refine ⟨_, _, As.name (.inl rfl), ?_⟩
            refine Ex.forget (ρ' := [(Str.ofString "bits", .list (dsh sh)), (Str.ofString "j", .int j), (Str.ofString "a", .int a), (Str.ofString "b", .int b)]) (fun x d hx => upd_get hk2.get _ _ x d hx) ?_
            have m1 := md_lt a b
            have m3 := md_lt b a
            refine Ex.cons (Ex1.ite (c := decide (b ≠ a) && bit sh (a + 1) (4 * j + md a b - 1)) ?_ (fun h3 => ?_) (fun h3 => ?_))
            · have hne : ((b : Int) != (a : Int)) = decide (b ≠ a) := by rw [Bool.eq_iff_iff]; simp; omega
              rw [← hne]
              refine EvT.and2 (EvT.cmp (by exact Ev.name rfl) (by exact Ev.name rfl) (by exact Op2.ne_int)) (fun hba => ?_)
              have hba' : b ≠ a := by rw [hne] at hba; simpa using hba
              have m2 := md_pos ha hb hba'
              have hidx : (4 : Int) * j - 1 + ((b : Int) - a).fmod 3 = ((4 * j + md a b - 1 : Nat) : Int) := by rw [fmod_md ha hb]; omega
              refine EvT.plain (Ev.bit (i1 := (a : Int) + 1) (i2 := (4 : Int) * j - 1 + ((b : Int) - a).fmod 3) S (Ev.name rfl) ?_ ?_ (by push_cast; rfl) hidx (by omega) (by omega)) Tru.bool
              · exact Ev.bin (by exact Ev.name rfl) (by exact Ev.int) (by exact Op2.add_int)
              · refine Ev.bin (d1 := .int ((4 : Int) * j - 1)) (d2 := .int (((b : Int) - a).fmod 3)) ?_ ?_ Op2.add_int
                · exact Ev.bin (by exact Ev.bin (by exact Ev.int) (by exact Ev.name rfl) (by exact Op2.mul_int (IntMulOk.of_left (by decide)))) (by exact Ev.int) (by exact Op2.sub_int)
                · exact Ev.bin (by exact Ev.bin (by exact Ev.name rfl) (by exact Ev.name rfl) (by exact Op2.sub_int)) (by exact Ev.int) (by exact Op2.mod_int (by decide))
            · have hba : b ≠ a := by
                have := (Bool.and_eq_true_iff.mp h3).1
                simpa using this
              refine Ex.cons (Ex1.ite (c := !bit sh 0 (4 * b + 3)) ?_ (fun h4 => ?_) (fun h4 => ?_))
              · exact EvT.not (by exact EvT.plain (by exact Ev.bit (r := 0) (c := 4 * b + 3) S (by exact Ev.name rfl) (by exact Ev.int) (by exact Ev.bin (by exact Ev.bin (by exact Ev.int) (by exact Ev.name rfl) (by exact Op2.mul_int (IntMulOk.of_left (by decide)))) (by exact Ev.int) (by exact Op2.add_int)) rfl (by push_cast; rfl) (by omega) (by omega)) (by exact Tru.bool))
              · exact Ex.cons (Ex1.ret (by exact Ev.bool) (yesB (by unfold rchB; rw [h3, h4]; rfl)))
              · refine Ex.nil ?_
                refine Ex.cons (Ex1.ite (c := !bit sh 0 (4 * (3 - a - b) + 3) && bit sh (b + 1) (4 * j + 1 + md b a)) ?_ (fun h5 => ?_) (fun h5 => ?_))
                · refine EvT.and2 (EvT.not (EvT.plain (Ev.bit (i1 := 0) (i2 := 4 * (3 - (a : Int) - b) + 3) (r := 0) (c := 4 * (3 - a - b) + 3) S (Ev.name rfl) Ev.int ?_ rfl (by omega) (by omega) (by omega)) Tru.bool)) (fun _ => ?_)
                  · exact Ev.bin (by exact Ev.bin (by exact Ev.int) (by exact Ev.bin (by exact Ev.bin (by exact Ev.int) (by exact Ev.name rfl) (by exact Op2.sub_int)) (by exact Ev.name rfl) (by exact Op2.sub_int)) (by exact Op2.mul_int (IntMulOk.of_left (by decide)))) (by exact Ev.int) (by exact Op2.add_int)
                  · have hidx : (4 : Int) * j + 1 + ((a : Int) - b).fmod 3 = ((4 * j + 1 + md b a : Nat) : Int) := by rw [fmod_md hb ha]; push_cast; rfl
                    refine EvT.plain (Ev.bit (i1 := (b : Int) + 1) (i2 := (4 : Int) * j + 1 + ((a : Int) - b).fmod 3) S (Ev.name rfl) ?_ ?_ (by push_cast; rfl) hidx (by omega) (by omega)) Tru.bool
                    · exact Ev.bin (by exact Ev.name rfl) (by exact Ev.int) (by exact Op2.add_int)
                    · refine Ev.bin (d1 := .int ((4 : Int) * j + 1)) (d2 := .int (((a : Int) - b).fmod 3)) ?_ ?_ Op2.add_int
                      · exact Ev.bin (by exact Ev.bin (by exact Ev.int) (by exact Ev.name rfl) (by exact Op2.mul_int (IntMulOk.of_left (by decide)))) (by exact Ev.int) (by exact Op2.add_int)
                      · exact Ev.bin (by exact Ev.bin (by exact Ev.name rfl) (by exact Ev.name rfl) (by exact Op2.sub_int)) (by exact Ev.int) (by exact Op2.mod_int (by decide))
                · exact Ex.cons (Ex1.ret (by exact Ev.bool) (yesB (by unfold rchB; rw [h3, h5]; simp)))
                · exact Ex.nil (Ex.nil (Ex.nil (nextB _ ⟨rfl, rfl, rfl, trivial⟩ (by unfold rchB; rw [h3, h4, h5]; rfl))))
            · exact Ex.nil (Ex.nil (nextB _ ⟨rfl, rfl, rfl, trivial⟩ (by unfold rchB; rw [h3]; rfl)))
          · obtain ⟨hk2, rfl, hno2⟩ := hinv
            have hnone : (List.range 3).any (rchB sh j a) = false := by
              rw [← Bool.not_eq_true]
              intro h
              obtain ⟨b, hb, hh⟩ := List.any_eq_true.mp h
              have := hno2 b (by simpa using hb)
              rw [this] at hh; cases hh
            exact Ex.nil (Ex.nil (Ex.nil (next _ (by
              obtain ⟨k1, k2, _⟩ := hk2
              exact ⟨k1, k2, trivial⟩) (by unfold rchA; rw [h2, hnone]; simp))))
      · exact Ex.nil (Ex.nil (next _ ⟨rfl, rfl, trivial⟩ (by unfold rchA; rw [h1]; rfl)))
    · obtain ⟨hk, rfl, hno⟩ := hinv
      refine Ex.nil ?_
      refine Ex.cons (Ex1.ret (by exact Ev.bool) ?_)
      have : rch sh j = false := by
        rw [← Bool.not_eq_true]
        intro h
        obtain ⟨b, hb, hh⟩ := List.any_eq_true.mp h
        have := hno b (by simpa using hb)
        rw [this] at hh; cases hh
      rw [this]; rfl
end
end Mine

-- Rules16
namespace Mine
section
variable {prog : Program} {w : World} {hT : Heap} {n : Nat} {env : Env} {ρ : List (Str × D)} {σ : List (List D)}

theorem comp_gen {A : Around} (hA : Rm A n) {s : Shared} {μ : List (Option Addr)} {fz : Fz} (S : Sta hT env ρ σ μ fz s) {elt target iter : Expr} {ifs : List Expr} {scope : Scope} {cpos pos : Pos} {cl : List (Str × Addr)} {ds : List D} {ρc : List (Str × D)} {rest : List Comprehension} (inner : Addr → Addr → Sem Unit)
    (hturn : ∀ I Da C, compTurn (.ListComp elt (⟨target, iter, ifs, 0⟩ :: rest) scope cpos) 0 (.ref I) (.ref Da) (cEnv scope cl C env) = turnShape target iter ifs (.ref I) (cEnv scope cl C env) (inner Da C) (.compLoop (.ListComp elt (⟨target, iter, ifs, 0⟩ :: rest) scope cpos) 0 (.ref I) (.ref Da) (cEnv scope cl C env)))
    (hI : EvX prog w hT n env ρ σ iter target ds) (ok : CompOk scope cl env) (hρc : AllV (Sees scope cl env ρ) ρc) (Inv : Nat → List (List D) → Prop) (h0 : Inv 0 (σ ++ [[]]))
    (hstep : ∀ C i d σ₁, ds[i]? = some d → Inv i σ₁ → ∃ ρ₂ xs b, As prog w hT n (cEnv scope cl C env) σ₁ target d ρc ρ₂ xs ∧ (∀ x ∈ xs, cl.lookup x = none) ∧ (∀ x d, ρc.lookup x = some d → ρ₂.lookup x = some d) ∧
      EvIf prog w hT n (cEnv scope cl C env) ρ₂ σ₁ ifs b ∧ (b = false → Inv (i + 1) σ₁) ∧
      (b = true → ∀ (Da : Addr) (W : Addr → Prop), W Da → (∀ x a, cl.lookup x = none → Loc (cEnv scope cl C env) x a → W a) → Act prog w hT n (cEnv scope cl C env) σ.length Da W ρ₂ σ₁ (inner Da C) (Inv (i + 1))))
    {use : Option (Value → Sem Unit)} {Q : Value → Shared → Prop} {E : Value → Shared → Prop}
    (hfin : ∀ Da C s' μ' fz' σ' W, Inv ds.length σ' → Sta hT (cEnv scope cl C env) ρc σ' μ' fz' s' → Grow W s μ fz s' μ' fz' → (∀ a, W a → s.heap.get? a = none) → μ'[σ.length]? = some (some Da) →
      s.heap.get? C = none → compPost (model prog w) A E use Q (.ref Da) C (.ok .next) s')
    (hs : ∀ x, foldedSetIterable iter env x = pure x := by intro _; rfl) :
    wpAny (model prog w) A (comprehension (.ListComp elt (⟨target, iter, ifs, 0⟩ :: rest) scope cpos) scope env pos (newList []) false (eval iter env) use) Q E s := by
  refine wpAny_comprehension_free (g := ⟨target, iter, ifs, 0⟩) (gs := rest) rfl hs ok.clos ok.kind ok.names (hI.run A hA s μ fz S _ _ fun I fp P St fz0 s2 X0 Wk hst hrep hnew hf hlive hfp => ?_)
  -- the new list
  have S2 := S.ext X0
  refine wpAny_newObj_type ?_ (by size_fits)
  let o1 : Obj := { cls := .type "list", data := .seq ([] : List Value).toArray }
  let s3 : Shared := { s2 with heap := s2.heap.push o1 }
  have Y3 : Ext s2 fz0 s3 fz0 := .keep X0.sub (keeps_push _ _)
  have S3 : Sta hT env ρ σ μ fz0 s3 := S2.ext Y3
  have hDa : s2.heap.get? s2.heap.objs.size = none := not_there
  refine newEnv_comp (s := s3) fun cenv hcl hcenv => ?_
  rw [hcenv, hcl]
  let s4 : Shared := { s3 with heap := pushCells (s3.heap.push { cls := .type "dict", data := .dict #[] }) scope.names }
  have hC : s3.heap.objs.size = s2.heap.objs.size + 1 := Heap.size_push ..
  have S4 : Sta hT (cEnv scope cl s3.heap.objs.size env) ρc σ μ fz0 s4 := S3.comp ok hρc
  have Y4 : Ext s3 fz0 s4 fz0 := .keep Y3.sub ⟨_, s3.toks, rfl, fun b o e => pushCells_keeps _ _ _ _ (Heap.get?_push_of_some _ e)⟩
  have X4 : Ext s fz s4 fz0 := (X0.trans Y3).trans Y4
  have cellsAre : ∀ x c, (cEnv scope cl s3.heap.objs.size env).cells.lookup x = some c → (s3.heap.objs.size + 1 ≤ c ∧ c < s3.heap.objs.size + 1 + cnt scope.names) ∨ (cl.lookup x = some c ∧ ∃ o, s.heap.get? c = some o) := fun x c e => by
    rcases cellsFrom_cases _ _ _ _ _ e with h | h
    · exact .inl h
    · obtain ⟨⟨v, o, h1, _⟩, _⟩ := S.sepC x c (ok.cells x c h)
      exact .inr ⟨h, o, h1⟩
  have hl3 : s3.heap.get? s2.heap.objs.size = some o1 := Heap.get?_push_size _ rfl
  have hl4 : s4.heap.get? s2.heap.objs.size = some o1 := keeps_get Y4.keeps _ _ hl3
  have muIn : ∀ (k : Nat) (a : Addr), μ[k]? = some (some a) → ∃ o, s.heap.get? a = some o := fun k a e => by
    have hlt := (List.getElem?_eq_some_iff.mp e).1
    rw [S.len] at hlt
    obtain ⟨vs, ⟨n', q⟩, _⟩ := S.lists k a _ e (List.getElem?_eq_getElem hlt)
    exact ⟨_, q⟩
  have hDs : s.heap.get? s2.heap.objs.size = none := none_before X0.keeps hDa
  have offD : Off (cEnv scope cl s3.heap.objs.size env) μ fz0 s4 s2.heap.objs.size := {
    fz := fz_none X0.sub hDa
    loc := by show s3.heap.objs.size ≠ _; rw [hC]; exact Nat.succ_ne_self _
    mu := fun k e => by obtain ⟨o, ho⟩ := muIn k _ e; rw [hDs] at ho; cases ho
    cell := fun x c e => by
      rcases cellsAre x c e with ⟨h1, _⟩ | ⟨_, o, h1⟩
      · rw [hC] at h1; exact Nat.ne_of_gt (Nat.lt_of_succ_lt h1)
      · rintro rfl; rw [hDs] at h1; cases h1
    live := ⟨_, hl4⟩ }
  have S5 : Sta hT (cEnv scope cl s3.heap.objs.size env) ρc (σ ++ [[]]) (μ ++ [some s2.heap.objs.size]) fz0 s4 := S4.addCell (l := []) (vs := []) offD ⟨0, hl4⟩ rfl
  have hIlt : I < s2.heap.objs.size := by obtain ⟨o, ho⟩ := hlive; exact Heap.lt_size ho
  have hlive4 : ∃ o, s4.heap.get? I = some o := by obtain ⟨o, ho⟩ := hlive; exact ⟨o, keeps_get (keeps_trans Y3.keeps Y4.keeps) _ _ ho⟩
  let W : Addr → Prop := fun a => s2.heap.objs.size ≤ a ∧ a < s2.heap.objs.size + 2 + cnt scope.names
  have offI : Off (cEnv scope cl s3.heap.objs.size env) (μ ++ [some s2.heap.objs.size]) fz0 s4 I := {
    fz := hf
    loc := by show s3.heap.objs.size ≠ I; rw [hC]; exact Nat.ne_of_gt (Nat.lt_succ_of_lt hIlt)
    mu := fun k e => by
      by_cases hk : k < μ.length
      · rw [List.getElem?_append_left hk] at e
        obtain ⟨o, ho⟩ := muIn k _ e; rw [hnew] at ho; cases ho
      · have hk2 : k = μ.length := by
          have := (List.getElem?_eq_some_iff.mp e).1
          simp at this; omega
        subst hk2
        rw [List.getElem?_append_right (Nat.le_refl _)] at e
        simp at e
        exact Nat.ne_of_gt hIlt e
    cell := fun x c e => by
      rcases cellsAre x c e with ⟨h1, _⟩ | ⟨_, o, h1⟩
      · exact Nat.ne_of_gt (Nat.lt_of_lt_of_le hIlt (Nat.le_trans (by rw [hC]; exact Nat.le_succ_of_le (Nat.le_succ _)) h1))
      · rintro rfl; rw [hnew] at h1; cases h1
    live := hlive4 }
  have hWs : ∀ a, (W a ∨ a = I) → s.heap.get? a = none := fun a ha => by
    rcases ha with ha | rfl
    · refine none_before X0.keeps ?_
      cases e : s2.heap.get? a with
      | none => rfl
      | some o => exact absurd (Heap.lt_size e) (Nat.not_lt.mpr ha.1)
    · exact hnew
  have G0 : Grow (fun a => W a ∨ a = I) s μ fz s4 (μ ++ [some s2.heap.objs.size]) fz0 :=
    { X4.grow (μ := μ) (W := fun a => W a ∨ a = I) with
      pre := ⟨[some s2.heap.objs.size], rfl⟩
      mu := fun k a e => by
        by_cases hk : k < μ.length
        · rw [List.getElem?_append_left hk] at e; exact .inl e
        · have hk2 : k = μ.length := by
            have := (List.getElem?_eq_some_iff.mp e).1
            simp at this; omega
          subst hk2
          rw [List.getElem?_append_right (Nat.le_refl _)] at e
          simp at e
          subst e; exact .inr hDs }
  have hWI : ¬ W I := fun h => absurd h.1 (Nat.not_le.mpr hIlt)
  have hkD : (μ ++ [some s2.heap.objs.size])[σ.length]? = some (some s2.heap.objs.size) := by rw [← S.len]; simp
  have loop : codeAny (model prog w) A (.compLoop (.ListComp elt (⟨target, iter, ifs, 0⟩ :: rest) scope cpos) 0 (.ref I) (.ref s2.heap.objs.size) (cEnv scope cl s3.heap.objs.size env))
      (compPost (model prog w) A E use Q (.ref s2.heap.objs.size) s3.heap.objs.size) s4 := by
    refine comp_loop hA (k := σ.length) (target := target) (iter := iter) (ifs := ifs) (inner := inner s2.heap.objs.size s3.heap.objs.size) (hturn _ _ _)
      W Wk hWI S5 (Wk.frame _ _ _ hst fun b _ o e => keeps_get (keeps_trans Y3.keeps Y4.keeps) _ _ e) offI (fun i v d hP hd => (hrep i v d hP hd).mono fun _ _ e => e)
      (fun b hb hbI => ⟨fun hw => by obtain ⟨o, ho⟩ := hfp b hb; exact absurd (Heap.lt_size ho) (Nat.not_lt.mpr hw.1), by obtain ⟨o, ho⟩ := hfp b hb; exact ⟨o, keeps_get (keeps_trans Y3.keeps Y4.keeps) _ _ ho⟩⟩)
      hkD G0 hnew Inv h0 (fun i d σ₁ hd hinv => ?_) (fun s' μ' fz' σ' hinv S' G' hk' => ?_)
    · obtain ⟨ρ₂, xs, b, h1, h2, h3, h4, h5, h6⟩ := hstep s3.heap.objs.size i d σ₁ hd hinv
      have locW : ∀ x a, cl.lookup x = none → Loc (cEnv scope cl s3.heap.objs.size env) x a → W a := fun x a hx hL => by
        rcases hL with ⟨_, rfl⟩ | hL
        · show s2.heap.objs.size ≤ s3.heap.objs.size ∧ _; rw [hC]; exact ⟨Nat.le_succ _, by show s2.heap.objs.size + 1 < s2.heap.objs.size + 2 + cnt scope.names; omega⟩
        · rcases cellsAre x a hL with ⟨h7, h8⟩ | ⟨h7, _⟩
          · rw [hC] at h7 h8
            exact ⟨Nat.le_trans (Nat.le_trans (Nat.le_succ _) (Nat.le_succ _)) h7, by rw [show s2.heap.objs.size + 2 + cnt scope.names = s2.heap.objs.size + 1 + 1 + cnt scope.names by omega]; exact h8⟩
          · rw [hx] at h7; cases h7
      exact ⟨ρ₂, xs, b, h1, fun x hx a hL => locW x a (h2 x hx) hL, h3, h4, h5, fun hb => h6 hb _ W ⟨Nat.le_refl _, by show s2.heap.objs.size < s2.heap.objs.size + 2 + cnt scope.names; omega⟩ locW⟩
    · exact hfin _ _ s' μ' fz' σ' _ hinv S' G' hWs hk' (hWs _ (.inl ⟨by rw [hC]; exact Nat.le_succ _, by rw [hC]; show s2.heap.objs.size + 1 < s2.heap.objs.size + 2 + cnt scope.names; omega⟩))
  have hst4 : St 0 s4.heap := Wk.frame _ _ _ hst fun b _ o e => keeps_get (keeps_trans Y3.keeps Y4.keeps) _ _ e
  exact comp_start (target := target) (iter := iter) (ifs := ifs) rfl loop (Wk.self 0 s4 _ _ hst4 loop)

/-- the frame behind a comprehension whose list stays open -/
theorem fin_open {s s' : Shared} {μ μ' : List (Option Addr)} {fz fz' : Fz} {W : Addr → Prop} {cenv : Env} {ρc : List (Str × D)} {σ' : List (List D)} (S : Sta hT env ρ σ μ fz s) (S' : Sta hT cenv ρc σ' μ' fz' s') (G : Grow W s μ fz s' μ' fz')
    (hW : ∀ a, W a → s.heap.get? a = none) : Sta hT env ρ σ' μ' fz' s' where
  sub := S'.sub
  top := S'.top
  isFn := S.isFn
  ns := let ⟨m, h⟩ := S.ns; ⟨m, h.keeps (keeps_get (G.keeps hW))⟩
  vars := fun x d e => by
    obtain ⟨v, L, r⟩ := S.vars x d e
    obtain ⟨ν, rfl⟩ := G.pre
    exact ⟨v, L.keeps (keeps_get (G.keeps hW)), r.mono G.up⟩
  len := S'.len
  lists := S'.lists
  sepL := by
    cases e : fz' env.locals with
    | none => rfl
    | some o =>
      rcases G.fresh _ _ e with h | h
      · rw [S.sepL] at h; cases h
      · obtain ⟨m, o', _, _, ho, _⟩ := S.ns
        rw [h] at ho; cases ho
  sepM := fun k a hk => by
    refine ⟨(S'.sepM k a hk).1, ?_⟩
    rcases G.mu k a hk with h | h
    · exact (S.sepM k a h).2
    · rintro rfl
      obtain ⟨m, o', _, _, ho, _⟩ := S.ns
      rw [h] at ho; cases ho
  nodup := S'.nodup
  sepC := fun x c e => by
    obtain ⟨⟨v, h1⟩, h2, h3, h4⟩ := S.sepC x c e
    refine ⟨⟨v, h1.keeps (keeps_get (G.keeps hW))⟩, ?_, h3, fun k hk => ?_⟩
    · cases e' : fz' c with
      | none => rfl
      | some o =>
        rcases G.fresh _ _ e' with h | h
        · rw [h2] at h; cases h
        · obtain ⟨o', ho⟩ := IsCell_get h1
          rw [h] at ho; cases ho
    · rcases G.mu k c hk with h | h
      · exact h4 k h
      · obtain ⟨o', ho⟩ := IsCell_get h1
        rw [h] at ho; cases ho
  injC := S.injC

theorem EvC.comp {elt target iter : Expr} {ifs : List Expr} {scope : Scope} {cpos : Pos} {cl : List (Str × Addr)} {ds : List D} {ρc : List (Str × D)} (J : Nat → List (List D))
    (hI : EvX prog w hT n env ρ σ iter target ds) (ok : CompOk scope cl env) (hρc : AllV (Sees scope cl env ρ) ρc) (h0 : J 0 = σ ++ [[]])
    (hstep : ∀ C i d, ds[i]? = some d → ∃ ρ₂ xs b, As prog w hT n (cEnv scope cl C env) (J i) target d ρc ρ₂ xs ∧ (∀ x ∈ xs, cl.lookup x = none) ∧ (∀ x d, ρc.lookup x = some d → ρ₂.lookup x = some d) ∧
      EvIf prog w hT n (cEnv scope cl C env) ρ₂ (J i) ifs b ∧ (b = false → J (i + 1) = J i) ∧
      (b = true → ∃ e σ₂ l, EvC prog w hT n (cEnv scope cl C env) ρ₂ (J i) elt e σ₂ ∧ σ₂[σ.length]? = some l ∧ l.length ≤ sizeLine ∧ J (i + 1) = app σ₂ σ.length e))
    (hs : ∀ x, foldedSetIterable iter env x = pure x := by intro _; rfl) :
    EvC prog w hT n env ρ σ (.ListComp elt [⟨target, iter, ifs, 0⟩] scope cpos) (.cell σ.length) (J ds.length) := .of fun A hA s μ fz S Q E hQ => by
  rw [eval_ListComp]
  refine comp_one hA S hI ok hρc (fun i σ₁ => σ₁ = J i) h0.symm (fun C i d σ₁ hd hinv => ?_) (fun Da C s' μ' fz' σ' W hinv S' G hW hk hC => ?_) hs
  · subst hinv
    obtain ⟨ρ₂, xs, b, h1, h2, h3, h4, h5, h6⟩ := hstep C i d hd
    refine ⟨ρ₂, xs, b, h1, h2, h3, h4, fun hb => (h5 hb).symm, fun hb => ?_⟩
    obtain ⟨e, σ₂, l, h7, h8, h9, h10⟩ := h6 hb
    exact ⟨e, σ₂, l, h7, h8, h9, h10.symm⟩
  · subst hinv
    obtain ⟨m, hm⟩ := S'.ns
    refine ⟨m, hm, fun h' hsb => ?_⟩
    have hk' : ∀ b o, b ≠ C → s'.heap.get? b = some o → h'.get? b = some o := fun b o hb e => (hsb.2 b hb).trans e
    have F := fin_open S S' G hW
    have locC : env.locals ≠ C := by
      rintro rfl
      obtain ⟨m', o', _, _, ho, _⟩ := S.ns
      rw [hC] at ho; cases ho
    have cellC : ∀ x c, env.cells.lookup x = some c → c ≠ C := fun x c e => by
      rintro rfl
      obtain ⟨⟨v, o, h1, _⟩, _⟩ := S.sepC x c e
      rw [hC] at h1; cases h1
    have muC : ∀ k : Nat, μ'[k]? ≠ some (some C) := fun k e => (S'.sepM k C e).2 rfl
    have S'' := F.keepBut (tk := s'.toks) hk' S'.sepL locC muC cellC
    have hl : ∃ o, h'.get? C = some o ∨ s.heap.get? C = none := ⟨default, .inr hC⟩
    refine hQ (.ref Da) μ' fz' { s' with heap := h' } S'' ?_ ⟨Da, rfl, hk⟩
    have G2 : Grow (fun a => W a ∨ a = C) s μ fz { s' with heap := h', toks := s'.toks } μ' fz' := (G.mono fun _ h => .inl h).skip hk' (.inr rfl) (.inr hC)
    have kk : Keeps s { s' with heap := h', toks := s'.toks } := G2.keeps fun a ha => ha.elim (hW a) fun h => by rw [h]; exact hC
    exact { G2 with pres := fun a o _ e => keeps_get kk a o e }

theorem Ex1.assignC {t value pos d σ' ρ' xs} {Post : PostT} (h : EvC prog w hT n env ρ σ value d σ') (ha : As prog w hT n env σ' t d ρ ρ' xs) (hp : Post .next ρ' σ')
    (hs : swapsWithSole [t] value pos.line env = pure false := by rfl) (hw : swappedStores [t] value env = pure none := by rfl) (ht : (assignEach [t] env).map (·.2) = [PySem.assign t env] := by rfl) :
    Ex1 prog w hT n env ρ σ (.Assign [t] value pos) Post := .of fun A hA s μ fz S Q E hQ =>
  assign_one (h.run A hA s μ fz S _ _ fun v μ' fz' s' S' G r => ha.run A hA s' μ' fz' S' v r _ _ fun s2 S2 X2 =>
    hQ _ .next ρ' σ' μ' fz' s2 hp S2 ((G.step fun a h => h.elim).trans (X2.step fun a ⟨x, _, h⟩ => .inl h.wf)) rfl) hs hw ht

/-- an element of an open list -/
theorem Ev.item_cell {value slice pos l i d k} {j : Nat} (h1 : Ev prog w hT n env ρ σ value (.cell k)) (h2 : Ev prog w hT n env ρ σ slice (.int i)) (hl : σ[k]? = some l) (hij : i = j) (hj : l[j]? = some d) (hb : j < 1000000)
    (hs : ∀ o i, subscripted slice false o i = operate [o, i] (getItem o i) := by intro _ _; rfl) : Ev prog w hT n env ρ σ (.Subscript value slice pos) d := .of fun A hA s μ fz S Q E hQ => by
  refine Subscript_ (h1.run A hA s μ fz S _ _ fun v1 fz1 s1 X1 r1 => h2.run A hA s1 μ fz1 (S.ext X1) _ _ fun v2 fz2 s2 X2 r2 => ?_)
  obtain ⟨a, rfl, hk⟩ := r1
  obtain ⟨u, rfl⟩ := r2
  obtain ⟨vs, ⟨n', q⟩, rs⟩ := ((S.ext X1).ext X2).lists k a l hk hl
  have il : s2.heap.IsList a vs.toArray := ⟨_, q, rfl, n', rfl⟩
  obtain ⟨x, hx, rx⟩ := rs.get hj
  subst hij
  refine tail_any il.typeIs list_getitem_lookup ?_ (hs _ _)
  exact wpAny_getItem_list il (by omega) (by omega) (x := x) (by simpa using hx) (hQ x fz2 s2 (X1.trans X2) rx)
end
end Mine

-- Rules17
namespace Mine
section
variable {prog : Program} {w : World} {hT : Heap} {n : Nat} {env : Env} {ρ : List (Str × D)} {σ : List (List D)}

def inner2 (elt : Expr) (gens : List Comprehension) (scope : Scope) (cpos : Pos) (iter2 : Expr) (Da : Addr) (env : Env) : Sem Unit := do
  let x ← eval iter2 env
  standAt iter2.pos
  let x ← foldedSetIterable iter2 env x
  let _ ← runOwn (.compStart (.ListComp elt gens scope cpos) 1 (← holding [x] (pyIter x)) (.ref Da) env) env

/-- the second clause, over an open list -/
theorem act_clause {k kk : Nat} {Da : Addr} {W : Addr → Prop} {elt target iter target2 iter2 : Expr} {ifs ifs2 : List Expr} {scope : Scope} {cpos : Pos} {ds : List D} {Post : List (List D) → Prop} (names : List Str)
    (hW1 : W Da) (hWl : ∀ x ∈ names, ∀ a, Loc env x a → W a) (h2 : Ev prog w hT n env ρ σ iter2 (.cell kk)) (hl : σ[kk]? = some ds) (hkk : kk ≠ k)
    (Inv : Nat → List (List D) → Prop) (h0 : Inv 0 σ)
    (hstep : ∀ i d σ', ds[i]? = some d → Inv i σ' → ∃ ρ₃ xs b, As prog w hT n env σ' target2 d ρ ρ₃ xs ∧ (∀ x ∈ xs, x ∈ names) ∧ (∀ x d, ρ.lookup x = some d → ρ₃.lookup x = some d) ∧ EvIf prog w hT n env ρ₃ σ' ifs2 b ∧ (b = false → Inv (i + 1) σ') ∧
      (b = true → ∃ e σ₂ l, EvC prog w hT n env ρ₃ σ' elt e σ₂ ∧ σ₂[k]? = some l ∧ l.length ≤ sizeLine ∧ Inv (i + 1) (app σ₂ k e)))
    (hend : ∀ σ', Inv ds.length σ' → Post σ') (hs : ∀ x, foldedSetIterable iter2 env x = pure x := by intro _; rfl) :
    Act prog w hT n env k Da W ρ σ (inner2 elt [⟨target, iter, ifs, 0⟩, ⟨target2, iter2, ifs2, 0⟩] scope cpos iter2 Da env) Post := .of fun A hA s μ fz S hD Q E hQ => by
  unfold inner2
  refine wpAny_bind (h2.run A hA s μ fz S _ _ fun v fz1 s1 X1 r1 => ?_)
  obtain ⟨a, rfl, hk⟩ := r1
  refine wpAny_bind (wpAny_standAt ?_)
  rw [hs]
  refine wpAny_bind (wpAny_pure ?_)
  have S1 := S.ext X1
  obtain ⟨vs, ⟨n', q⟩, rs⟩ := S1.lists kk a ds hk hl
  have il : s1.heap.IsList a vs.toArray := ⟨_, q, rfl, n', rfl⟩
  refine wpAny_bind (wpAny_holding (wpAny_pyIter_list il ?_))
  let o1 : Obj := { cls := .type "list_iterator", data := .fields #[.ref a, .int 0 0] }
  let s2 : Shared := { s1 with heap := s1.heap.push o1 }
  have hne : a ≠ s1.heap.objs.size := Nat.ne_of_lt (Heap.lt_size q)
  have Y : Ext s1 fz1 s2 fz1 := .keep X1.sub (keeps_push _ _)
  have X2 : Ext s fz s2 fz1 := X1.trans Y
  have S2 : Sta hT env ρ σ μ fz1 s2 := S1.ext Y
  have hnew1 : s1.heap.get? s1.heap.objs.size = none := not_there
  have hnew : s.heap.get? s1.heap.objs.size = none := none_before X1.keeps hnew1
  have hlen : vs.toArray.size = ds.length := by rw [List.size_toArray, rs.length]
  have hst : s2.heap.IsListIter s1.heap.objs.size a 0 ∧ s2.heap.IsList a vs.toArray := ⟨⟨_, Heap.get?_push_size _ rfl, rfl, rfl⟩, il.push _⟩
  let W' : Addr → Prop := fun b => b = Da ∨ ∃ x ∈ names, Loc env x b
  have oldLoc : ∀ x b, Loc env x b → ∃ o, s.heap.get? b = some o := fun x b hb => by
    rcases hb with ⟨_, rfl⟩ | hb
    · obtain ⟨m, o, _, _, ho, _⟩ := S.ns; exact ⟨o, ho⟩
    · obtain ⟨⟨v, h1⟩, _⟩ := S.sepC x b hb; exact IsCell_get h1
  have oldMu : ∀ (j : Nat) (b : Addr), μ[j]? = some (some b) → ∃ o, s.heap.get? b = some o := fun j b e => by
    have hlt := (List.getElem?_eq_some_iff.mp e).1
    rw [S.len] at hlt
    obtain ⟨vs', ⟨n'', q'⟩, _⟩ := S.lists j b _ e (List.getElem?_eq_getElem hlt)
    exact ⟨_, q'⟩
  have hWI : ¬ W' s1.heap.objs.size := by
    rintro (h | ⟨x, _, h⟩)
    · obtain ⟨o, ho⟩ := oldMu k Da hD; rw [← h, hnew] at ho; cases ho
    · obtain ⟨o, ho⟩ := oldLoc x _ h; rw [hnew] at ho; cases ho
  have hWa : ¬ W' a := by
    rintro (h | ⟨x, _, h⟩)
    · exact hkk (S.nodup kk k a hk (h ▸ hD))
    · rcases h with ⟨_, h⟩ | h
      · exact (S.sepM kk a hk).2 h
      · exact (S.sepC x a h).2.2.2 kk hk
  have offI : Off env μ fz1 s2 s1.heap.objs.size := Off.of_new S hnew (fz_none X1.sub hnew1) ⟨_, Heap.get?_push_size _ rfl⟩
  have G0 : Grow (fun b => W' b ∨ b = s1.heap.objs.size) s μ fz s2 μ fz1 := X2.grow
  have loop : codeAny (model prog w) A (.compLoop (.ListComp elt [⟨target, iter, ifs, 0⟩, ⟨target2, iter2, ifs2, 0⟩] scope cpos) 1 (.ref s1.heap.objs.size) (.ref Da) env)
      (fun r s' => match r with | .ok f => wpAny (model prog w) A (pure ()) Q E s' | .error e => cameBackBy (model prog w) A env E e s') s2 := by
    refine comp_loop hA (k := k) (target := target2) (iter := iter2) (ifs := ifs2) (inner := do let _ ← call (.builtin "list.append") [.ref Da, ← eval elt env]) rfl
      W' (hlen ▸ Src.list hA.handled s1.heap.objs.size a hne vs.toArray) hWI S2 hst offI (fun i v d hv hd => ?_) (fun b hb hbI => ?_) hD G0 hnew Inv h0 (fun i d σ₁ hd hinv => ?_) (fun s' μ' fz' σ' hinv S' G' hk' => ?_)
    · obtain ⟨v', hv', r⟩ := rs.get hd
      have : v = v' := by simpa [hv'] using hv.symm
      exact this ▸ r
    · simp at hb
      rcases hb with hb | hb
      · exact absurd hb hbI
      · subst hb; exact ⟨hWa, _, Heap.get?_push_of_some _ q⟩
    · obtain ⟨ρ₃, xs, b, h1, h2', h3, h4, h5, h6⟩ := hstep i d σ₁ hd hinv
      refine ⟨ρ₃, xs, b, h1, fun x hx c hL => .inr ⟨x, h2' x hx, hL⟩, h3, h4, h5, fun hb => ?_⟩
      obtain ⟨e, σ₂, l, h7, h8, h9, h10⟩ := h6 hb
      exact act_emit h7 h8 h9 h10 (.inl rfl)
    · refine wpAny_pure (hQ μ' fz' σ' s' (hend σ' hinv) S' ?_)
      exact { G' with
        pres := fun b o hb e => G'.pres b o (by
          rintro ((h | ⟨x, hx, h⟩) | h)
          · exact hb (h ▸ hW1)
          · exact hb (hWl x hx b h)
          · rw [h, hnew] at e; cases e) e }
  refine wpAny_bind (wpAny_runOwn ?_)
  rw [show A.mark none = A from rfl]
  exact comp_start (target := target2) (iter := iter2) (ifs := ifs2) rfl loop ((Src.list (prog := prog) (w := w) (target := target2) hA.handled s1.heap.objs.size a hne vs.toArray).self 0 s2 _ _ hst loop)

theorem two_turn {elt target iter target2 iter2 : Expr} {scope : Scope} {cpos : Pos} {I Da : Addr} {env : Env} : compTurn (.ListComp elt [⟨target, iter, [], 0⟩, ⟨target2, iter2, [], 0⟩] scope cpos) 0 (.ref I) (.ref Da) env =
    turnShape target iter [] (.ref I) env (inner2 elt [⟨target, iter, [], 0⟩, ⟨target2, iter2, [], 0⟩] scope cpos iter2 Da env) (.compLoop (.ListComp elt [⟨target, iter, [], 0⟩, ⟨target2, iter2, [], 0⟩] scope cpos) 0 (.ref I) (.ref Da) env) := by
  unfold compTurn turnShape inner2
  simp only [bind_assoc]
  rfl

theorem EvL.two {elt target iter target2 iter2 : Expr} {scope : Scope} {cpos : Pos} {cl : List (Str × Addr)} {ds : List D} {ρc : List (Str × D)} (f : Nat → List D)
    (hI : EvX prog w hT n env ρ σ iter target ds) (ok : CompOk scope cl env) (hρc : AllV (Sees scope cl env ρ) ρc) (h0 : f 0 = [])
    (hstep : ∀ C i d, ds[i]? = some d → ∃ ρ₂ xs, As prog w hT n (cEnv scope cl C env) (σ ++ [f i]) target d ρc ρ₂ xs ∧ (∀ x ∈ xs, cl.lookup x = none) ∧ (∀ x d, ρc.lookup x = some d → ρ₂.lookup x = some d) ∧
      ∃ (kk : Nat) (ds2 : List D) (g : Nat → List D) (names : List Str), kk ≠ σ.length ∧ Ev prog w hT n (cEnv scope cl C env) ρ₂ (σ ++ [f i]) iter2 (.cell kk) ∧ (σ ++ [f i])[kk]? = some ds2 ∧ g 0 = f i ∧ g ds2.length = f (i + 1) ∧ (∀ x ∈ names, cl.lookup x = none) ∧
        ∀ (m : Nat) d2, ds2[m]? = some d2 → ∃ ρ₃ xs3 e, As prog w hT n (cEnv scope cl C env) (σ ++ [g m]) target2 d2 ρ₂ ρ₃ xs3 ∧ (∀ x ∈ xs3, x ∈ names) ∧ (∀ x d, ρ₂.lookup x = some d → ρ₃.lookup x = some d) ∧
          Ev prog w hT n (cEnv scope cl C env) ρ₃ (σ ++ [g m]) elt e ∧ (g m).length ≤ sizeLine ∧ g (m + 1) = g m ++ [e])
    (hav : D.hass σ.length (f ds.length) = false) (hs2 : ∀ C x, foldedSetIterable iter2 (cEnv scope cl C env) x = pure x := by intro _ _; rfl) (hs : ∀ x, foldedSetIterable iter env x = pure x := by intro _; rfl) :
    EvL prog w hT n env ρ σ elt [⟨target, iter, [], 0⟩, ⟨target2, iter2, [], 0⟩] scope cpos (.list (f ds.length)) := .of fun A hA s μ fz S use Q E pos hQ => by
  refine comp_gen hA S (rest := [⟨target2, iter2, [], 0⟩]) (fun Da C => inner2 elt [⟨target, iter, [], 0⟩, ⟨target2, iter2, [], 0⟩] scope cpos iter2 Da (cEnv scope cl C env)) (fun I Da C => two_turn) hI ok hρc (fun i σ₁ => σ₁ = σ ++ [f i]) (by rw [h0]) (fun C i d σ₁ hd hinv => ?_) (fun Da C s' μ' fz' σ' W hinv S' G hW hk hC => ?_) hs
  · subst hinv
    obtain ⟨ρ₂, xs, h1, h2, h3, kk, ds2, g, names, h4, h5, h6, h7, h8, h9, h10⟩ := hstep C i d hd
    refine ⟨ρ₂, xs, true, h1, h2, h3, .nil, (fun h => by cases h), fun _ Da W hW1 hWl => ?_⟩
    refine act_clause names hW1 (fun x hx a hL => hWl x a (h9 x hx) hL) h5 h6 h4 (fun m σ' => σ' = σ ++ [g m]) (by rw [h7]) (fun m d2 σ' hd2 hinv2 => ?_) (fun σ' hinv2 => by rw [hinv2, h8]) (hs2 C)
    subst hinv2
    obtain ⟨ρ₃, xs3, e, k1, k2, k3, k4, k5, k6⟩ := h10 m d2 hd2
    exact ⟨ρ₃, xs3, true, k1, k2, k3, .nil, (fun h => by cases h), fun _ => ⟨e, _, g m, k4.toC, by simp, k5, by rw [app_last, k6]⟩⟩
  · subst hinv
    obtain ⟨fz'', X, r, hC'⟩ := fin_frozen S S' G hW hk hav
    exact hQ _ fz'' s' C X r hC hC' S'.ns
end
end Mine

-- Laws4
namespace Mine

theorem and_nat (m b : Nat) : Builtin.bitAnd (m : Int) (b : Int) = ((m &&& b : Nat) : Int) := rfl
theorem div_bit (m k : Nat) : (m / 2 ^ k % 2 == 1) = m.testBit k := by
  rw [Nat.testBit_eq_decide_div_mod_eq]
  rw [Bool.eq_iff_iff]; simp
theorem hit_one (m k : Nat) : (m &&& 2 ^ k == 2 ^ k) = m.testBit k := by
  rw [Bool.eq_iff_iff, beq_iff_eq]
  constructor
  · intro h
    have h1 := congrArg (Nat.testBit · k) h
    simpa [Nat.testBit_two_pow, Nat.testBit_and] using h1
  · intro h
    apply Nat.eq_of_testBit_eq
    intro i
    simp only [Nat.testBit_and, Nat.testBit_two_pow]
    by_cases h1 : k = i
    · subst h1; simp [h]
    · simp [h1]
theorem hit_two (m a b : Nat) (hab : a ≠ b) : (m &&& (2 ^ a ||| 2 ^ b) == (2 ^ a ||| 2 ^ b)) = (m.testBit a && m.testBit b) := by
  rw [Bool.eq_iff_iff, beq_iff_eq, Bool.and_eq_true]
  constructor
  · intro h
    have h1 := congrArg (Nat.testBit · a) h
    have h2 := congrArg (Nat.testBit · b) h
    simp [Nat.testBit_two_pow, Nat.testBit_and, Nat.testBit_or] at h1 h2
    exact ⟨h1, h2⟩
  · intro h
    apply Nat.eq_of_testBit_eq
    intro i
    simp only [Nat.testBit_and, Nat.testBit_or, Nat.testBit_two_pow]
    by_cases h1 : a = i
    · subst h1; simp [h.1]
    · by_cases h2 : b = i
      · subst h2; simp [h.2]
      · simp [h1, h2]
theorem hitI (m b : Nat) (i : Nat) (hi : i ≠ 0) (c : Nat) : fmHit i (m : Int) ((b : Int), c) = (m &&& b == b) := by
  unfold fmHit
  rw [if_neg hi, and_nat]
  rw [Bool.eq_iff_iff]; simp; omega
theorem pick_one (i : Nat) (hi : i ≠ 0) (m k c : Nat) : fmPick i (m : Int) [(((2 ^ k : Nat) : Int), c)] = if m.testBit k = true then c else 45 := by
  unfold fmPick
  rw [List.find?_cons, hitI _ _ _ hi, hit_one]
  cases m.testBit k with
  | true => rfl
  | false => simp [hi]
theorem pick_three (i : Nat) (hi : i ≠ 0) (m a b c d e : Nat) (hab : a ≠ b) : fmPick i (m : Int) [(((2 ^ a ||| 2 ^ b : Nat) : Int), c), (((2 ^ a : Nat) : Int), d), (((2 ^ b : Nat) : Int), e)] =
    if m.testBit a = true then (if m.testBit b = true then c else d) else (if m.testBit b = true then e else 45) := by
  unfold fmPick
  rw [List.find?_cons, hitI _ _ _ hi, hit_two _ _ _ hab, List.find?_cons, hitI _ _ _ hi, hit_one, List.find?_cons, hitI _ _ _ hi, hit_one]
  cases m.testBit a <;> cases m.testBit b <;> simp [hi]

theorem fm_eq (m : Nat) : fm (m : Int) = [fmPick 0 (m : Int) (fmTab.getD 0 []),
    if m.testBit 8 = true then 114 else 45, if m.testBit 7 = true then 119 else 45, if m.testBit 11 = true then (if m.testBit 6 = true then 115 else 83) else (if m.testBit 6 = true then 120 else 45),
    if m.testBit 5 = true then 114 else 45, if m.testBit 4 = true then 119 else 45, if m.testBit 10 = true then (if m.testBit 3 = true then 115 else 83) else (if m.testBit 3 = true then 120 else 45),
    if m.testBit 2 = true then 114 else 45, if m.testBit 1 = true then 119 else 45, if m.testBit 9 = true then (if m.testBit 0 = true then 116 else 84) else (if m.testBit 0 = true then 120 else 45)] := by
  show [fmPick 0 (m : Int) (fmTab.getD 0 []), fmPick 1 (m : Int) [(((2 ^ 8 : Nat) : Int), 114)], fmPick 2 (m : Int) [(((2 ^ 7 : Nat) : Int), 119)], fmPick 3 (m : Int) [(((2 ^ 11 ||| 2 ^ 6 : Nat) : Int), 115), (((2 ^ 11 : Nat) : Int), 83), (((2 ^ 6 : Nat) : Int), 120)],
    fmPick 4 (m : Int) [(((2 ^ 5 : Nat) : Int), 114)], fmPick 5 (m : Int) [(((2 ^ 4 : Nat) : Int), 119)], fmPick 6 (m : Int) [(((2 ^ 10 ||| 2 ^ 3 : Nat) : Int), 115), (((2 ^ 10 : Nat) : Int), 83), (((2 ^ 3 : Nat) : Int), 120)],
    fmPick 7 (m : Int) [(((2 ^ 2 : Nat) : Int), 114)], fmPick 8 (m : Int) [(((2 ^ 1 : Nat) : Int), 119)], fmPick 9 (m : Int) [(((2 ^ 9 ||| 2 ^ 0 : Nat) : Int), 116), (((2 ^ 9 : Nat) : Int), 84), (((2 ^ 0 : Nat) : Int), 120)]] = _
  rw [pick_one 1 (by decide), pick_one 2 (by decide), pick_three 3 (by decide) _ _ _ _ _ _ (by decide), pick_one 4 (by decide), pick_one 5 (by decide), pick_three 6 (by decide) _ _ _ _ _ _ (by decide), pick_one 7 (by decide), pick_one 8 (by decide), pick_three 9 (by decide) _ _ _ _ _ _ (by decide)]

def bitK : List Nat := [8, 7, 6, 11, 5, 4, 3, 10, 2, 1, 0, 9]
/-- the twelve bits of a mode, as the text reads them -/
def bitsOf (m : Nat) : List Bool := bitK.map fun k => m.testBit k
theorem grp1 (r w x s : Bool) : [[if r = true then 114 else 45] == [114], [if w = true then 119 else 45] == [119], [120, 115, 116].contains (if s = true then (if x = true then 115 else 83) else (if x = true then 120 else 45)), [115, 83, 116, 84].contains (if s = true then (if x = true then 115 else 83) else (if x = true then 120 else 45))] = [r, w, x, s] := by
  cases r <;> cases w <;> cases x <;> cases s <;> decide
theorem grp3 (r w x s : Bool) : [[if r = true then 114 else 45] == [114], [if w = true then 119 else 45] == [119], [120, 115, 116].contains (if s = true then (if x = true then 116 else 84) else (if x = true then 120 else 45)), [115, 83, 116, 84].contains (if s = true then (if x = true then 116 else 84) else (if x = true then 120 else 45))] = [r, w, x, s] := by
  cases r <;> cases w <;> cases x <;> cases s <;> decide
theorem held_fm (m : Nat) : heldOf (fm (m : Int)) = bitsOf m := by
  rw [fm_eq]
  have g1 := grp1 (m.testBit 8) (m.testBit 7) (m.testBit 6) (m.testBit 11)
  have g2 := grp1 (m.testBit 5) (m.testBit 4) (m.testBit 3) (m.testBit 10)
  have g3 := grp3 (m.testBit 2) (m.testBit 1) (m.testBit 0) (m.testBit 9)
  show _ ++ _ ++ _ = [m.testBit 8, m.testBit 7, m.testBit 6, m.testBit 11] ++ [m.testBit 5, m.testBit 4, m.testBit 3, m.testBit 10] ++ [m.testBit 2, m.testBit 1, m.testBit 0, m.testBit 9]
  rw [← g1, ← g2, ← g3]
  rfl
end Mine

-- Laws5
namespace Mine

theorem and_kind (m kind : Nat) (hk : kind < 16) (hm : m / 4096 = kind) : m &&& 61440 = 4096 * kind := by
  have h1 : (m &&& 61440) / 2 ^ 12 = m / 2 ^ 12 &&& 61440 / 2 ^ 12 := Nat.and_div_two_pow
  have h2 : (m &&& 61440) % 2 ^ 12 = m % 2 ^ 12 &&& 61440 % 2 ^ 12 := Nat.and_mod_two_pow
  have e1 : m / 2 ^ 12 &&& 61440 / 2 ^ 12 = kind := by
    rw [show m / 2 ^ 12 = kind from hm]
    match kind, hk with
    | 0, _ => rfl
    | 1, _ => rfl
    | 2, _ => rfl
    | 3, _ => rfl
    | 4, _ => rfl
    | 5, _ => rfl
    | 6, _ => rfl
    | 7, _ => rfl
    | 8, _ => rfl
    | 9, _ => rfl
    | 10, _ => rfl
    | 11, _ => rfl
    | 12, _ => rfl
    | 13, _ => rfl
    | 14, _ => rfl
    | 15, _ => rfl
    | n + 16, h => exact absurd h (by omega)
  have e2 : m % 2 ^ 12 &&& 61440 % 2 ^ 12 = 0 := by
    rw [show (61440 : Nat) % 2 ^ 12 = 0 from rfl, Nat.and_zero]
  rw [e1] at h1
  rw [e2] at h2
  omega
theorem pick_tab : ∀ kind : Fin 16, (match (fmTab.getD 0 []).find? (fun p => ((4096 * kind.val : Nat) : Int) == p.1) with | some p => p.2 | none => if (0 : Nat) = 0 then 63 else 45) = chr kindS kind.val := by decide +kernel
theorem pick_kind (m kind : Nat) (hk : kind < 16) (hm : m / 4096 = kind) : fmPick 0 (m : Int) (fmTab.getD 0 []) = chr kindS kind := by
  have e : Builtin.bitAnd (m : Int) 61440 = ((4096 * kind : Nat) : Int) := by
    rw [← and_kind m kind hk hm]; rfl
  unfold fmPick
  have hf : fmHit 0 (m : Int) = fun p => (((4096 * kind : Nat) : Int)) == p.1 := by
    funext p
    unfold fmHit
    rw [if_pos rfl, e]
  rw [hf]
  exact pick_tab ⟨kind, hk⟩

theorem bit_val (m k : Nat) (b : Bool) (h : m / 2 ^ k % 2 = b.toNat) : m.testBit k = b := by
  rw [← div_bit, h]
  cases b <;> rfl

theorem row_fm (kind : Nat) (hk : kind < 16) (a0 a1 a2 a3 a4 a5 a6 a7 a8 a9 a10 a11 : Bool) (m : Nat)
    (hm : m = kind * 4096 + 256 * a0.toNat + 128 * a1.toNat + 64 * a2.toNat + 2048 * a3.toNat + 32 * a4.toNat + 16 * a5.toNat + 8 * a6.toNat + 1024 * a7.toNat + 4 * a8.toNat + 2 * a9.toNat + a10.toNat + 512 * a11.toNat) :
    fm (m : Int) = rowOf kind [a0, a1, a2, a3, a4, a5, a6, a7, a8, a9, a10, a11] := by
  have l : ∀ b : Bool, b.toNat ≤ 1 := fun b => by cases b <;> decide
  have l0 := l a0; have l1 := l a1; have l2 := l a2; have l3 := l a3; have l4 := l a4; have l5 := l a5; have l6 := l a6; have l7 := l a7; have l8 := l a8; have l9 := l a9; have l10 := l a10; have l11 := l a11
  have b8 : m.testBit 8 = a0 := bit_val m 8 a0 (by simp only [Nat.reducePow]; omega)
  have b7 : m.testBit 7 = a1 := bit_val m 7 a1 (by simp only [Nat.reducePow]; omega)
  have b6 : m.testBit 6 = a2 := bit_val m 6 a2 (by simp only [Nat.reducePow]; omega)
  have b11 : m.testBit 11 = a3 := bit_val m 11 a3 (by simp only [Nat.reducePow]; omega)
  have b5 : m.testBit 5 = a4 := bit_val m 5 a4 (by simp only [Nat.reducePow]; omega)
  have b4 : m.testBit 4 = a5 := bit_val m 4 a5 (by simp only [Nat.reducePow]; omega)
  have b3 : m.testBit 3 = a6 := bit_val m 3 a6 (by simp only [Nat.reducePow]; omega)
  have b10 : m.testBit 10 = a7 := bit_val m 10 a7 (by simp only [Nat.reducePow]; omega)
  have b2 : m.testBit 2 = a8 := bit_val m 2 a8 (by simp only [Nat.reducePow]; omega)
  have b1 : m.testBit 1 = a9 := bit_val m 1 a9 (by simp only [Nat.reducePow]; omega)
  have b0 : m.testBit 0 = a10 := bit_val m 0 a10 (by simp only [Nat.reducePow]; omega)
  have b9 : m.testBit 9 = a11 := bit_val m 9 a11 (by simp only [Nat.reducePow]; omega)
  rw [fm_eq, pick_kind m kind hk (by omega), b8, b7, b6, b11, b5, b4, b3, b10, b2, b1, b0, b9]
  rfl
end Mine

-- Walk9
namespace Mine
section
variable {prog : Program} {w : World} {hT : Heap} {n : Nat} {env : Env} {ρ : List (Str × D)} {σ : List (List D)} {mg mb : Str → Option Value}

/-- the orders that a hand holds at the start -/
def ords (sh : List (List Bool)) (i : Nat) : List Nat := (List.range 3).filter fun j => bit sh 0 (4 * i + j)
def dords (l : List Nat) : List D := dstrs (l.map fun j => [chr rwx j])
/-- the open lists behind `heard` -/
def hJ (sh : List (List Bool)) (i : Nat) : List (List D) := ((List.range i).map fun k => D.cell (k + 1)) :: (List.range i).map fun k => dords (ords sh k)

/-- a first letter -/
def lt0s (text : List Nat) (j : Nat) : List Nat := [46] ++ [chr rwx j] ++ [10] ++ text
def lt0 (text : List Nat) (a j : Nat) : D := .tup [.int a, .str (lt0s text j), .bool true]
def lets0 (sh : List (List Bool)) (text : List Nat) (i : Nat) : List D := (List.range i).flatMap fun a => (ords sh a).map (lt0 text a)

theorem w_play0 (G : GL hT mg mb) (T : Bt mg mb) (hd : Def hT mg (defAt 35)) {sh : List (List Bool)} (S : Sh sh) (text : List Nat) (htext : text.length ≤ 100) (d : D) (hpd : d.pur = true)
    (hc : ∀ pm code doc L f, Ex prog w hT 2 (callEnvC (PySem.Calls.docDef (defAt 35).name (defAt 35).params (defAt 35).body (defAt 35).scope pm code doc) L f) [(Str.ofString "shown", .list (dsh sh)), (Str.ofString "heard", .cell 0), (Str.ofString "letters", .list (lets0 sh text 3)), (Str.ofString "brought", .cell 4)] (hJ sh 3 ++ [[]]) ((defAt 35).body.drop 3) (fun fl _ _ => fl = .ret d)) :
    FnN prog w hT mg 3 (defAt 35).name [.list (dsh sh), .str text] d := by
  refine FnN.mk (xs := [Str.ofString "shown", Str.ofString "text"]) G hd (fun pm code doc vs hv => ?_) (fun N x hx => ?_) (by decide) rfl (by simp [D.purs, D.pur, purs_sh]) hpd fun pm code doc L f => ?_
  · match vs, hv with
    | [v, u], _ => rfl
  · simp at hx; rcases hx with rfl | rfl <;> (right; exact ⟨rfl, rfl⟩)
  · refine Ex.cons (Ex1.assignC (d := .cell 0) (σ' := hJ sh 3) (EvC.comp (cl := [(Str.ofString "shown", L + 1)]) (ρc := [(Str.ofString "shown", .list (dsh sh))]) (hJ sh)
      (EvI.range1 (N := 3) G T.range.1 T.range.2 (by exact Ev.int) (by omega) (by omega)).toX ?_ ?_ rfl (fun C i d hd => ?_)) (As.name (.inr ⟨rfl, _, rfl⟩)) ?_)
    · refine ⟨rfl, rfl, by decide, fun x c h => ?_⟩
      rw [List.lookup_cons] at h
      cases hx : x == Str.ofString "shown" with
      | true => rw [hx] at h; cases h; rw [beq_iff_eq.mp hx]; rfl
      | false => rw [hx] at h; cases h
    · exact ⟨⟨rfl, fun C => .inl rfl, (fun h => by have h' : (some NameKind.cell : Option NameKind) = some NameKind.local := h; cases h'), ⟨L + 1, fun C => rfl, rfl⟩⟩, trivial⟩
    · obtain ⟨hi, rfl⟩ := range3_get hd
      refine ⟨_, _, true, As.name (.inr ⟨rfl, _, rfl⟩), ?_, ?_, .nil, (fun h => by cases h), fun _ => ?_⟩
      · intro x hx; rw [List.mem_singleton.mp hx]; rfl
      · exact AllV.get ⟨rfl, trivial⟩
      · have hlen : (hJ sh i).length = i + 1 := by simp [hJ]
        refine ⟨.cell (i + 1), hJ sh i ++ [dords (ords sh i)], (List.range i).map (fun k => D.cell (k + 1)), ?_, rfl, small (by simp; omega), ?_⟩
        · have e : D.cell (i + 1) = D.cell (hJ sh i).length := by rw [hlen]
          rw [e]
          refine EvC.comp (cl := [(Str.ofString "shown", L + 1), (Str.ofString "i", C + 1)]) (ρc := [(Str.ofString "shown", .list (dsh sh)), (Str.ofString "i", .int (i : Int))]) (fun m => hJ sh i ++ [dords ((List.range m).filter fun j => bit sh 0 (4 * i + j))])
            (EvI.range1 (N := 3) G T.range.1 T.range.2 (by exact Ev.int) (by omega) (by omega)).toX ?_ ?_ rfl (fun C2 m d2 hd2 => ?_)
          · refine ⟨rfl, rfl, by decide, fun x c h => ?_⟩
            rw [List.lookup_cons] at h
            cases hx : x == Str.ofString "shown" with
            | true => rw [hx] at h; cases h; rw [beq_iff_eq.mp hx]; rfl
            | false =>
              rw [hx] at h
              replace h : List.lookup x [(Str.ofString "i", C + 1)] = some c := h
              rw [List.lookup_cons] at h
              cases hx2 : x == Str.ofString "i" with
              | true => rw [hx2] at h; cases h; rw [beq_iff_eq.mp hx2]; rfl
              | false => rw [hx2] at h; cases h
          · exact ⟨⟨rfl, fun C => .inl rfl, (fun h => by have h' : (some NameKind.cell : Option NameKind) = some NameKind.local := h; cases h'), ⟨L + 1, fun C => rfl, rfl⟩⟩, ⟨rfl, fun C => .inl rfl, (fun h => by have h' : (some NameKind.cell : Option NameKind) = some NameKind.local := h; cases h'), ⟨C + 1, fun C => rfl, rfl⟩⟩, trivial⟩
          · obtain ⟨hm, rfl⟩ := range3_get hd2
            have hfil : ((List.range (m + 1)).filter fun j => bit sh 0 (4 * i + j)) = ((List.range m).filter fun j => bit sh 0 (4 * i + j)) ++ (if bit sh 0 (4 * i + m) = true then [m] else []) := by
              rw [List.range_succ, List.filter_append]
              congr 1
              cases hbt : bit sh 0 (4 * i + m) <;> simp [List.filter, hbt]
            refine ⟨_, _, bit sh 0 (4 * i + m), As.name (.inl rfl), ?_, AllV.get ⟨rfl, rfl, trivial⟩, EvIf.one ?_, fun h => ?_, fun h => ⟨.str [chr rwx m], _, dords ((List.range m).filter fun j => bit sh 0 (4 * i + j)), Ev.toC ?_, ?_, ?_, ?_⟩⟩
            · intro x hx; rw [List.mem_singleton.mp hx]; rfl
            · exact EvT.plain (by exact Ev.bit (r := 0) (c := 4 * i + m) S (by exact Ev.name rfl) (by exact Ev.int) (by exact Ev.bin (by exact Ev.bin (by exact Ev.int) (by exact Ev.name rfl) (by exact Op2.mul_int (IntMulOk.of_left (by decide)))) (by exact Ev.name rfl) (by exact Op2.add_int)) rfl (by push_cast; rfl) (by omega) (by omega)) (by exact Tru.bool)
            · show hJ sh i ++ [dords _] = hJ sh i ++ [dords _]
              rw [hfil, h]; simp
            · exact Ev.chr (l := rwx) (by exact Ev.str) (by exact Ev.name rfl) rfl hm (by omega)
            · simp
            · refine small ?_
              have h1 := List.length_filter_le (fun j => bit sh 0 (4 * i + j)) (List.range m)
              simp [dords] at h1 ⊢
              omega
            · show hJ sh i ++ [dords _] = app (hJ sh i ++ [dords _]) (hJ sh i).length _
              rw [app_last, hfil, if_pos h]
              simp [dords]
        · show hJ sh (i + 1) = app (hJ sh i ++ [dords (ords sh i)]) 0 (.cell (i + 1))
          unfold hJ
          rw [List.range_succ]
          simp [app]
    · refine Ex.forget (ρ' := [(Str.ofString "shown", .list (dsh sh)), (Str.ofString "text", .str text), (Str.ofString "heard", .cell 0)]) (Knows.get ⟨rfl, rfl, rfl, trivial⟩) ?_
      refine Ex.cons (Ex1.assign_comp (d := .list (lets0 sh text 3)) (EvL.two (cl := [(Str.ofString "text", L + 2), (Str.ofString "heard", L + 3)]) (ρc := [(Str.ofString "text", .str text), (Str.ofString "heard", .cell 0)]) (lets0 sh text)
        (EvI.range1 (N := 3) G T.range.1 T.range.2 (by exact Ev.int) (by omega) (by omega)).toX ?_ ?_ rfl (fun C i d hd => ?_) ?_) rfl ?_)
      · refine ⟨rfl, rfl, by decide, fun x c h => ?_⟩
        rw [List.lookup_cons] at h
        cases hx : x == Str.ofString "text" with
        | true => rw [hx] at h; cases h; rw [beq_iff_eq.mp hx]; rfl
        | false =>
          rw [hx] at h
          replace h : List.lookup x [(Str.ofString "heard", L + 3)] = some c := h
          rw [List.lookup_cons] at h
          cases hx2 : x == Str.ofString "heard" with
          | true => rw [hx2] at h; cases h; rw [beq_iff_eq.mp hx2]; rfl
          | false => rw [hx2] at h; cases h
      · exact ⟨⟨rfl, fun C => .inl rfl, (fun h => by have h' : (some NameKind.cell : Option NameKind) = some NameKind.local := h; cases h'), ⟨L + 2, fun C => rfl, rfl⟩⟩, ⟨rfl, fun C => .inl rfl, (fun h => by have h' : (some NameKind.cell : Option NameKind) = some NameKind.local := h; cases h'), ⟨L + 3, fun C => rfl, rfl⟩⟩, trivial⟩
      · obtain ⟨hi, rfl⟩ := range3_get hd
        have hol : (ords sh i).length ≤ 3 := by
          have := List.length_filter_le (fun j => bit sh 0 (4 * i + j)) (List.range 3)
          simpa [ords] using this
        have hl0 : ∀ k, k ≤ 3 → (lets0 sh text k).length ≤ 3 * k := fun k hk => by
          induction k with
          | zero => simp [lets0]
          | succ k ih =>
            have h1 := ih (by omega)
            have h2 : (ords sh k).length ≤ 3 := by
              have := List.length_filter_le (fun j => bit sh 0 (4 * k + j)) (List.range 3)
              simpa [ords] using this
            unfold lets0 at h1 ⊢
            rw [List.range_succ, List.flatMap_append, List.length_append]
            simp at h1 ⊢; omega
        refine ⟨_, _, As.name (.inl rfl), ?_, AllV.get ⟨rfl, rfl, trivial⟩, i + 1, dords (ords sh i), fun m => lets0 sh text i ++ ((ords sh i).take m).map (lt0 text i), [Str.ofString "order"], ?_, ?_, ?_, ?_, ?_, ?_, fun m d2 hd2 => ?_⟩
        · intro x hx; rw [List.mem_singleton.mp hx]; rfl
        · show i + 1 ≠ 4; omega
        · refine Ev.item_cell (k := 0) (j := i) (l := [.cell 1, .cell 2, .cell 3]) (Ev.name rfl) (Ev.name rfl) rfl rfl ?_ (by omega)
          match i, hi with
          | 0, _ => rfl
          | 1, _ => rfl
          | 2, _ => rfl
        · match i, hi with
          | 0, _ => rfl
          | 1, _ => rfl
          | 2, _ => rfl
        · simp
        · show lets0 sh text i ++ ((ords sh i).take (dords (ords sh i)).length).map (lt0 text i) = lets0 sh text (i + 1)
          have : (dords (ords sh i)).length = (ords sh i).length := by simp [dords]
          rw [this, List.take_length]
          unfold lets0
          rw [List.range_succ, List.flatMap_append]; simp
        · intro x hx; rw [List.mem_singleton.mp hx]; rfl
        · obtain ⟨c, hc, rfl⟩ := map_get hd2
          obtain ⟨j, hj, rfl⟩ := map_get hc
          refine ⟨_, _, lt0 text i j, As.name (.inl rfl), ?_, AllV.get ⟨rfl, rfl, rfl, trivial⟩, ?_, ?_, ?_⟩
          · intro x hx; exact hx
          · refine Ev.tuple ?_ (small (by simp))
            refine Evs.cons (d := .int i) (Ev.name rfl) ?_
            refine Evs.cons (d := .str (lt0s text j)) ?_ ?_
            · exact Ev.cat (by exact Ev.cat (by exact Ev.cat (a := [46]) (by exact Ev.str) (by exact Ev.name rfl) (small (by simp))) (b := [10]) (by exact Ev.str) (small (by simp))) (by exact Ev.name rfl) (small (by simp; omega))
            · exact Evs.cons (by exact Ev.bool) (by exact Evs.nil)
          · refine small ?_
            have := hl0 i (by omega)
            simp
            omega
          · show lets0 sh text i ++ ((ords sh i).take (m + 1)).map (lt0 text i) = (lets0 sh text i ++ ((ords sh i).take m).map (lt0 text i)) ++ [lt0 text i j]
            rw [List.append_assoc]
            congr 1
            obtain ⟨hm, he⟩ := List.getElem?_eq_some_iff.mp hj
            rw [List.take_succ_eq_append_getElem hm, he]; simp
      · refine hass_of_purs ?_
        rw [purs_iff]
        intro e he
        obtain ⟨a, _, he⟩ := List.mem_flatMap.mp he
        obtain ⟨j, _, rfl⟩ := List.mem_map.mp he
        rfl
      · refine Ex.cons (Ex1.newcell (.inl rfl) ?_)
        refine Ex.forget (ρ' := [(Str.ofString "shown", .list (dsh sh)), (Str.ofString "heard", .cell 0), (Str.ofString "letters", .list (lets0 sh text 3)), (Str.ofString "brought", .cell 4)]) (Knows.get ⟨rfl, rfl, rfl, rfl, trivial⟩) ?_
        exact hc pm code doc L f
end
end Mine

-- Laws6
namespace Mine

/-- quoted m times -/
def dqn : Nat → List Nat → List Nat
  | 0, x => x
  | m + 1, x => dq (dqn m x)
def dots (d c : Nat) : List Nat := List.replicate d 46 ++ [c]
theorem dq_dots (d c : Nat) (hd : 1 ≤ d) : dq (dots d c) = dots (d + 1) c := by
  match d, hd with
  | d + 1, _ => rfl

/-- a letter: who holds it, its text, whether it is news; the hands it came through (dots, hand), the order's row (dots, order), the quotings of its body -/
structure Lt where
  a : Nat
  s : List Nat
  new : Bool
  ch : List (Nat × Nat)
  dl : Nat
  j : Nat
  m : Nat
def hrows (ch : List (Nat × Nat)) (dl j : Nat) : List (List Nat) := ch.map (fun p => dots p.1 (chr dig p.2)) ++ [dots dl (chr rwx j)]
def Lt.rows (T : List (List Nat)) (x : Lt) : List (List Nat) := hrows x.ch x.dl x.j ++ T.map (dqn x.m)
structure Lt.Ok (T : List (List Nat)) (x : Lt) : Prop where
  ha : x.a < 3
  hj : x.j < 3
  hch : ∀ p ∈ x.ch, 1 ≤ p.1 ∧ p.2 < 3 ∧ p.1 ≤ 10
  hdl : x.dl = x.m + 1
  hm : x.m ≤ 3
  few : x.ch.length ≤ 3
  rows : lns x.s = x.rows T
  short : x.s.length + 4 ≤ 107 * 2 ^ x.m

def up1 (ch : List (Nat × Nat)) : List (Nat × Nat) := ch.map fun p => (p.1 + 1, p.2)
theorem hrows_dq (ch : List (Nat × Nat)) (dl j : Nat) (hch : ∀ p ∈ ch, 1 ≤ p.1) (hdl : 1 ≤ dl) : (hrows ch dl j).map dq = hrows (up1 ch) (dl + 1) j := by
  unfold hrows up1
  rw [List.map_append, List.map_map, List.map_map]
  congr 1
  · apply List.map_congr_left
    intro p hp
    exact dq_dots _ _ (hch p hp)
  · simp [dq_dots _ _ hdl]
/-- the rows of the quoted letter -/
theorem Lt.quoted {T : List (List Nat)} {x : Lt} (ok : x.Ok T) : (lns x.s).map dq = hrows (up1 x.ch) (x.dl + 1) x.j ++ T.map (dqn (x.m + 1)) := by
  rw [ok.rows]
  unfold Lt.rows
  rw [List.map_append, hrows_dq _ _ _ (fun p hp => (ok.hch p hp).1) (by rw [ok.hdl]; omega), List.map_map]
  rfl
end Mine
namespace Mine
/-- the text that a hand sends on -/
def seps (a : Nat) : List Nat := ([[13], [10], [13, 10]] : List (List Nat)).getD a []
def sendS (a : Nat) (s : List Nat) : List Nat := [46] ++ [chr dig a] ++ seps a ++ quo s
/-- does the letter go on to b -/
def goB (sh : List (List Bool)) (x : Lt) (b : Nat) : Bool :=
  decide (b ≠ x.a) && !(x.ch.any fun p => p.2 == b) && (if bit sh 0 (4 * x.a + 3) = true then
    (match x.ch with | [] => (bit sh (x.a + 1) (4 * x.j + md x.a b - 1) != (x.dl == 2)) | p :: _ => bit sh (x.a + 1) (4 * x.j + 1 + md x.a p.2)) else x.new)
def sent1 (x : Lt) (b : Nat) : Lt := { a := b, s := sendS x.a x.s, new := false, ch := (1, x.a) :: up1 x.ch, dl := x.dl + 1, j := x.j, m := x.m + 1 }
def sends (sh : List (List Bool)) (x : Lt) : List Lt := ((List.range 3).filter (goB sh x)).map (sent1 x)
def keep1 (sh : List (List Bool)) (x : Lt) : List Lt := if x.ch.isEmpty && bit sh 0 (4 * x.a + 3) then [{ x with s := quo x.s, new := false, dl := x.dl + 1, m := x.m + 1 }] else []

theorem free_dots (d c : Nat) (hc : c ≠ 13 ∧ c ≠ 10) : Free (dots d c) := fun x hx => by
  unfold dots at hx
  rcases List.mem_append.mp hx with h | h
  · rw [(List.mem_replicate.mp h).2]; decide
  · rw [List.mem_singleton.mp h]; exact hc
theorem dig_free {a : Nat} (ha : a < 3) : chr dig a ≠ 13 ∧ chr dig a ≠ 10 := by
  match a, ha with
  | 0, _ => decide
  | 1, _ => decide
  | 2, _ => decide
theorem sent_rows {T : List (List Nat)} {x : Lt} (ok : x.Ok T) (b : Nat) : lns (sendS x.a x.s) = (sent1 x b).rows T := by
  have hs : seps x.a = [13] ∨ seps x.a = [10] ∨ seps x.a = [13, 10] := by
    have h := ok.ha
    match hx : x.a, h with
    | 0, _ => exact .inl rfl
    | 1, _ => exact .inr (.inl rfl)
    | 2, _ => exact .inr (.inr rfl)
  unfold sendS
  rw [List.append_assoc]
  have := lns_letter ([46] ++ [chr dig x.a]) (free_dots 1 _ (dig_free ok.ha)) (seps x.a) hs x.s
  rw [this, Lt.quoted ok]
  rfl
end Mine

-- Laws7
namespace Mine

theorem dsl_last (y : List Nat) (c : Nat) : dsl (y ++ [c]) (some (-1)) none = [c] := by
  unfold dsl
  have h1 : clipN (y ++ [c]).length 0 (some (-1)) = y.length := by
    simp only [clipN, List.length_append, List.length_singleton]
    rw [if_pos (by omega)]
    omega
  have h2 : clipN (y ++ [c]).length (y ++ [c]).length none = y.length + 1 := by simp [clipN]
  rw [h1, h2, List.drop_left]
  simp
theorem isO_dots (d c : Nat) : isO (dots d c) = [[114], [119], [120]].contains [c] := by
  unfold isO dots; rw [dsl_last]
theorem isO_dig {d a : Nat} (ha : a < 3) : isO (dots d (chr dig a)) = false := by
  rw [isO_dots]
  match a, ha with
  | 0, _ => decide
  | 1, _ => decide
  | 2, _ => decide
theorem isO_rwx {d j : Nat} (hj : j < 3) : isO (dots d (chr rwx j)) = true := by
  rw [isO_dots]
  match j, hj with
  | 0, _ => decide
  | 1, _ => decide
  | 2, _ => decide
theorem hrows_len (ch : List (Nat × Nat)) (dl j : Nat) : (hrows ch dl j).length = ch.length + 1 := by simp [hrows]
theorem head_at (ch : List (Nat × Nat)) (dl j : Nat) (B : List (List Nat)) : (hrows ch dl j ++ B)[ch.length]? = some (dots dl (chr rwx j)) := by
  unfold hrows
  rw [List.append_assoc, List.getElem?_append_right (by simp)]
  simp
theorem head_before (ch : List (Nat × Nat)) (dl j : Nat) (B : List (List Nat)) (hch : ∀ p ∈ ch, p.2 < 3) (k : Nat) (q : List Nat) (hk : k < ch.length) (h : (hrows ch dl j ++ B)[k]? = some q) : isO q = false := by
  unfold hrows at h
  rw [List.append_assoc, List.getElem?_append_left (by simpa using hk)] at h
  obtain ⟨p, hp, rfl⟩ := map_get h
  exact isO_dig (hch p (List.mem_of_getElem? hp))
theorem head_take (ch : List (Nat × Nat)) (dl j : Nat) (B : List (List Nat)) : (hrows ch dl j ++ B).take (ch.length + 1) = hrows ch dl j := by
  have := hrows_len ch dl j
  rw [← this, List.take_left]
theorem head_drop (ch : List (Nat × Nat)) (dl j : Nat) (B : List (List Nat)) : (hrows ch dl j ++ B).drop (ch.length + 1) = B := by
  have := hrows_len ch dl j
  rw [← this, List.drop_left]

section
variable {prog : Program} {w : World} {hT : Heap} {mg mb : Str → Option Value}
/-- the head of rows that begin so -/
theorem w_head2 (G : GL hT mg mb) (T : Bt mg mb) (hd : Def hT mg (defAt 33)) (ch : List (Nat × Nat)) (dl j : Nat) (B : List (List Nat)) (hch : ∀ p ∈ ch, p.2 < 3) (hj : j < 3) (hlen : (hrows ch dl j ++ B).length ≤ 5000) (hsz : ∀ r ∈ hrows ch dl j ++ B, r.length ≤ 10000) :
    FnN prog w hT mg 1 (defAt 33).name [.list (dstrs (hrows ch dl j ++ B))] (.list (dstrs (hrows ch dl j))) := by
  have := w_head (prog := prog) (w := w) G T hd (hrows ch dl j ++ B) hlen hsz ch.length _ (head_at ch dl j B) (isO_rwx hj) (fun k q hk h => head_before ch dl j B hch k q hk h)
  rw [head_take] at this
  exact this
end

theorem up1_ok {ch : List (Nat × Nat)} (h : ∀ p ∈ ch, p.2 < 3) : ∀ p ∈ up1 ch, p.2 < 3 := fun p hp => by
  obtain ⟨q, hq, rfl⟩ := List.mem_map.mp hp
  exact h q hq
end Mine
namespace Mine
theorem seps_len (a : Nat) : (seps a).length ≤ 2 := by
  match a with
  | 0 => decide
  | 1 => decide
  | 2 => decide
  | a + 3 => simp [seps]
theorem sent_ok {T : List (List Nat)} {x : Lt} (ok : x.Ok T) (hm : x.m ≤ 2) (hf : x.ch.length ≤ 2) (hd : ∀ p ∈ x.ch, p.1 ≤ 5) (b : Nat) (hb : b < 3) : (sent1 x b).Ok T where
  ha := hb
  hj := ok.hj
  hch := fun p hp => by
    rcases List.mem_cons.mp hp with rfl | hp
    · exact ⟨Nat.le_refl _, ok.ha, by show 1 ≤ 10; decide⟩
    · obtain ⟨q, hq, rfl⟩ := List.mem_map.mp hp
      have := ok.hch q hq
      have := hd q hq
      exact ⟨by simp, by simp [ok.hch q hq], by simp; omega⟩
  hdl := by show x.dl + 1 = x.m + 1 + 1; rw [ok.hdl]
  hm := by show x.m + 1 ≤ 3; omega
  few := by show (up1 x.ch).length + 1 ≤ 3; simp [up1]; omega
  rows := sent_rows ok b
  short := by
    show (sendS x.a x.s).length + 4 ≤ 107 * 2 ^ (x.m + 1)
    have h1 := ok.short
    have h2 := len_quo x.s
    have h3 := seps_len x.a
    have h4 : (sendS x.a x.s).length = 2 + (seps x.a).length + (quo x.s).length := by simp [sendS]; omega
    rw [h4, Nat.pow_succ]
    omega
theorem keep_ok {T : List (List Nat)} {x : Lt} (ok : x.Ok T) (hm : x.m ≤ 2) (hc : x.ch = []) : ({ x with s := quo x.s, new := false, dl := x.dl + 1, m := x.m + 1 } : Lt).Ok T where
  ha := ok.ha
  hj := ok.hj
  hch := ok.hch
  hdl := by show x.dl + 1 = x.m + 1 + 1; rw [ok.hdl]
  hm := by show x.m + 1 ≤ 3; omega
  few := ok.few
  rows := by
    show lns (quo x.s) = _
    rw [lns_quo, Lt.quoted ok, hc]; rfl
  short := by
    show (quo x.s).length + 4 ≤ 107 * 2 ^ (x.m + 1)
    have h1 := ok.short
    have h2 := len_quo x.s
    rw [Nat.pow_succ]
    omega
theorem first_ok {text : List Nat} (ht : text.length ≤ 100) {a j : Nat} (ha : a < 3) (hj : j < 3) : ({ a := a, s := lt0s text j, new := true, ch := [], dl := 1, j := j, m := 0 } : Lt).Ok (lns text) where
  ha := ha
  hj := hj
  hch := fun p hp => by cases hp
  hdl := rfl
  hm := Nat.zero_le _
  few := Nat.zero_le _
  rows := by
    have hf : Free (dots 1 (chr rwx j)) := free_dots _ _ (by
      match j, hj with
      | 0, _ => decide
      | 1, _ => decide
      | 2, _ => decide)
    show lns ([46] ++ [chr rwx j] ++ [10] ++ text) = _
    have := lns_lf (dots 1 (chr rwx j)) hf text
    rw [List.append_assoc]
    refine this.trans ?_
    show _ = hrows [] 1 j ++ (lns text).map (dqn 0)
    have e : (lns text).map (dqn 0) = lns text := by
      have : dqn 0 = id := rfl
      rw [this, List.map_id]
    rw [e]; rfl
  short := by
    show (lt0s text j).length + 4 ≤ 107 * 2 ^ 0
    simp [lt0s]; omega
end Mine

-- Laws8
namespace Mine

theorem lns_size : ∀ s : List Nat, (lns s).length ≤ s.length + 1 ∧ ∀ r ∈ lns s, r.length ≤ s.length
  | [] => ⟨by simp [lns], fun r hr => by simp [lns] at hr; subst hr; simp⟩
  | [c] => by
    unfold lns
    split
    · exact ⟨by simp, fun r hr => by simp at hr; subst hr; simp⟩
    · exact ⟨by simp, fun r hr => by simp at hr; subst hr; simp⟩
  | c :: d :: r => by
    rw [lns_cons]
    have h1 := lns_size r
    have h2 := lns_size (d :: r)
    split
    · refine ⟨by simp; omega, fun q hq => ?_⟩
      rcases List.mem_cons.mp hq with rfl | hq
      · simp
      · have := h1.2 q hq; simp; omega
    · split
      · refine ⟨by simp at h2 ⊢; omega, fun q hq => ?_⟩
        rcases List.mem_cons.mp hq with rfl | hq
        · simp
        · have := h2.2 q hq; simp at this ⊢; omega
      · have hne := lns_ne (d :: r)
        cases hl : lns (d :: r) with
        | nil => exact absurd hl hne
        | cons x l =>
          rw [hl] at h2
          refine ⟨by simp [consHead] at h2 ⊢; omega, fun q hq => ?_⟩
          rcases List.mem_cons.mp hq with rfl | hq
          · have := h2.2 x (by simp); simp at this ⊢; omega
          · have := h2.2 q (by simp [hq]); simp at this ⊢; omega

/-- the rows of a quoted letter, and their sizes -/
theorem quo_size (s : List Nat) (hs : s.length ≤ 2000) : ((lns s).map dq).length ≤ 5000 ∧ ∀ r ∈ (lns s).map dq, r.length ≤ 10000 := by
  have h := lns_size (quo s)
  have h2 := len_quo s
  rw [lns_quo] at h
  refine ⟨by omega, fun r hr => ?_⟩
  have := h.2 r hr
  omega

def dlt (x : Lt) : D := .tup [.int x.a, .str x.s, .bool x.new]
def dst (x : Lt) : D := .tup [.int x.a, .str x.s]
theorem purs_dlt (l : List Lt) : D.purs (l.map dlt) = true := by
  rw [purs_iff]; intro e he; obtain ⟨c, _, rfl⟩ := List.mem_map.mp he; rfl
theorem purs_dst (l : List Lt) : D.purs (l.map dst) = true := by
  rw [purs_iff]; intro e he; obtain ⟨c, _, rfl⟩ := List.mem_map.mp he; rfl

/-- the dots are 2, 3, 4 .. when the letter is quoted once more -/
def okD (x : Lt) : Bool := ((up1 x.ch).map (fun p => List.replicate p.1 46) ++ [List.replicate (x.dl + 1) 46]) == (List.range (x.ch.length + 1)).map fun k => List.replicate (k + 2) 46
def newB (he : List (List Nat)) (x : Lt) : Bool := okD x && !((he.getD x.a []).contains x.j)
def recv1 (p : List (List Nat) × List Lt) (x : Lt) : List (List Nat) × List Lt :=
  (if newB p.1 x = true then p.1.modify x.a (· ++ [x.j]) else p.1, p.2 ++ [{ x with new := newB p.1 x }])
def sentOf (sh : List (List Bool)) (le : List Lt) : List Lt := le.flatMap (sends sh)
def keptOf (sh : List (List Bool)) (le : List Lt) : List Lt := le.flatMap (keep1 sh)
def turnE (sh : List (List Bool)) (p : List (List Nat) × List Lt) : List (List Nat) × List Lt := (sentOf sh p.2).foldl recv1 (p.1, keptOf sh p.2)
def lt0x (text : List Nat) (a j : Nat) : Lt := { a := a, s := lt0s text j, new := true, ch := [], dl := 1, j := j, m := 0 }
def first (sh : List (List Bool)) (text : List Nat) : List Lt := (List.range 3).flatMap fun a => (ords sh a).map (lt0x text a)
def st0 (sh : List (List Bool)) (text : List Nat) : List (List Nat) × List Lt := ((List.range 3).map (ords sh), first sh text)
def st1 (sh : List (List Bool)) (text : List Nat) : List (List Nat) × List Lt := turnE sh (st0 sh text)
def st2 (sh : List (List Bool)) (text : List Nat) : List (List Nat) × List Lt := turnE sh (st1 sh text)
/-- what a letter brings -/
def dbr (T : List (List Nat)) (x : Lt) : D := .tup [.int (x.m + 1 : Nat), .list (dstrs (T.map (dqn (x.m + 1))))]
theorem purs_dbr (T : List (List Nat)) (l : List Lt) : D.purs (l.map (dbr T)) = true := by
  rw [purs_iff]; intro e he; obtain ⟨c, _, rfl⟩ := List.mem_map.mp he
  have h := purs_strs (T.map (dqn (c.m + 1)))
  show (true && (D.purs (dstrs (T.map (dqn (c.m + 1)))) && true)) = true
  rw [h]; rfl

theorem app_left : ∀ (A B : List (List D)) (i : Nat) (d : D), i < A.length → app (A ++ B) i d = app A i d ++ B
  | [], B, i, d, h => by simp at h
  | a :: A, B, 0, d, h => rfl
  | a :: A, B, i + 1, d, h => by
    have := app_left A B i d (by simpa using h)
    unfold app at this ⊢
    simpa using this
theorem app_right : ∀ (A B : List (List D)) (i : Nat) (d : D), app (A ++ B) (A.length + i) d = A ++ app B i d
  | [], B, i, d => by simp
  | a :: A, B, i, d => by
    have := app_right A B i d
    unfold app at this ⊢
    rw [List.length_cons, Nat.add_right_comm]
    simpa using this
theorem app_two0 (A : List (List D)) (l k : List D) (d : D) : app (A ++ [l, k]) A.length d = A ++ [l ++ [d], k] := app_right A [l, k] 0 d
theorem app_two1 (A : List (List D)) (l k : List D) (d : D) : app (A ++ [l, k]) (A.length + 1) d = A ++ [l, k ++ [d]] := app_right A [l, k] 1 d
end Mine

-- Walk10
namespace Mine

def forBody : Option Stmt → List Stmt
  | some (.For _ _ b _ _) => b
  | _ => []
def turnB : List Stmt := forBody (defAt 35).body[3]?
def sendB : List Stmt := forBody turnB[2]?
def recvB : List Stmt := forBody turnB[4]?
def lastD (y : List Nat) : Nat := y.getLast?.getD 0
theorem lastD_dots (d c : Nat) : lastD (dots d c) = c := by simp [lastD, dots]
theorem last_any {b : Nat} (hb : b < 3) {j : Nat} (hj : j < 3) (dl : Nat) : ∀ (ch : List (Nat × Nat)), (∀ p ∈ ch, p.2 < 3) → ((hrows (up1 ch) dl j).map fun y => [lastD y]).contains [chr dig b] = ch.any fun p => p.2 == b
  | [], _ => by
    have : chr rwx j ≠ chr dig b := by
      match j, hj, b, hb with
      | 0, _, 0, _ => decide
      | 0, _, 1, _ => decide
      | 0, _, 2, _ => decide
      | 1, _, 0, _ => decide
      | 1, _, 1, _ => decide
      | 1, _, 2, _ => decide
      | 2, _, 0, _ => decide
      | 2, _, 1, _ => decide
      | 2, _, 2, _ => decide
    simp [hrows, up1, lastD_dots, Ne.symm this]
  | p :: ch, h => by
    have ih := last_any hb hj dl ch (fun q hq => h q (by simp [hq]))
    have hp := h p (by simp)
    have e : hrows (up1 (p :: ch)) dl j = dots (p.1 + 1) (chr dig p.2) :: hrows (up1 ch) dl j := rfl
    rw [e, List.map_cons, List.contains_cons, ih, lastD_dots, List.any_cons]
    congr 1
    have : p.2 < 3 := hp
    generalize p.2 = q at this
    match q, this, b, hb with
    | 0, _, 0, _ => decide
    | 0, _, 1, _ => decide
    | 0, _, 2, _ => decide
    | 1, _, 0, _ => decide
    | 1, _, 1, _ => decide
    | 1, _, 2, _ => decide
    | 2, _, 0, _ => decide
    | 2, _, 1, _ => decide
    | 2, _, 2, _ => decide

section
variable {prog : Program} {w : World} {hT : Heap} {n : Nat} {env : Env} {ρ : List (Str × D)} {σ : List (List D)} {mg mb : Str → Option Value}

theorem EvT.and3 {x y z pos b c d} (hx : EvT prog w hT n env ρ σ x b) (hy : b = true → EvT prog w hT n env ρ σ y c) (hz : b = true → c = true → EvT prog w hT n env ρ σ z d) : EvT prog w hT n env ρ σ (.BoolOp .And [x, y, z] pos) (b && c && d) := by
  cases b with
  | false => exact EvT.and hx (fun h => by cases h) (fun _ => rfl)
  | true =>
    refine EvT.and hx (fun _ => ?_) (fun h => by cases h)
    have := EvT.and2 (pos := pos) (hy rfl) (hz rfl)
    simpa using this

abbrev pEnv (pm : Value) (code : Value) (doc : Value) (L f : Addr) : Env := callEnvC (PySem.Calls.docDef (defAt 35).name (defAt 35).params (defAt 35).body (defAt 35).scope pm code doc) L f

abbrev base (sh : List (List Bool)) (ks kk : Nat) (r : List (Str × D)) : List (Str × D) := (Str.ofString "shown", .list (dsh sh)) :: (Str.ofString "heard", .cell 0) :: (Str.ofString "brought", .cell 4) :: (Str.ofString "sent", .cell ks) :: (Str.ofString "kept", .cell kk) :: r

theorem w_send (G : GL hT mg mb) (B : Bt mg mb) (P : Pats hT mg) (d5 : Def hT mg (defAt 5)) (d33 : Def hT mg (defAt 33)) (d34 : Def hT mg (defAt 34)) {sh : List (List Bool)} (S : Sh sh) {TT : List (List Nat)} {x : Lt} (ok : x.Ok TT) (hm : x.m ≤ 2) (hl : x.s.length ≤ 2000) (σ0 : List (List D)) (ls lk : List D) (hls : ls.length ≤ 1000) (hlk : lk.length ≤ 1000) (pm code doc L f) :
    Ex prog w hT 2 (pEnv pm code doc L f) (base sh σ0.length (σ0.length + 1) [(Str.ofString "holder", .int x.a), (Str.ofString "letter", .str x.s), (Str.ofString "new", .bool x.new)]) (σ0 ++ [ls, lk]) sendB
      (fun fl ρ' σ' => fl = .next ∧ Knows ρ' (base sh σ0.length (σ0.length + 1) []) ∧ σ' = σ0 ++ [ls ++ (sends sh x).map dst, lk ++ (keep1 sh x).map dlt]) := by
  have hq := quo_size x.s hl
  have hqd := Lt.quoted ok
  have hlq := len_quo x.s
  have hch : ∀ p ∈ up1 x.ch, p.2 < 3 := up1_ok fun p hp => (ok.hch p hp).2.1
  have ha := ok.ha
  refine Ex.cons (Ex1.assign (d := .str (quo x.s)) ?_ (As.name (.inl rfl)) ?_)
  · exact Ev.fn G (w_quo G P d5 x.s (by omega)) (by exact Evs.cons (by exact Ev.name rfl) (by exact Evs.nil)) (by omega)
  refine Ex.cons (Ex1.assign (d := .list (dstrs (hrows (up1 x.ch) (x.dl + 1) x.j))) ?_ (As.name (.inl rfl)) ?_)
  · refine Ev.fn G (w_head2 G B d33 (up1 x.ch) (x.dl + 1) x.j (TT.map (dqn (x.m + 1))) hch ok.hj (by rw [← hqd]; exact hq.1) (by rw [← hqd]; exact hq.2)) (Evs.cons ?_ Evs.nil) (by omega)
    rw [← hqd]
    exact Ev.split (c := [13, 10]) (by exact Ev.name rfl) (by exact Ev.str) (by simp) (by rw [split_crlf, spl_quo]) (small (by omega))
  refine Ex.forget (ρ' := base sh σ0.length (σ0.length + 1) [(Str.ofString "holder", .int x.a), (Str.ofString "new", .bool x.new), (Str.ofString "quoted", .str (quo x.s)), (Str.ofString "head", .list (dstrs (hrows (up1 x.ch) (x.dl + 1) x.j)))]) (Knows.get ⟨rfl, rfl, rfl, rfl, rfl, rfl, rfl, rfl, rfl, trivial⟩) ?_
  refine Ex.cons (Ex1.forK (fun i => base sh σ0.length (σ0.length + 1) [(Str.ofString "holder", .int x.a), (Str.ofString "new", .bool x.new), (Str.ofString "quoted", .str (quo x.s)), (Str.ofString "head", .list (dstrs (hrows (up1 x.ch) (x.dl + 1) x.j)))])
    (fun i => σ0 ++ [ls ++ ((List.range i).filter (goB sh x)).map (fun b => dst (sent1 x b)), lk]) (EvI.range1 (N := 3) G B.range.1 B.range.2 (by exact Ev.int) (by omega) (by omega)) (purs_ints _) ⟨rfl, rfl, rfl, rfl, rfl, rfl, rfl, rfl, rfl, trivial⟩ (by simp) (fun i d hd => ?_) ?_)
  · obtain ⟨hi, rfl⟩ := range3_get hd
    have hfil : ((List.range (i + 1)).filter (goB sh x)).map (fun b => dst (sent1 x b)) = ((List.range i).filter (goB sh x)).map (fun b => dst (sent1 x b)) ++ (if goB sh x i = true then [dst (sent1 x i)] else []) := by
      rw [List.range_succ, List.filter_append, List.map_append]
      congr 1
      cases hbt : goB sh x i <;> simp [List.filter, hbt]
    refine ⟨_, _, As.name (.inl rfl), ?_⟩
    refine Ex.cons (Ex1.ite (c := goB sh x i) ?_ (fun h => ?_) (fun h => ?_))
    · unfold goB
      have hne : ((i : Int) != (x.a : Int)) = decide (i ≠ x.a) := by
        by_cases h : i = x.a
        · subst h; simp
        · have h' : ¬ ((i : Int) = (x.a : Int)) := by omega
          simp [h, h']
      rw [← hne, ← last_any hi ok.hj (x.dl + 1) x.ch (fun p hp => (ok.hch p hp).2.1)]
      refine EvT.and3 (EvT.cmp (by exact Ev.name rfl) (by exact Ev.name rfl) (by exact Op2.ne_int)) (fun _ => ?_) (fun hia _ => ?_)
      · refine EvT.cmp (d1 := .str [chr dig i]) (d2 := .list (dstrs ((hrows (up1 x.ch) (x.dl + 1) x.j).map fun y => [lastD y]))) ?_ ?_ Op2.notIn_strs
        · exact Ev.chr (l := dig) (by exact Ev.str) (by exact Ev.name rfl) rfl hi (by omega)
        · let g : D → D := fun d => match d with
            | .str y => .str [lastD y]
            | d => d
          have e : dstrs ((hrows (up1 x.ch) (x.dl + 1) x.j).map fun y => [lastD y]) = (dstrs (hrows (up1 x.ch) (x.dl + 1) x.j)).map g := by
            show (List.map _ (List.map _ _)) = List.map _ (List.map _ _)
            rw [List.map_map, List.map_map]; rfl
          rw [e]
          refine Ev.ofL (EvL.map (cl := []) (ρc := []) g (EvI.list (Ev.name rfl)).toX ?_ trivial ?_ (fun C l d hd => ?_) ?_)
          · exact ⟨rfl, rfl, by decide, fun x c h => by cases h⟩
          · refine small ?_
            have := ok.few
            simp [dstrs, hrows, up1]; omega
          · obtain ⟨y, hy, rfl⟩ := List.mem_map.mp hd
            have hyd : ∃ u c, y = u ++ [c] := by
              rcases List.mem_append.mp hy with h | h
              · obtain ⟨p, _, rfl⟩ := List.mem_map.mp h; exact ⟨_, _, rfl⟩
              · rw [List.mem_singleton.mp h]; exact ⟨_, _, rfl⟩
            obtain ⟨u, c, rfl⟩ := hyd
            refine ⟨_, _, As.name (.inl rfl), fun x hx => rfl, (fun x d h => by cases h), ?_⟩
            have e2 : g (.str (u ++ [c])) = .str [c] := by show D.str [lastD (u ++ [c])] = _; simp [lastD]
            rw [e2]
            exact Ev.lastc (y := u) (by exact Ev.name rfl) (by exact Ev.neg (by exact Ev.int))
          · rw [← e]; exact hass_of_purs (purs_strs _)
      · have hia' : i ≠ x.a := by rw [hne] at hia; simpa using hia
        have hc3 : (x.ch.head?.map (·.2)).getD 0 < 3 := by
          cases hx : x.ch with
          | nil => simp
          | cons p ch => simpa using (ok.hch p (by rw [hx]; simp)).2.1
        refine EvT.plain (Ev.fn G (w_goes (c := (x.ch.head?.map (·.2)).getD 0) G B d34 S ha hi hia' ok.hj hc3 x.new (hrows (up1 x.ch) (x.dl + 1) x.j) ((up1 x.ch).map (fun p => dots p.1 (chr dig p.2))) (List.replicate (x.dl + 1) 46) rfl ?_ ?_ ?_ _ ?_) ?_ (by omega)) Tru.bool
        · cases hx : x.ch with
          | nil => exact .inl rfl
          | cons p ch => exact .inr ⟨List.replicate (p.1 + 1) 46, _, rfl⟩
        · have := ok.few
          simp [hrows, up1]; omega
        · have h1 := ok.hdl
          have h2 := ok.hm
          simp; omega
        · cases hx : x.ch with
          | nil =>
            have : ((List.replicate (x.dl + 1) 46).length == 3) = (x.dl == 2) := by
              rw [List.length_replicate, Bool.eq_iff_iff]; simp
            rw [this]; rfl
          | cons p ch => rfl
        · exact Evs.cons (by exact Ev.name rfl) (by exact Evs.cons (by exact Ev.name rfl) (by exact Evs.cons (by exact Ev.name rfl) (by exact Evs.cons (by exact Ev.name rfl) (by exact Evs.cons (by exact Ev.name rfl) (by exact Evs.nil)))))
    · refine Ex.cons (Ex1.append (k := σ0.length) (l := ls ++ ((List.range i).filter (goB sh x)).map (fun b => dst (sent1 x b))) (d := dst (sent1 x i)) (Ev.name rfl) ?_ (by simp) ?_ ?_)
      · refine Ev.tuple (Evs.cons (Ev.name rfl) (Evs.cons (d := .str (sendS x.a x.s)) ?_ Evs.nil)) (small (by simp))
        have h3 := seps_len x.a
        refine Ev.cat (a := [46] ++ [chr dig x.a] ++ seps x.a) (Ev.cat (b := seps x.a) (Ev.cat (a := [46]) Ev.str ?_ (small (by simp))) ?_ (small (by simp; omega))) (Ev.name rfl) (small (by simp; omega))
        · exact Ev.chr (l := dig) (by exact Ev.str) (by exact Ev.name rfl) rfl ha (by omega)
        · refine Ev.elt (j := x.a) (l := dstrs [[13], [10], [13, 10]]) (Ev.list ?_ (small (by simp [dstrs]))) (Ev.name rfl) rfl ?_ (by omega)
          · exact Evs.cons (by exact Ev.str) (by exact Evs.cons (by exact Ev.str) (by exact Evs.cons (by exact Ev.str) (by exact Evs.nil)))
          · generalize x.a = a at ha
            match a, ha with
            | 0, _ => rfl
            | 1, _ => rfl
            | 2, _ => rfl
      · have := List.length_filter_le (goB sh x) (List.range i)
        refine small ?_
        simp at this ⊢; omega
      · refine Ex.nil ?_
        refine Ex.nil ⟨⟨rfl, rfl, rfl, rfl, rfl, rfl, rfl, rfl, rfl, trivial⟩, ?_⟩
        rw [app_two0, hfil, if_pos h, List.append_assoc]
    · refine Ex.nil ?_
      refine Ex.nil ⟨⟨rfl, rfl, rfl, rfl, rfl, rfl, rfl, rfl, rfl, trivial⟩, ?_⟩
      rw [hfil, h]; simp
  · refine Ex.nil ?_
    have hlen : ((dstrs (hrows (up1 x.ch) (x.dl + 1) x.j)).length : Int) = (x.ch.length + 1 : Nat) := by simp [dstrs, hrows, up1]
    have hfin : List.map (fun b => dst (sent1 x b)) ((List.range 3).filter (goB sh x)) = (sends sh x).map dst := by
      unfold sends; rw [List.map_map]; rfl
    refine Ex.cons (Ex1.ite (c := x.ch.isEmpty && bit sh 0 (4 * x.a + 3)) ?_ (fun h => ?_) (fun h => ?_))
    · have hem : (((dstrs (hrows (up1 x.ch) (x.dl + 1) x.j)).length : Int) == 1) = x.ch.isEmpty := by
        rw [hlen]
        cases x.ch with
        | nil => rfl
        | cons p ch => 
          rw [Bool.eq_iff_iff]; simp; omega
      rw [← hem]
      refine EvT.and2 (EvT.cmp (d1 := .int ((dstrs (hrows (up1 x.ch) (x.dl + 1) x.j)).length : Int)) (d2 := .int 1) ?_ Ev.int Op2.eq_int) (fun _ => ?_)
      · refine Ev.builtin G B.len.1 B.len.2 (Evs.cons (Ev.name rfl) Evs.nil) (OpN.len_list (small ?_))
        have := ok.few
        omega
      · exact EvT.plain (by exact Ev.bit (r := 0) (c := 4 * x.a + 3) S (by exact Ev.name rfl) (by exact Ev.int) (by exact Ev.bin (by exact Ev.bin (by exact Ev.int) (by exact Ev.name rfl) (by exact Op2.mul_int (IntMulOk.of_left (by decide)))) (by exact Ev.int) (by exact Op2.add_int)) rfl (by push_cast; rfl) (by omega) (by omega)) (by exact Tru.bool)
    · refine Ex.cons (Ex1.append (k := σ0.length + 1) (l := lk) (d := .tup [.int x.a, .str (quo x.s), .bool false]) (Ev.name rfl) ?_ (by simp) (small (by omega)) ?_)
      · exact Ev.tuple (by exact Evs.cons (by exact Ev.name rfl) (by exact Evs.cons (by exact Ev.name rfl) (by exact Evs.cons (by exact Ev.bool) (by exact Evs.nil)))) (small (by simp))
      · refine Ex.nil ?_
        refine Ex.nil ⟨rfl, ⟨rfl, rfl, rfl, rfl, rfl, trivial⟩, ?_⟩
        rw [app_two1, ← hfin]
        unfold keep1
        rw [if_pos h]; rfl
    · refine Ex.nil ?_
      refine Ex.nil ⟨rfl, ⟨rfl, rfl, rfl, rfl, rfl, trivial⟩, ?_⟩
      rw [← hfin]
      unfold keep1
      rw [h]; simp
end
end Mine

-- Walk11
namespace Mine

theorem dsl_init (y : List Nat) (c : Nat) : dsl (y ++ [c]) none (some (-1)) = y := by
  unfold dsl
  have h1 : clipN (y ++ [c]).length 0 none = 0 := rfl
  have h2 : clipN (y ++ [c]).length (y ++ [c]).length (some (-1)) = y.length := by
    simp only [clipN, List.length_append, List.length_singleton]
    rw [if_pos (by omega)]
    omega
  rw [h1, h2, List.drop_zero]
  simp
theorem dsl_from {α : Type} (l : List α) (k : Nat) (h : k ≤ l.length) : dsl l (some (k : Int)) none = l.drop k := by
  unfold dsl
  have h1 : clipN l.length 0 (some (k : Int)) = k := by
    simp only [clipN]
    rw [if_neg (by omega)]
    omega
  have h2 : clipN l.length l.length none = l.length := rfl
  rw [h1, h2]
  have : (l.drop k).length = l.length - k := by simp
  rw [← this, List.take_length]
theorem rep_dot (k : Nat) : (List.replicate k [46]).flatten = List.replicate k 46 := by
  induction k with
  | zero => rfl
  | succ k ih => rw [List.replicate_succ, List.flatten_cons, ih]; rfl
theorem rwx_contains {j : Nat} (hj : j < 3) : ∀ l : List Nat, (∀ k ∈ l, k < 3) → ((l.map fun j => [chr rwx j]).contains [chr rwx j]) = l.contains j
  | [], _ => rfl
  | k :: l, h => by
    have ih := rwx_contains hj l (fun q hq => h q (by simp [hq]))
    have hk := h k (by simp)
    rw [List.map_cons, List.contains_cons, ih, List.contains_cons]
    congr 1
    match j, hj, k, hk with
    | 0, _, 0, _ => decide
    | 0, _, 1, _ => decide
    | 0, _, 2, _ => decide
    | 1, _, 0, _ => decide
    | 1, _, 1, _ => decide
    | 1, _, 2, _ => decide
    | 2, _, 0, _ => decide
    | 2, _, 1, _ => decide
    | 2, _, 2, _ => decide

def hcell : List D := [.cell 1, .cell 2, .cell 3]
def σR (he : List (List Nat)) (br : List D) (J : List (List D)) (lk : List D) : List (List D) := (hcell :: he.map dords) ++ ([br] ++ (J ++ [lk]))
structure He (he : List (List Nat)) : Prop where
  three : he.length = 3
  ord : ∀ l ∈ he, ∀ k ∈ l, k < 3
  few : ∀ l ∈ he, l.length ≤ 1000
theorem σR_br {he br J lk} (h : He he) : (σR he br J lk)[4]? = some br := by
  unfold σR
  rw [List.getElem?_append_right (by simp [h.three])]
  simp [h.three]
theorem σR_lk' {he br J lk} (h : he.length = 3) : (σR he br J lk)[5 + J.length]? = some lk := by
  unfold σR
  rw [List.getElem?_append_right (by simp [h]; omega), List.length_cons, List.length_map, h, List.getElem?_append_right (by simp; omega), List.getElem?_append_right (by simp; omega)]
  simp
  have : 5 + J.length - 4 - 1 - J.length = 0 := by omega
  rw [this]; rfl
theorem σR_lk {he br J lk} (h : He he) : (σR he br J lk)[5 + J.length]? = some lk := σR_lk' h.three
theorem σR_he {he br J lk} (h : He he) {a : Nat} (ha : a < 3) : (σR he br J lk)[a + 1]? = some (dords (he.getD a [])) := by
  unfold σR
  rw [List.getElem?_append_left (by simp [h.three]; omega), List.getElem?_cons_succ, List.getElem?_map, List.getD, List.getElem?_eq_getElem (by rw [h.three]; exact ha)]; rfl
theorem app_br {he br J lk} (h : He he) (d : D) : app (σR he br J lk) 4 d = σR he (br ++ [d]) J lk := by
  unfold σR
  have := app_right (hcell :: he.map dords) ([br] ++ (J ++ [lk])) 0 d
  rw [List.length_cons, List.length_map, h.three] at this
  exact this
theorem app_lk' {he br J lk} (h : he.length = 3) (d : D) : app (σR he br J lk) (5 + J.length) d = σR he br J (lk ++ [d]) := by
  unfold σR
  have := app_right (hcell :: he.map dords) ([br] ++ (J ++ [lk])) (1 + J.length) d
  rw [List.length_cons, List.length_map, h] at this
  rw [show 5 + J.length = 3 + 1 + (1 + J.length) by omega, this]
  congr 1
  have h2 := app_right [br] (J ++ [lk]) J.length d
  rw [List.length_singleton] at h2
  rw [h2, app_last]
theorem app_lk {he br J lk} (h : He he) (d : D) : app (σR he br J lk) (5 + J.length) d = σR he br J (lk ++ [d]) := app_lk' h.three d
theorem app_he {he br J lk} (h : He he) {a : Nat} (ha : a < 3) (j : Nat) : app (σR he br J lk) (a + 1) (.str [chr rwx j]) = σR (he.modify a (· ++ [j])) br J lk := by
  unfold σR
  rw [app_left _ _ _ _ (by simp [h.three]; omega)]
  congr 1
  match he, h.three, a, ha with
  | [h0, h1, h2], _, 0, _ => simp [app, dords, dstrs]
  | [h0, h1, h2], _, 1, _ => simp [app, dords, dstrs]
  | [h0, h1, h2], _, 2, _ => simp [app, dords, dstrs]

section
variable {prog : Program} {w : World} {hT : Heap} {n : Nat} {env : Env} {ρ : List (Str × D)} {σ : List (List D)} {mg mb : Str → Option Value}

abbrev base2 (sh : List (List Bool)) (kk : Nat) (r : List (Str × D)) : List (Str × D) := (Str.ofString "shown", .list (dsh sh)) :: (Str.ofString "heard", .cell 0) :: (Str.ofString "brought", .cell 4) :: (Str.ofString "letters", .cell kk) :: r

theorem w_recv (G : GL hT mg mb) (B : Bt mg mb) (P : Pats hT mg) (d5 : Def hT mg (defAt 5)) (d33 : Def hT mg (defAt 33)) {sh : List (List Bool)} {TT : List (List Nat)} {x : Lt} (ok : x.Ok TT) (hl : x.s.length ≤ 2000) {he : List (List Nat)} (H : He he) (br : List D) (J : List (List D)) (lk : List D) (hbr : br.length ≤ 1000) (hlk : lk.length ≤ 1000) (pm code doc L f) :
    Ex prog w hT 2 (pEnv pm code doc L f) (base2 sh (5 + J.length) [(Str.ofString "other", .int x.a), (Str.ofString "letter", .str x.s)]) (σR he br J lk) recvB
      (fun fl ρ' σ' => fl = .next ∧ Knows ρ' (base2 sh (5 + J.length) []) ∧ σ' = σR (if newB he x = true then he.modify x.a (· ++ [x.j]) else he) (br ++ [dbr TT x]) J (lk ++ [dlt { x with new := newB he x }])) := by
  have hq := quo_size x.s hl
  have hqd := Lt.quoted ok
  have hlq := len_quo x.s
  have hch : ∀ p ∈ up1 x.ch, p.2 < 3 := up1_ok fun p hp => (ok.hch p hp).2.1
  have ha := ok.ha
  have hfew := ok.few
  have hdl := ok.hdl
  have hm3 := ok.hm
  have hul : (up1 x.ch).length = x.ch.length := by simp [up1]
  have hlen : (dstrs (hrows (up1 x.ch) (x.dl + 1) x.j)).length = x.ch.length + 1 := by simp [dstrs, hrows, up1]
  have hsp : dstrs (hrows (up1 x.ch) (x.dl + 1) x.j) = dstrs ((up1 x.ch).map (fun p => dots p.1 (chr dig p.2))) ++ [.str (List.replicate (x.dl + 1) 46 ++ [chr rwx x.j])] := by
    simp [dstrs, hrows, dots]
  have hdr : dsl (dstrs ((lns x.s).map dq)) (some ((x.ch.length + 1 : Nat) : Int)) none = dstrs (TT.map (dqn (x.m + 1))) := by
    rw [hqd, dsl_from _ _ (by simp [dstrs, hrows, up1])]
    show List.drop _ (List.map _ _) = _
    rw [← List.map_drop, ← hul, head_drop]
  refine Ex.cons (Ex1.assign (d := .list (dstrs ((lns x.s).map dq))) ?_ (As.name (.inl rfl)) ?_)
  · exact Ev.split (l := quo x.s) (c := [13, 10]) (by exact Ev.fn G (w_quo G P d5 x.s (by omega)) (by exact Evs.cons (by exact Ev.name rfl) (by exact Evs.nil)) (by omega)) (by exact Ev.str) (by simp) (by rw [split_crlf, spl_quo]) (small (by omega))
  refine Ex.cons (Ex1.assign (d := .list (dstrs (hrows (up1 x.ch) (x.dl + 1) x.j))) ?_ (As.name (.inl rfl)) ?_)
  · refine Ev.fn G (w_head2 G B d33 (up1 x.ch) (x.dl + 1) x.j (TT.map (dqn (x.m + 1))) hch ok.hj (by rw [← hqd]; exact hq.1) (by rw [← hqd]; exact hq.2)) (Evs.cons ?_ Evs.nil) (by omega)
    rw [← hqd]
    exact Ev.name rfl
  refine Ex.cons (Ex1.assign (d := .int (x.m + 1 : Nat)) ?_ (As.name (.inl rfl)) ?_)
  · have e : ((x.m + 1 : Nat) : Int) = (((List.replicate (x.dl + 1) 46 ++ [chr rwx x.j]).length : Nat) : Int) - 2 := by simp; omega
    rw [e]
    refine Ev.bin (d2 := .int 2) ?_ Ev.int Op2.sub_int
    refine Ev.builtin G B.len.1 B.len.2 (ds := [.str (List.replicate (x.dl + 1) 46 ++ [chr rwx x.j])]) (Evs.cons ?_ Evs.nil) (OpN.len_str (small (by simp; omega)))
    refine Ev.laste (l := dstrs ((up1 x.ch).map (fun p => dots p.1 (chr dig p.2)))) ?_ (Ev.neg Ev.int)
    rw [← hsp]
    exact Ev.name rfl
  refine Ex.forget (ρ' := base2 sh (5 + J.length) [(Str.ofString "other", .int x.a), (Str.ofString "letter", .str x.s), (Str.ofString "rows", .list (dstrs ((lns x.s).map dq))), (Str.ofString "head", .list (dstrs (hrows (up1 x.ch) (x.dl + 1) x.j))), (Str.ofString "more", .int (x.m + 1 : Nat))]) (Knows.get ⟨rfl, rfl, rfl, rfl, rfl, rfl, rfl, rfl, rfl, trivial⟩) ?_
  refine Ex.cons (Ex1.append (k := 4) (l := br) (d := dbr TT x) (Ev.name rfl) ?_ (σR_br H) (small (by omega)) ?_)
  · refine Ev.tuple (Evs.cons (Ev.name rfl) (Evs.cons (d := .list (dstrs (TT.map (dqn (x.m + 1))))) ?_ Evs.nil)) (small (by simp))
    rw [← hdr]
    refine Ev.slice_list (Ev.name rfl) (EvP.some ?_) EvP.none (small (by simpa [dstrs] using Nat.le_trans hq.1 (by omega)))
    rw [← hlen]
    exact Ev.builtin G B.len.1 B.len.2 (by exact Evs.cons (by exact Ev.name rfl) (by exact Evs.nil)) (by exact OpN.len_list (small (by omega)))
  rw [app_br H]
  refine Ex.cons (Ex1.assign (d := .bool (newB he x)) ?_ (As.name (.inl rfl)) ?_)
  · unfold newB okD
    have hg1 : ((up1 x.ch).map (fun p => List.replicate p.1 46) ++ [List.replicate (x.dl + 1) 46]) = (hrows (up1 x.ch) (x.dl + 1) x.j).map (fun y => dsl y none (some (-1))) := by
      unfold hrows
      rw [List.map_append, List.map_map]
      congr 1
      · apply List.map_congr_left
        intro p _
        exact (dsl_init _ _).symm
      · show _ = [dsl (dots _ _) none (some (-1))]
        unfold dots
        rw [dsl_init]
    refine Ev.and2 ?_ (fun _ => ?_)
    · rw [hg1]
      refine Ev.cmp (d1 := .list (dstrs ((hrows (up1 x.ch) (x.dl + 1) x.j).map (fun y => dsl y none (some (-1)))))) (d2 := .list (dstrs ((List.range (x.ch.length + 1)).map fun k => List.replicate (k + 2) 46))) ?_ ?_ Op2.eq_strs
      · let g : D → D := fun d => match d with
          | .str y => .str (dsl y none (some (-1)))
          | d => d
        have e : dstrs ((hrows (up1 x.ch) (x.dl + 1) x.j).map fun y => dsl y none (some (-1))) = (dstrs (hrows (up1 x.ch) (x.dl + 1) x.j)).map g := by
          show (List.map _ (List.map _ _)) = List.map _ (List.map _ _)
          rw [List.map_map, List.map_map]; rfl
        rw [e]
        refine Ev.ofL (EvL.map (cl := []) (ρc := []) g (EvI.list (Ev.name rfl)).toX ?_ trivial (small (by omega)) (fun C l d hd => ?_) ?_)
        · exact ⟨rfl, rfl, by decide, fun x c h => by cases h⟩
        · obtain ⟨y, hy, rfl⟩ := List.mem_map.mp hd
          have hys : y.length ≤ 10000 := hq.2 y (by rw [hqd]; exact List.mem_append_left _ hy)
          refine ⟨_, _, As.name (.inl rfl), fun x hx => rfl, (fun x d h => by cases h), ?_⟩
          exact Ev.slice_str (by exact Ev.name rfl) EvP.none (EvP.some (by exact Ev.neg (by exact Ev.int))) (small hys)
        · rw [← e]; exact hass_of_purs (purs_strs _)
      · let g : D → D := fun d => match d with
          | .int k => .str (List.replicate (k.toNat + 2) 46)
          | d => d
        have e : dstrs ((List.range (x.ch.length + 1)).map fun k => List.replicate (k + 2) 46) = ((List.range ((x.ch.length + 1 : Nat) : Int).toNat).map fun i : Nat => D.int (i : Int)).map g := by
          show (List.map _ (List.map _ _)) = List.map _ (List.map _ _)
          rw [List.map_map, List.map_map]; rfl
        rw [e]
        refine Ev.ofL (EvL.map (cl := []) (ρc := []) g (EvI.range1 (N := ((x.ch.length + 1 : Nat) : Int)) G B.range.1 B.range.2 ?_ (by omega) (by omega)).toX ?_ trivial (small (by simp; omega)) (fun C l d hd => ?_) ?_)
        · rw [← hlen]
          exact Ev.builtin G B.len.1 B.len.2 (by exact Evs.cons (by exact Ev.name rfl) (by exact Evs.nil)) (by exact OpN.len_list (small (by omega)))
        · exact ⟨rfl, rfl, by decide, fun x c h => by cases h⟩
        · obtain ⟨k, hk, rfl⟩ := List.mem_map.mp hd
          have hk' : k < x.ch.length + 1 := by simpa using hk
          refine ⟨_, _, As.name (.inl rfl), fun x hx => rfl, (fun x d h => by cases h), ?_⟩
          have e2 : g (.int (k : Int)) = .str (List.replicate ((k : Int) + 2).toNat [46]).flatten := by
            show D.str (List.replicate (k + 2) 46) = _
            rw [rep_dot]; rfl
          rw [e2]
          exact Ev.bin (d1 := .str [46]) (by exact Ev.str) (by exact Ev.bin (by exact Ev.name rfl) (by exact Ev.int) (by exact Op2.add_int)) (by exact Op2.mul_str (by omega) (by omega) (by simp))
        · rw [← e]; exact hass_of_purs (purs_strs _)
    · have hord : ∀ k ∈ he.getD x.a [], k < 3 := by
        intro k hk
        refine H.ord (he.getD x.a []) ?_ k hk
        rw [List.getD, List.getElem?_eq_getElem (by rw [H.three]; exact ha)]
        exact List.getElem_mem _
      rw [← rwx_contains ok.hj _ hord]
      refine Ev.cmp (d1 := .str [chr rwx x.j]) (d2 := .cell (x.a + 1)) ?_ ?_ (Op2.notIn_cell (σR_he H ha))
      · refine Ev.lastc (y := List.replicate (x.dl + 1) 46) (Ev.laste (l := dstrs ((up1 x.ch).map (fun p => dots p.1 (chr dig p.2)))) ?_ (Ev.neg Ev.int)) (Ev.neg Ev.int)
        rw [← hsp]
        exact Ev.name rfl
      · refine Ev.item_cell (k := 0) (j := x.a) (l := hcell) (Ev.name rfl) (Ev.name rfl) rfl rfl ?_ (by omega)
        generalize x.a = a at ha
        match a, ha with
        | 0, _ => rfl
        | 1, _ => rfl
        | 2, _ => rfl
  refine Ex.forget (ρ' := base2 sh (5 + J.length) [(Str.ofString "other", .int x.a), (Str.ofString "letter", .str x.s), (Str.ofString "head", .list (dstrs (hrows (up1 x.ch) (x.dl + 1) x.j))), (Str.ofString "new", .bool (newB he x))]) (Knows.get ⟨rfl, rfl, rfl, rfl, rfl, rfl, rfl, rfl, trivial⟩) ?_
  refine Ex.cons (Ex1.ite (c := newB he x) (EvT.nm rfl) (fun h => ?_) (fun h => ?_))
  · have hfh : (he.getD x.a []).length ≤ 1000 := by
      refine H.few (he.getD x.a []) ?_
      rw [List.getD, List.getElem?_eq_getElem (by rw [H.three]; exact ha)]
      exact List.getElem_mem _
    have hdo : (dords (he.getD x.a [])).length = (he.getD x.a []).length := by simp only [dords, dstrs, List.length_map]
    refine Ex.cons (Ex1.append (k := x.a + 1) (l := dords (he.getD x.a [])) (d := .str [chr rwx x.j]) ?_ ?_ (σR_he H ha) (small (by rw [hdo]; omega)) ?_)
    · refine Ev.item_cell (k := 0) (j := x.a) (l := hcell) (Ev.name rfl) (Ev.name rfl) rfl rfl ?_ (by omega)
      generalize x.a = a at ha
      match a, ha with
      | 0, _ => rfl
      | 1, _ => rfl
      | 2, _ => rfl
    · refine Ev.lastc (y := List.replicate (x.dl + 1) 46) (Ev.laste (l := dstrs ((up1 x.ch).map (fun p => dots p.1 (chr dig p.2)))) ?_ (Ev.neg Ev.int)) (Ev.neg Ev.int)
      rw [← hsp]
      exact Ev.name rfl
    · refine Ex.nil ?_
      rw [app_he H ha, if_pos h]
      have h3 : (he.modify x.a (· ++ [x.j])).length = 3 := by rw [List.length_modify, H.three]
      refine Ex.cons (Ex1.append (k := 5 + J.length) (l := lk) (d := dlt { x with new := newB he x }) (Ev.name rfl) ?_ (σR_lk' h3) (small (by omega)) ?_)
      · exact Ev.tuple (by exact Evs.cons (by exact Ev.name rfl) (by exact Evs.cons (by exact Ev.name rfl) (by exact Evs.cons (by exact Ev.name rfl) (by exact Evs.nil)))) (small (by simp))
      · exact Ex.nil ⟨rfl, ⟨rfl, rfl, rfl, rfl, trivial⟩, app_lk' h3 _⟩
  · refine Ex.nil ?_
    rw [if_neg (by rw [h]; exact Bool.false_ne_true)]
    refine Ex.cons (Ex1.append (k := 5 + J.length) (l := lk) (d := dlt { x with new := newB he x }) (Ev.name rfl) ?_ (σR_lk H) (small (by omega)) ?_)
    · exact Ev.tuple (by exact Evs.cons (by exact Ev.name rfl) (by exact Evs.cons (by exact Ev.name rfl) (by exact Evs.cons (by exact Ev.name rfl) (by exact Evs.nil)))) (small (by simp))
    · exact Ex.nil ⟨rfl, ⟨rfl, rfl, rfl, rfl, trivial⟩, app_lk H _⟩
end
end Mine

-- Walk12
namespace Mine

mutual
theorem sub_has {k : Nat} {l : List D} : ∀ {d : D}, d.has k = false → d.sub k l = d
  | .none, _ => rfl
  | .bool _, _ => rfl
  | .int _, _ => rfl
  | .str _, _ => rfl
  | .tup ds, h => by show D.tup (D.subs k l ds) = _; rw [subs_has h]
  | .list ds, h => by show D.list (D.subs k l ds) = _; rw [subs_has h]
  | .cell j, h => by
    have : (j == k) = false := h
    have hj : j ≠ k := by simpa using this
    show (if j = k then D.list l else .cell j) = _
    rw [if_neg hj]
theorem subs_has {k : Nat} {l : List D} : ∀ {ds : List D}, D.hass k ds = false → D.subs k l ds = ds
  | [], _ => rfl
  | d :: ds, h => by
    have h' := Bool.or_eq_false_iff.mp h
    show D.sub k l d :: D.subs k l ds = _
    rw [sub_has h'.1, subs_has h'.2]
end
theorem map_subs {k : Nat} {l : List D} : ∀ {σ : List (List D)}, (∀ m ∈ σ, D.hass k m = false) → σ.map (D.subs k l) = σ
  | [], _ => rfl
  | m :: σ, h => by rw [List.map_cons, subs_has (h m (by simp)), map_subs fun q hq => h q (by simp [hq])]

section
variable {prog : Program} {w : World} {hT : Heap} {n : Nat} {env : Env} {ρ : List (Str × D)} {σ : List (List D)} {mg mb : Str → Option Value}

def KnowsS (ρ : List (Str × D)) (k : Nat) (l : List D) (ρ' : List (Str × D)) : Prop := AllV (fun x d' => ∃ d, ρ.lookup x = some d ∧ d' = d.sub k l) ρ'

theorem set_map {k : Nat} {l : List D} (j : Nat) (l' : List D) (hj : j ≠ k) (e : ((σ.map (D.subs k l)).set k [])[j]? = some l') : ∃ l'', σ[j]? = some l'' ∧ l' = D.subs k l l'' := by
  rw [List.getElem?_set_ne (Ne.symm hj), List.getElem?_map] at e
  cases h : σ[j]? with
  | none => rw [h] at e; cases e
  | some m => rw [h] at e; exact ⟨m, rfl, by simpa using e.symm⟩

theorem Ex.freezeS {c k l ρ' x d} {Post : PostT} (hx : ρ.lookup x = some d) (hd : d.has k = true) (hl : σ[k]? = some l) (hpl : D.purs l = true) (hρ : KnowsS ρ k l ρ')
    (h : Ex prog w hT n env ρ' ((σ.map (D.subs k l)).set k []) c Post) : Ex prog w hT n env ρ σ c Post :=
  Ex.freeze hx hd hl hpl (fun x d e => AllV.get hρ x d e) (by simp) (fun j l' hj e => set_map j l' hj e) h

/-- a list that lies in an open list -/
theorem Ex.freezeIn {c k k0 l l0 ρ' x} {Post : PostT} (hx : ρ.lookup x = some (.cell k0)) (hl0 : σ[k0]? = some l0) (hd : D.hass k l0 = true) (hl : σ[k]? = some l) (hpl : D.purs l = true) (hρ : KnowsS ρ k l ρ')
    (h : Ex prog w hT n env ρ' ((σ.map (D.subs k l)).set k []) c Post) : Ex prog w hT n env ρ σ c Post := .of fun A hA s μ fz S Q E hQ => by
  obtain ⟨v, _, a, rfl, r⟩ := S.vars x _ hx
  obtain ⟨vs, _, r0⟩ := S.lists k0 a l0 r hl0
  obtain ⟨fz', S', X'⟩ := S.freeze hl hpl (r0.live hd) (fun x d e => AllV.get hρ x d e) (by simp) (fun j l' hj e => set_map j l' hj e)
  exact h.run A hA s _ fz' S' Q E fun f fl ρ2 σ2 μ2 fz2 s2 p S2 X2 r2 => hQ f fl ρ2 σ2 μ2 fz2 s2 p S2 ((X' _).trans X2) r2

def σP (he : List (List Nat)) (br : List D) (J : List (List D)) : List (List D) := (hcell :: he.map dords) ++ ([br] ++ J)
theorem σP_len {he br J} (h : he.length = 3) : (σP he br J).length = 5 + J.length := by unfold σP; simp [h]; omega
theorem σP_has {he br J k} (hk : 4 ≤ k) (hb : D.purs br = true) (hJ : ∀ l ∈ J, D.purs l = true) : ∀ m ∈ σP he br J, D.hass k m = false := fun m hm => by
  unfold σP at hm
  rcases List.mem_append.mp hm with h | h
  · rcases List.mem_cons.mp h with rfl | h
    · simp [hcell, D.hass, D.has]; omega
    · obtain ⟨l, _, rfl⟩ := List.mem_map.mp h
      exact hass_of_purs (purs_strs _)
  · rcases List.mem_append.mp h with h | h
    · rw [List.mem_singleton.mp h]; exact hass_of_purs hb
    · exact hass_of_purs (hJ m h)
end

/-- a good letter of turn t -/
structure Gd (TT : List (List Nat)) (t : Nat) (x : Lt) : Prop where
  ok : x.Ok TT
  hm : x.m ≤ t
  few : x.ch.length ≤ t
  dot : ∀ p ∈ x.ch, p.1 ≤ t
theorem Gd.size {TT t x} (g : Gd TT t x) (ht : t ≤ 2) : x.s.length ≤ 2000 := by
  have h1 := g.ok.short
  have h2 : 2 ^ x.m ≤ 2 ^ 2 := Nat.pow_le_pow_right (by omega) (Nat.le_trans g.hm ht)
  omega
theorem Gd.new {TT t x} (g : Gd TT t x) (b : Bool) : Gd TT t { x with new := b } := ⟨⟨g.ok.ha, g.ok.hj, g.ok.hch, g.ok.hdl, g.ok.hm, g.ok.few, g.ok.rows, g.ok.short⟩, g.hm, g.few, g.dot⟩
theorem Gd.sends {TT t x sh} (g : Gd TT t x) (ht : t ≤ 2) : ∀ y ∈ Mine.sends sh x, Gd TT (t + 1) y := fun y hy => by
  obtain ⟨b, hb, rfl⟩ := List.mem_map.mp hy
  have hb3 : b < 3 := by simpa using (List.mem_filter.mp hb).1
  have h1 := g.hm
  have h2 := g.few
  refine ⟨sent_ok g.ok (by omega) (by omega) (fun p hp => by have := g.dot p hp; omega) b hb3, ?_, ?_, fun p hp => ?_⟩
  · show x.m + 1 ≤ t + 1; omega
  · show (up1 x.ch).length + 1 ≤ t + 1; simp [up1]; omega
  · rcases List.mem_cons.mp hp with rfl | hp
    · show 1 ≤ t + 1; omega
    · obtain ⟨q, hq, rfl⟩ := List.mem_map.mp hp
      have := g.dot q hq
      show q.1 + 1 ≤ t + 1; omega
theorem Gd.keep {TT t x sh} (g : Gd TT t x) (ht : t ≤ 2) : ∀ y ∈ keep1 sh x, Gd TT (t + 1) y := fun y hy => by
  unfold keep1 at hy
  have h1 := g.hm
  split at hy
  · rename_i hc
    have hc' := (Bool.and_eq_true_iff.mp hc).1
    have he : x.ch = [] := by simpa using hc'
    rw [List.mem_singleton.mp hy]
    refine ⟨keep_ok g.ok (by omega) he, ?_, ?_, fun p hp => ?_⟩
    · show x.m + 1 ≤ t + 1; omega
    · show x.ch.length ≤ t + 1; rw [he]; simp
    · have hp' : p ∈ x.ch := hp
      rw [he] at hp'; cases hp'
  · cases hy
theorem sends_len (sh x) : (sends sh x).length ≤ 3 := by
  unfold sends
  rw [List.length_map]
  have := List.length_filter_le (goB sh x) (List.range 3)
  simpa using this
theorem keep_len (sh x) : (keep1 sh x).length ≤ 1 := by
  unfold keep1; split <;> simp
theorem flat_len {α β : Type} (f : α → List β) (K : Nat) (h : ∀ x, (f x).length ≤ K) : ∀ l : List α, (l.flatMap f).length ≤ K * l.length
  | [] => by simp
  | x :: l => by
    rw [List.flatMap_cons, List.length_append, List.length_cons, Nat.mul_succ]
    have := flat_len f K h l
    have := h x
    omega

structure HeK (K : Nat) (he : List (List Nat)) : Prop where
  three : he.length = 3
  ord : ∀ l ∈ he, ∀ k ∈ l, k < 3
  few : ∀ l ∈ he, l.length ≤ K
theorem HeK.he {K he} (h : HeK K he) (hK : K ≤ 1000) : He he := ⟨h.three, h.ord, fun l hl => Nat.le_trans (h.few l hl) hK⟩
theorem HeK.up {K K' he} (h : HeK K he) (hK : K ≤ K') : HeK K' he := ⟨h.three, h.ord, fun l hl => Nat.le_trans (h.few l hl) hK⟩
theorem mem_mod {he : List (List Nat)} {a j : Nat} {l : List Nat} (h : l ∈ he.modify a (· ++ [j])) : l ∈ he ∨ ∃ m ∈ he, l = m ++ [j] := by
  obtain ⟨i, hi, rfl⟩ := List.getElem_of_mem h
  rw [List.getElem_modify]
  split
  · exact .inr ⟨_, List.getElem_mem _, rfl⟩
  · exact .inl (List.getElem_mem _)
theorem HeK.recv {K p x} (h : HeK K p.1) (hj : x.j < 3) : HeK (K + 1) (recv1 p x).1 := by
  unfold recv1
  show HeK (K + 1) (if newB p.1 x = true then p.1.modify x.a (· ++ [x.j]) else p.1)
  split
  · refine ⟨by rw [List.length_modify]; exact h.three, fun l hl => ?_, fun l hl => ?_⟩
    · intro k hk
      rcases mem_mod hl with h' | ⟨m, hm, rfl⟩
      · exact h.ord l h' k hk
      · rcases List.mem_append.mp hk with h' | h'
        · exact h.ord m hm k h'
        · rw [List.mem_singleton.mp h']; exact hj
    · rcases mem_mod hl with h' | ⟨m, hm, rfl⟩
      · have := h.few l h'; omega
      · have := h.few m hm; simp; omega
  · exact h.up (by omega)
theorem fold_HeK : ∀ (l : List Lt) {K : Nat} {p : List (List Nat) × List Lt}, HeK K p.1 → (∀ x ∈ l, x.j < 3) → HeK (K + l.length) (l.foldl recv1 p).1
  | [], _, _, h, _ => h
  | x :: l, K, p, h, hj => by
    have := fold_HeK l (h.recv (hj x (by simp))) (fun y hy => hj y (by simp [hy]))
    rw [List.length_cons, show K + (l.length + 1) = K + 1 + l.length by omega]
    exact this
theorem fold_Gd {TT t} : ∀ (l : List Lt) {p : List (List Nat) × List Lt}, (∀ x ∈ p.2, Gd TT t x) → (∀ x ∈ l, Gd TT t x) → ∀ x ∈ (l.foldl recv1 p).2, Gd TT t x
  | [], _, h, _ => h
  | y :: l, p, h, hl => by
    refine fold_Gd l (p := recv1 p y) (fun x hx => ?_) (fun x hx => hl x (by simp [hx]))
    rcases List.mem_append.mp hx with h' | h'
    · exact h x h'
    · rw [List.mem_singleton.mp h']; exact (hl y (by simp)).new _
theorem fold_len : ∀ (l : List Lt) (p : List (List Nat) × List Lt), (l.foldl recv1 p).2.length = p.2.length + l.length
  | [], p => rfl
  | y :: l, p => by
    rw [List.foldl_cons, fold_len l, List.length_cons]
    show (p.2 ++ [_]).length + _ = _
    rw [List.length_append, List.length_singleton]; omega
end Mine

-- Walk13
namespace Mine
section
variable {prog : Program} {w : World} {hT : Heap} {n : Nat} {env : Env} {ρ : List (Str × D)} {σ : List (List D)} {mg mb : Str → Option Value}

abbrev base3 (sh : List (List Bool)) (le : List Lt) (r : List (Str × D)) : List (Str × D) := (Str.ofString "shown", .list (dsh sh)) :: (Str.ofString "heard", .cell 0) :: (Str.ofString "brought", .cell 4) :: (Str.ofString "letters", .list (le.map dlt)) :: r

theorem take_flat {α β : Type} {f : α → List β} {l : List α} {i : Nat} {x : α} (h : l[i]? = some x) : (l.take (i + 1)).flatMap f = (l.take i).flatMap f ++ f x := by
  obtain ⟨hi, rfl⟩ := List.getElem?_eq_some_iff.mp h
  rw [List.take_succ_eq_append_getElem hi, List.flatMap_append]; simp
theorem take_fold {p : List (List Nat) × List Lt} {l : List Lt} {i : Nat} {x : Lt} (h : l[i]? = some x) : (l.take (i + 1)).foldl recv1 p = recv1 ((l.take i).foldl recv1 p) x := by
  obtain ⟨hi, rfl⟩ := List.getElem?_eq_some_iff.mp h
  rw [List.take_succ_eq_append_getElem hi, List.foldl_append]; rfl
theorem take_map1 {α β : Type} {f : α → β} {l : List α} {i : Nat} {x : α} (h : l[i]? = some x) : (l.take (i + 1)).map f = (l.take i).map f ++ [f x] := by
  obtain ⟨hi, rfl⟩ := List.getElem?_eq_some_iff.mp h
  rw [List.take_succ_eq_append_getElem hi, List.map_append]; rfl
theorem mem_take_of {α : Type} {l : List α} {i : Nat} {x : α} (h : x ∈ l.take i) : x ∈ l := List.mem_of_mem_take h

theorem w_turn (G : GL hT mg mb) (B : Bt mg mb) (P : Pats hT mg) (d5 : Def hT mg (defAt 5)) (d33 : Def hT mg (defAt 33)) (d34 : Def hT mg (defAt 34)) {sh : List (List Bool)} (S : Sh sh) {TT : List (List Nat)} {t : Nat} (ht : t ≤ 1) {le : List Lt} (hg : ∀ x ∈ le, Gd TT t x) (hle : le.length ≤ 36)
    {he : List (List Nat)} {K : Nat} (H : HeK K he) (hK : K ≤ 100) (br : List Lt) (hbr : br.length ≤ 100) (J : List (List D)) (hJ : ∀ l ∈ J, D.purs l = true) (pm code doc L f) :
    Ex prog w hT 2 (pEnv pm code doc L f) (base3 sh le []) (σP he (br.map (dbr TT)) J) turnB
      (fun fl ρ' σ' => fl = .next ∧ Knows ρ' (base3 sh (turnE sh (he, le)).2 []) ∧ σ' = σP (turnE sh (he, le)).1 ((br ++ sentOf sh le).map (dbr TT)) (J ++ [[], []])) := by
  have hlen := σP_len (br := br.map (dbr TT)) (J := J) H.three
  have hsl : ∀ i, ((le.take i).flatMap (sends sh)).length ≤ 108 := fun i => by
    have h1 := flat_len (sends sh) 3 (sends_len sh) (le.take i)
    have h2 : (le.take i).length ≤ le.length := by rw [List.length_take]; exact Nat.min_le_right _ _
    omega
  have hkl : ∀ i, ((le.take i).flatMap (keep1 sh)).length ≤ 36 := fun i => by
    have h1 := flat_len (keep1 sh) 1 (keep_len sh) (le.take i)
    have h2 : (le.take i).length ≤ le.length := by rw [List.length_take]; exact Nat.min_le_right _ _
    omega
  have hsg : ∀ x ∈ sentOf sh le, Gd TT (t + 1) x := fun x hx => by
    obtain ⟨y, hy, hxy⟩ := List.mem_flatMap.mp hx
    exact (hg y hy).sends (by omega) x hxy
  have hsl' : (sentOf sh le).length ≤ 108 := by have := hsl le.length; rwa [List.take_length] at this
  have hkl' : (keptOf sh le).length ≤ 36 := by have := hkl le.length; rwa [List.take_length] at this
  refine Ex.cons (Ex1.newcell (.inl rfl) ?_)
  refine Ex.cons (Ex1.newcell (.inl rfl) ?_)
  rw [List.append_assoc, List.length_append]
  generalize hσ0 : σP he (br.map (dbr TT)) J = σ0 at hlen ⊢
  refine Ex.forget (ρ' := base sh σ0.length (σ0.length + 1) [(Str.ofString "letters", .list (le.map dlt))]) (Knows.get ⟨rfl, rfl, rfl, rfl, rfl, rfl, trivial⟩) ?_
  refine Ex.cons (Ex1.forK (fun i => base sh σ0.length (σ0.length + 1) []) (fun i => σ0 ++ [((le.take i).flatMap (sends sh)).map dst, ((le.take i).flatMap (keep1 sh)).map dlt]) (EvI.list (Ev.name rfl)) (purs_dlt _) ⟨rfl, rfl, rfl, rfl, rfl, trivial⟩ (by simp) (fun i d hd => ?_) ?_)
  · obtain ⟨x, hx, rfl⟩ := map_get hd
    have gx := hg x (List.mem_of_getElem? hx)
    refine ⟨_, _, As.tuple (.cons (.inl rfl) (.cons (.inl rfl) (.cons (.inl rfl) (.nil _)))), ?_⟩
    refine Ex.forget (ρ' := base sh σ0.length (σ0.length + 1) [(Str.ofString "holder", .int x.a), (Str.ofString "letter", .str x.s), (Str.ofString "new", .bool x.new)]) (Knows.get ⟨rfl, rfl, rfl, rfl, rfl, rfl, rfl, rfl, trivial⟩) ?_
    refine Ex.mono (w_send G B P d5 d33 d34 S gx.ok (by have := gx.hm; omega) (gx.size (by omega)) σ0 _ _ (by have := hsl i; rw [List.length_map]; omega) (by have := hkl i; rw [List.length_map]; omega) pm code doc L f) fun fl ρ' σ' hp => ?_
    obtain ⟨rfl, h1, rfl⟩ := hp
    refine ⟨h1, ?_⟩
    rw [take_flat hx, take_flat hx, List.map_append, List.map_append]
  · refine Ex.nil ?_
    rw [List.length_map, List.take_length]
    show Ex prog w hT 2 _ _ (σ0 ++ [(sentOf sh le).map dst, (keptOf sh le).map dlt]) _ _
    refine Ex.cons (Ex1.assign (d := .cell (σ0.length + 1)) (Ev.name rfl) (As.name (.inl rfl)) ?_)
    refine Ex.freezeS (x := Str.ofString "sent") (k := σ0.length) (l := (sentOf sh le).map dst) (ρ' := base2 sh (σ0.length + 1) [(Str.ofString "sent", .list ((sentOf sh le).map dst))]) rfl (by simp [D.has]) (by simp) (purs_dst _) ⟨⟨_, rfl, ?_⟩, ⟨_, rfl, ?_⟩, ⟨_, rfl, ?_⟩, ⟨_, rfl, ?_⟩, ⟨_, rfl, ?_⟩, trivial⟩ ?_
    · exact (sub_pur (d := .list (dsh sh)) (purs_sh sh)).symm
    · exact (sub_has (by simp [D.has]; omega)).symm
    · exact (sub_has (by simp [D.has]; omega)).symm
    · exact (sub_has (by simp [D.has])).symm
    · simp [D.sub]
    · have hs : ((σ0 ++ [(sentOf sh le).map dst, (keptOf sh le).map dlt]).map (D.subs σ0.length ((sentOf sh le).map dst))).set σ0.length [] = σR he (br.map (dbr TT)) (J ++ [[]]) ((keptOf sh le).map dlt) := by
        rw [map_subs]
        · rw [List.set_append_right _ _ (Nat.le_refl _), Nat.sub_self, ← hσ0]
          unfold σP σR
          simp
        · intro m hm
          rcases List.mem_append.mp hm with h | h
          · rw [← hσ0] at h
            exact σP_has (by omega) (purs_dbr _ _) hJ m h
          · simp at h
            rcases h with rfl | rfl
            · exact hass_of_purs (purs_dst _)
            · exact hass_of_purs (purs_dlt _)
      rw [hs]
      have hk5 : σ0.length + 1 = 5 + (J ++ [([] : List D)]).length := by rw [hlen]; simp; omega
      rw [hk5]
      refine Ex.cons (Ex1.forK (fun i => base2 sh (5 + (J ++ [[]]).length) []) (fun i => σR (((sentOf sh le).take i).foldl recv1 (he, keptOf sh le)).1 ((br ++ (sentOf sh le).take i).map (dbr TT)) (J ++ [[]]) ((((sentOf sh le).take i).foldl recv1 (he, keptOf sh le)).2.map dlt))
        (EvI.list (Ev.name rfl)) (purs_dst _) ⟨rfl, rfl, rfl, rfl, trivial⟩ (by simp) (fun i d hd => ?_) ?_)
      · obtain ⟨x, hx, rfl⟩ := map_get hd
        have gx := hsg x (List.mem_of_getElem? hx)
        have hi : i < (sentOf sh le).length := (List.getElem?_eq_some_iff.mp hx).1
        have hti : ((sentOf sh le).take i).length ≤ 108 := by rw [List.length_take]; omega
        refine ⟨_, _, As.tuple (.cons (.inl rfl) (.cons (.inl rfl) (.nil _))), ?_⟩
        refine Ex.forget (ρ' := base2 sh (5 + (J ++ [[]]).length) [(Str.ofString "other", .int x.a), (Str.ofString "letter", .str x.s)]) (Knows.get ⟨rfl, rfl, rfl, rfl, rfl, rfl, trivial⟩) ?_
        have Hi := fold_HeK ((sentOf sh le).take i) (p := (he, keptOf sh le)) H (fun y hy => (hsg y (mem_take_of hy)).ok.hj)
        have hl2 := fold_len ((sentOf sh le).take i) (he, keptOf sh le)
        refine Ex.mono (w_recv G B P d5 d33 gx.ok (gx.size (by omega)) (Hi.he (by omega)) _ (J ++ [[]]) _ (by rw [List.length_map, List.length_append]; omega) (by rw [List.length_map, hl2]; show (keptOf sh le).length + _ ≤ _; omega) pm code doc L f) fun fl ρ' σ' hp => ?_
        obtain ⟨rfl, h1, rfl⟩ := hp
        refine ⟨h1, ?_⟩
        rw [take_fold hx, List.map_append, List.map_append, take_map1 hx, ← List.append_assoc]
        unfold recv1
        simp
      · refine Ex.nil ?_
        rw [List.length_map, List.take_length]
        show Ex prog w hT 2 _ _ (σR (turnE sh (he, le)).1 ((br ++ sentOf sh le).map (dbr TT)) (J ++ [[]]) ((turnE sh (he, le)).2.map dlt)) _ _
        have H2 : (turnE sh (he, le)).1.length = 3 := (fold_HeK (sentOf sh le) (p := (he, keptOf sh le)) H (fun y hy => (hsg y hy).ok.hj)).three
        generalize hE : turnE sh (he, le) = E at H2 ⊢
        refine Ex.freezeS (x := Str.ofString "letters") (k := 5 + (J ++ [([] : List D)]).length) (l := E.2.map dlt) (ρ' := base3 sh E.2 []) rfl (by simp [D.has]) (σR_lk' H2) (purs_dlt _) ⟨⟨_, rfl, ?_⟩, ⟨_, rfl, ?_⟩, ⟨_, rfl, ?_⟩, ⟨_, rfl, ?_⟩, trivial⟩ ?_
        · exact (sub_pur (d := .list (dsh sh)) (purs_sh sh)).symm
        · exact (sub_has (by simp [D.has])).symm
        · exact (sub_has (by simp [D.has]; omega)).symm
        · simp [D.sub]
        · refine Ex.nil ⟨rfl, ⟨rfl, rfl, rfl, rfl, trivial⟩, ?_⟩
          have hs2 : (σR E.1 ((br ++ sentOf sh le).map (dbr TT)) (J ++ [[]]) (E.2.map dlt)) = σP E.1 ((br ++ sentOf sh le).map (dbr TT)) (J ++ [[], E.2.map dlt]) := by
            unfold σR σP; simp
          rw [hs2, map_subs]
          · unfold σP
            have e1 : (hcell :: E.1.map dords) ++ ([(br ++ sentOf sh le).map (dbr TT)] ++ (J ++ [[], E.2.map dlt])) = ((hcell :: E.1.map dords) ++ ([(br ++ sentOf sh le).map (dbr TT)] ++ (J ++ [[]]))) ++ [E.2.map dlt] := by simp
            have e2 : 5 + (J ++ [([] : List D)]).length = ((hcell :: E.1.map dords) ++ ([(br ++ sentOf sh le).map (dbr TT)] ++ (J ++ [[]]))).length := by simp [H2]; omega
            rw [e1, e2, List.set_append_right _ _ (Nat.le_refl _), Nat.sub_self]
            simp
          · refine σP_has (by omega) (purs_dbr _ _) fun l hl => ?_
            rcases List.mem_append.mp hl with h | h
            · exact hJ l h
            · simp at h
              rcases h with rfl | rfl
              · rfl
              · exact purs_dlt _
end
end Mine

-- Walk14
namespace Mine
section
variable {prog : Program} {w : World} {hT : Heap} {n : Nat} {env : Env} {ρ : List (Str × D)} {σ : List (List D)} {mg mb : Str → Option Value}

theorem ords_lt (sh : List (List Bool)) (a : Nat) : ∀ j ∈ ords sh a, j < 3 := fun j hj => by simpa using (List.mem_filter.mp hj).1
theorem ords_len (sh : List (List Bool)) (a : Nat) : (ords sh a).length ≤ 3 := by
  have := List.length_filter_le (fun j => bit sh 0 (4 * a + j)) (List.range 3)
  simpa [ords] using this
theorem first_Gd {sh text} (ht : text.length ≤ 100) : ∀ x ∈ first sh text, Gd (lns text) 0 x := fun x hx => by
  obtain ⟨a, ha, hx⟩ := List.mem_flatMap.mp hx
  obtain ⟨j, hj, rfl⟩ := List.mem_map.mp hx
  exact ⟨first_ok ht (by simpa using ha) (ords_lt sh a j hj), Nat.zero_le _, Nat.zero_le _, fun p hp => by cases hp⟩
theorem first_len (sh text) : (first sh text).length ≤ 9 := by
  have := flat_len (fun a => (ords sh a).map (lt0x text a)) 3 (fun a => by rw [List.length_map]; exact ords_len sh a) (List.range 3)
  simpa [first] using this
theorem st0_HeK (sh text) : HeK 3 (st0 sh text).1 where
  three := rfl
  ord := fun l hl => by
    obtain ⟨a, _, rfl⟩ := List.mem_map.mp hl
    exact ords_lt sh a
  few := fun l hl => by
    obtain ⟨a, _, rfl⟩ := List.mem_map.mp hl
    exact ords_len sh a
theorem sent_Gd {TT t sh le} (ht : t ≤ 2) (hg : ∀ x ∈ le, Gd TT t x) : ∀ x ∈ sentOf sh le, Gd TT (t + 1) x := fun x hx => by
  obtain ⟨y, hy, hxy⟩ := List.mem_flatMap.mp hx
  exact (hg y hy).sends ht x hxy
theorem kept_Gd {TT t sh le} (ht : t ≤ 2) (hg : ∀ x ∈ le, Gd TT t x) : ∀ x ∈ keptOf sh le, Gd TT (t + 1) x := fun x hx => by
  obtain ⟨y, hy, hxy⟩ := List.mem_flatMap.mp hx
  exact (hg y hy).keep ht x hxy
theorem st1_Gd {sh text} (ht : text.length ≤ 100) : ∀ x ∈ (st1 sh text).2, Gd (lns text) 1 x :=
  fold_Gd _ (kept_Gd (by omega) (first_Gd ht)) (sent_Gd (by omega) (first_Gd ht))
theorem st1_sent (sh text) : (sentOf sh (st0 sh text).2).length ≤ 27 := by
  have h1 := flat_len (sends sh) 3 (sends_len sh) (first sh text)
  have h2 := first_len sh text
  show ((first sh text).flatMap (sends sh)).length ≤ 27
  omega
theorem st1_len (sh text) : (st1 sh text).2.length ≤ 36 := by
  have h1 := fold_len (sentOf sh (st0 sh text).2) ((st0 sh text).1, keptOf sh (st0 sh text).2)
  have h2 := st1_sent sh text
  have h3 := flat_len (keep1 sh) 1 (keep_len sh) (first sh text)
  have h4 := first_len sh text
  show ((sentOf sh (st0 sh text).2).foldl recv1 ((st0 sh text).1, keptOf sh (st0 sh text).2)).2.length ≤ 36
  rw [h1]
  show ((first sh text).flatMap (keep1 sh)).length + _ ≤ 36
  omega
theorem st1_HeK {sh text} (ht : text.length ≤ 100) : HeK 30 (st1 sh text).1 := by
  have := fold_HeK (sentOf sh (st0 sh text).2) (p := ((st0 sh text).1, keptOf sh (st0 sh text).2)) (st0_HeK sh text) (fun y hy => (sent_Gd (by omega) (first_Gd ht) y hy).ok.hj)
  have h2 := st1_sent sh text
  exact this.up (by omega)
theorem st2_HeK {sh text} (ht : text.length ≤ 100) : HeK 138 (st2 sh text).1 := by
  have := fold_HeK (sentOf sh (st1 sh text).2) (p := ((st1 sh text).1, keptOf sh (st1 sh text).2)) (st1_HeK ht) (fun y hy => (sent_Gd (by omega) (st1_Gd ht) y hy).ok.hj)
  have h1 := flat_len (sends sh) 3 (sends_len sh) (st1 sh text).2
  have h2 := st1_len sh text
  refine this.up ?_
  show 30 + ((st1 sh text).2.flatMap (sends sh)).length ≤ 138
  omega

/-- all the letters that came -/
def brs (sh : List (List Bool)) (text : List Nat) : List Lt := sentOf sh (st0 sh text).2 ++ sentOf sh (st1 sh text).2
def dheard (he : List (List Nat)) : D := .list (he.map fun l => D.list (dords l))
def dplay (sh : List (List Bool)) (text : List Nat) : D := .tup [dheard (st2 sh text).1, .list ((brs sh text).map (dbr (lns text)))]

theorem lets0_first (sh text) : lets0 sh text 3 = (first sh text).map dlt := by
  unfold lets0 first
  rw [List.map_flatMap]
  congr 1
  funext a
  rw [List.map_map]; rfl
theorem dplay_pur (sh text) : (dplay sh text).pur = true := by
  have h1 := purs_dbr (lns text) (brs sh text)
  have h2 : D.purs ((st2 sh text).1.map fun l => D.list (dords l)) = true := by
    rw [purs_iff]
    intro e he
    obtain ⟨l, _, rfl⟩ := List.mem_map.mp he
    exact purs_strs _
  show (D.purs _ && (D.purs _ && true)) = true
  rw [h1, h2]; rfl

theorem w_ret (sh : List (List Bool)) (le : List Lt) (e0 e1 e2 br : List D) (p0 : D.purs e0 = true) (p1 : D.purs e1 = true) (p2 : D.purs e2 = true) (pb : D.purs br = true) (pm code doc L f) :
    Ex prog w hT 2 (pEnv pm code doc L f) (base3 sh le []) [hcell, e0, e1, e2, br, [], [], [], []] ((defAt 35).body.drop 4) (fun fl _ _ => fl = .ret (.tup [.list [.list e0, .list e1, .list e2], .list br])) := by
  refine Ex.freezeIn (x := Str.ofString "heard") (k0 := 0) (l0 := hcell) (k := 1) (l := e0) (ρ' := [(Str.ofString "heard", .cell 0), (Str.ofString "brought", .cell 4)]) rfl rfl rfl rfl p0 ⟨⟨_, rfl, rfl⟩, ⟨_, rfl, rfl⟩, trivial⟩ ?_
  show Ex prog w hT 2 _ _ [[.list e0, .cell 2, .cell 3], [], D.subs 1 e0 e1, D.subs 1 e0 e2, D.subs 1 e0 br, [], [], [], []] _ _
  rw [subs_pur p1, subs_pur p2, subs_pur pb]
  refine Ex.freezeIn (x := Str.ofString "heard") (k0 := 0) (l0 := [.list e0, .cell 2, .cell 3]) (k := 2) (l := e1) (ρ' := [(Str.ofString "heard", .cell 0), (Str.ofString "brought", .cell 4)]) rfl rfl (by simp [D.hass, D.has]) rfl p1 ⟨⟨_, rfl, rfl⟩, ⟨_, rfl, rfl⟩, trivial⟩ ?_
  show Ex prog w hT 2 _ _ [[.list (D.subs 2 e1 e0), .list e1, .cell 3], [], [], D.subs 2 e1 e2, D.subs 2 e1 br, [], [], [], []] _ _
  rw [subs_pur p0, subs_pur p2, subs_pur pb]
  refine Ex.freezeIn (x := Str.ofString "heard") (k0 := 0) (l0 := [.list e0, .list e1, .cell 3]) (k := 3) (l := e2) (ρ' := [(Str.ofString "heard", .cell 0), (Str.ofString "brought", .cell 4)]) rfl rfl (by simp [D.hass, D.has]) rfl p2 ⟨⟨_, rfl, rfl⟩, ⟨_, rfl, rfl⟩, trivial⟩ ?_
  show Ex prog w hT 2 _ _ [[.list (D.subs 3 e2 e0), .list (D.subs 3 e2 e1), .list e2], [], [], [], D.subs 3 e2 br, [], [], [], []] _ _
  rw [subs_pur p0, subs_pur p1, subs_pur pb]
  have pl : D.purs [.list e0, .list e1, .list e2] = true := by show (D.purs e0 && (D.purs e1 && (D.purs e2 && true))) = true; rw [p0, p1, p2]; rfl
  refine Ex.freezeS (x := Str.ofString "heard") (k := 0) (l := [.list e0, .list e1, .list e2]) (ρ' := [(Str.ofString "heard", .list [.list e0, .list e1, .list e2]), (Str.ofString "brought", .cell 4)]) rfl rfl rfl pl ⟨⟨_, rfl, rfl⟩, ⟨_, rfl, rfl⟩, trivial⟩ ?_
  show Ex prog w hT 2 _ _ [[], [], [], [], D.subs 0 _ br, [], [], [], []] _ _
  rw [subs_pur pb]
  refine Ex.freezeS (x := Str.ofString "brought") (k := 4) (l := br) (ρ' := [(Str.ofString "heard", .list [.list e0, .list e1, .list e2]), (Str.ofString "brought", .list br)]) rfl rfl rfl pb ⟨⟨_, rfl, ?_⟩, ⟨_, rfl, rfl⟩, trivial⟩ ?_
  · exact (sub_pur (d := .list [.list e0, .list e1, .list e2]) pl).symm
  · refine Ex.cons (Ex1.ret ?_ rfl)
    exact Ev.tuple (by exact Evs.cons (by exact Ev.name rfl) (by exact Evs.cons (by exact Ev.name rfl) (by exact Evs.nil))) (small (by simp))

theorem w_play (G : GL hT mg mb) (B : Bt mg mb) (P : Pats hT mg) (d5 : Def hT mg (defAt 5)) (d33 : Def hT mg (defAt 33)) (d34 : Def hT mg (defAt 34)) (d35 : Def hT mg (defAt 35)) {sh : List (List Bool)} (S : Sh sh) (text : List Nat) (ht : text.length ≤ 100) :
    FnN prog w hT mg 3 (defAt 35).name [.list (dsh sh), .str text] (dplay sh text) := by
  refine w_play0 G B d35 S text ht (dplay sh text) (dplay_pur sh text) fun pm code doc L f => ?_
  rw [lets0_first]
  refine Ex.cons (Ex1.forK (ds := [.int 0, .int 1]) (fun t => base3 sh (match t with | 0 => first sh text | 1 => (st1 sh text).2 | _ => (st2 sh text).2) [])
    (fun t => match t with | 0 => σP (st0 sh text).1 [] [] | 1 => σP (st1 sh text).1 ((sentOf sh (st0 sh text).2).map (dbr (lns text))) [[], []] | _ => σP (st2 sh text).1 ((brs sh text).map (dbr (lns text))) [[], [], [], []])
    (EvI.range1 (N := 2) G B.range.1 B.range.2 (by exact Ev.int) (by omega) (by omega)) rfl ⟨rfl, rfl, rfl, rfl, trivial⟩ rfl (fun t d hd => ?_) ?_)
  · match t, hd with
    | 0, hd =>
      refine ⟨_, _, As.name (.inl rfl), ?_⟩
      refine Ex.forget (ρ' := base3 sh (first sh text) []) (Knows.get ⟨rfl, rfl, rfl, rfl, trivial⟩) ?_
      refine Ex.mono (w_turn G B P d5 d33 d34 S (t := 0) (by omega) (first_Gd ht) (by have := first_len sh text; omega) (st0_HeK sh text) (by omega) [] (by simp) [] (by simp) pm code doc L f) fun fl ρ' σ' hp => ?_
      obtain ⟨rfl, h1, rfl⟩ := hp
      exact ⟨h1, rfl⟩
    | 1, hd =>
      refine ⟨_, _, As.name (.inl rfl), ?_⟩
      refine Ex.forget (ρ' := base3 sh (st1 sh text).2 []) (Knows.get ⟨rfl, rfl, rfl, rfl, trivial⟩) ?_
      refine Ex.mono (w_turn G B P d5 d33 d34 S (t := 1) (by omega) (st1_Gd ht) (st1_len sh text) (st1_HeK ht) (by omega) (sentOf sh (st0 sh text).2) (by have := st1_sent sh text; omega) [[], []] (fun l hl => by simp at hl; subst hl; rfl) pm code doc L f) fun fl ρ' σ' hp => ?_
      obtain ⟨rfl, h1, rfl⟩ := hp
      exact ⟨h1, rfl⟩
    | t + 2, hd => cases hd
  · refine Ex.nil ?_
    show Ex prog w hT 2 _ (base3 sh (st2 sh text).2 []) (σP (st2 sh text).1 ((brs sh text).map (dbr (lns text))) [[], [], [], []]) _ _
    have H := (st2_HeK (sh := sh) ht).three
    have hb := purs_dbr (lns text) (brs sh text)
    unfold dplay
    generalize (st2 sh text).1 = he at H ⊢
    generalize ((brs sh text).map (dbr (lns text))) = br at hb ⊢
    match he, H with
    | [h0, h1, h2], _ => exact w_ret sh _ (dords h0) (dords h1) (dords h2) br (purs_strs _) (purs_strs _) (purs_strs _) hb pm code doc L f
end
end Mine

-- Rules18
namespace Mine
section
variable {prog : Program} {w : World} {hT : Heap} {n : Nat} {env : Env} {ρ : List (Str × D)} {σ : List (List D)} {mg mb : Str → Option Value}

/-- evaluated, and a number was drawn -/
structure EvK (prog : Program) (w : World) (hT : Heap) (n : Nat) (env : Env) (ρ : List (Str × D)) (σ : List (List D)) (e : Expr) (d : D) : Prop where of ::
  run : ∀ A, Rm A n → ∀ s μ fz, Sta hT env ρ σ μ fz s → ∀ (Q : Value → Shared → Prop) (E : Value → Shared → Prop),
    (∀ v fz' s', Ext s fz s' fz' → Rep fz' μ d v → 0 < s'.toks → Q v s') → wpAny (model prog w) A (eval e env) Q E s
/-- evaluated where numbers have been drawn -/
structure EvQ (prog : Program) (w : World) (hT : Heap) (n : Nat) (env : Env) (ρ : List (Str × D)) (σ : List (List D)) (e : Expr) (d : D) : Prop where of ::
  run : ∀ A, Rm A n → ∀ s μ fz, Sta hT env ρ σ μ fz s → 0 < s.toks → ∀ (Q : Value → Shared → Prop) (E : Value → Shared → Prop),
    (∀ v fz' s', Ext s fz s' fz' → Rep fz' μ d v → 0 < s'.toks → Q v s') → wpAny (model prog w) A (eval e env) Q E s
structure ExP (prog : Program) (w : World) (hT : Heap) (n : Nat) (env : Env) (ρ : List (Str × D)) (σ : List (List D)) (c : List Stmt) (Post : PostT) : Prop where of ::
  run : ∀ A, Rm A n → ∀ s μ fz, Sta hT env ρ σ μ fz s → 0 < s.toks → ∀ (Q : Flow → Shared → Prop) (E : Value → Shared → Prop),
    (∀ f fl ρ' σ' μ' fz' s', Post fl ρ' σ' → Sta hT env ρ' σ' μ' fz' s' → Step (WF env) s μ fz s' μ' fz' → FlRep fz' μ' fl f → Q f s') → wpAny (model prog w) A (execs c env) Q E s

theorem EvK.cat {l k pos q a} {y : Str} (h1 : Ev prog w hT n env ρ σ l (.str a)) (hs : a.length + y.cps.toList.length ≤ sizeLine) : EvK prog w hT n env ρ σ (.BinOp l .Add (.Constant (.str y) k q) pos) (.str (a ++ y.cps.toList)) := .of fun A hA s μ fz S Q E hQ =>
  wpAny_BinOp (h1.run A hA s μ fz S _ _ fun v1 fz1 s1 X1 r1 => wpAny_Constant_str (wpAny_with_toks (n := 1) (Nat.le_add_left 1 s1.toks)
    ((Op2.add_str hs).run A hA { s1 with toks := s1.toks + 1 } μ fz1 ((S.ext X1).ext (.keep X1.sub (keeps_tok s1 _))) v1 _ r1 ⟨_, by simp; rfl⟩ _ _ fun v fz' s' X r htk => hQ v fz' s' ((X1.trans (.keep X1.sub (keeps_tok s1 _))).trans X) r htk)))
theorem Ev.toQ {e d} (h : Ev prog w hT n env ρ σ e d) : EvQ prog w hT n env ρ σ e d := .of fun A hA s μ fz S ht Q E hQ =>
  wpAny_with_toks (n := 1) ht (h.run A hA s μ fz S _ _ fun v fz' s' X r htk => hQ v fz' s' X r htk)
theorem Ex.consK {t value pos d ρ' xs rest} {Post : PostT} (h : EvK prog w hT n env ρ σ value d) (ha : As prog w hT n env σ t d ρ ρ' xs) (hp : ExP prog w hT n env ρ' σ rest Post)
    (hs : swapsWithSole [t] value pos.line env = pure false := by rfl) (hw : swappedStores [t] value env = pure none := by rfl) (ht : (assignEach [t] env).map (·.2) = [assign t env] := by rfl) :
    Ex prog w hT n env ρ σ (.Assign [t] value pos :: rest) Post := .of fun A hA s μ fz S Q E hQ =>
  wpAny_execs_cons (assign_one (h.run A hA s μ fz S _ _ fun v fz' s' X r htk => wpAny_with_toks (n := 1) htk (ha.run A hA s' μ fz' (S.ext X) v r _ _ fun s2 S2 X2 htk2 =>
    hp.run A hA s2 μ fz' S2 htk2 _ _ fun f2 fl2 ρ2 σ2 μ2 fz2 s3 p2 S3 X3 r2 => hQ f2 fl2 ρ2 σ2 μ2 fz2 s3 p2 S3 ((X.step.trans (X2.step fun a ⟨x, _, h⟩ => .inl h.wf)).trans X3) r2)) hs hw ht)
theorem ExP.consQ {t value pos d ρ' xs rest} {Post : PostT} (h : EvQ prog w hT n env ρ σ value d) (ha : As prog w hT n env σ t d ρ ρ' xs) (hp : ExP prog w hT n env ρ' σ rest Post)
    (hs : swapsWithSole [t] value pos.line env = pure false := by rfl) (hw : swappedStores [t] value env = pure none := by rfl) (ht : (assignEach [t] env).map (·.2) = [assign t env] := by rfl) :
    ExP prog w hT n env ρ σ (.Assign [t] value pos :: rest) Post := .of fun A hA s μ fz S htk0 Q E hQ =>
  wpAny_execs_cons (assign_one (h.run A hA s μ fz S htk0 _ _ fun v fz' s' X r htk => wpAny_with_toks (n := 1) htk (ha.run A hA s' μ fz' (S.ext X) v r _ _ fun s2 S2 X2 htk2 =>
    hp.run A hA s2 μ fz' S2 htk2 _ _ fun f2 fl2 ρ2 σ2 μ2 fz2 s3 p2 S3 X3 r2 => hQ f2 fl2 ρ2 σ2 μ2 fz2 s3 p2 S3 ((X.step.trans (X2.step fun a ⟨x, _, h⟩ => .inl h.wf)).trans X3) r2)) hs hw ht)
theorem ExP.ofEx {c} {Post : PostT} (h : Ex prog w hT n env ρ σ c Post) : ExP prog w hT n env ρ σ c Post := .of fun A hA s μ fz S ht Q E hQ => h.run A hA s μ fz S Q E hQ
theorem ExP.forget {ρ' c} {Post : PostT} (h : ∀ x d, ρ'.lookup x = some d → ρ.lookup x = some d) (hx : ExP prog w hT n env ρ' σ c Post) : ExP prog w hT n env ρ σ c Post := .of
  fun A hA s μ fz S => hx.run A hA s μ fz (S.forget h)

theorem EvQ.replace {o apos k1 k2 q1 q2 pos l r} {y z : Str} (ho : EvQ prog w hT n env ρ σ o (.str l)) (hr : Txt.replace (mkS l) y z = mkS r) (hyz : (y == z) = false) (hl : l.length ≤ 1048576) (hz : z.length ≤ 14)
    (hbase : attributeBase o (Str.ofString "replace") env (eval o env) = eval o env := by rfl) (hline : (apos.endLine == pos.line) = true := by rfl) :
    EvQ prog w hT n env ρ σ (.Call (.Attribute o (Str.ofString "replace") apos) [.Constant (.str y) k1 q1, .Constant (.str z) k2 q2] [] pos) (.str r) := .of fun A hA s μ fz S ht Q E hQ => by
  have hns : starEach [.Constant (.str y) k1 q1, .Constant (.str z) k2 q2] env = [(false, eval (.Constant (.str y) k1 q1) env), (false, eval (.Constant (.str z) k2 q2) env)] := starEach_two rfl rfl
  refine wpAny_Call_method hbase (by rw [hns]; rfl) hline F.plainAttrs_str F.slot_str_replace F.type_str_replace (ho.run A hA s μ fz S ht _ _ fun v fz1 s1 X1 r1 htk => ?_)
  obtain ⟨t, rfl⟩ := r1
  refine ⟨typeIs_str _ _ _, (fun a ha => by cases ha), ?_⟩
  rw [hns]
  refine Calls.callWith_builtin rfl (Calls.evalArgs_plain (Calls.spliced_cons (wpAny_Constant_str (k := k1) (pos := q1) (Calls.spliced_cons (wpAny_Constant_str (k := k2) (pos := q2) (Calls.spliced_nil ?_))))))
  refine wpAny_with_toks (n := 1) (Nat.succ_le_of_lt (Nat.zero_lt_succ _)) (SC.replaceW (x := mkS l) (y := y) (z := z) (Nat.ne_of_gt htk) (Nat.succ_ne_zero _) (Nat.ne_of_lt (Nat.lt_succ_self _)) hyz (by simpa [mkS, Str.length] using hl) hz fun t' k htk2 => ?_)
  exact hQ _ fz1 _ (X1.trans (.keep X1.sub (keeps_tok s1 _))) ⟨t', by rw [hr]; rfl⟩ htk2

theorem EvQ.split {o apos e pos l c parts} (ho : EvQ prog w hT n env ρ σ o (.str l)) (ha : Ev prog w hT n env ρ σ e (.str c)) (hc : c ≠ []) (hsp : Txt.split (mkS l) (mkS c) = parts.map mkS) (hsz : l.length + 2 ≤ sizeLine)
    (hbase : attributeBase o (Str.ofString "split") env (eval o env) = eval o env := by rfl) (hns : starEach [e] env = [(false, eval e env)] := by exact starEach_plain rfl) (hline : (apos.endLine == pos.line) = true := by rfl) :
    EvQ prog w hT n env ρ σ (.Call (.Attribute o (Str.ofString "split") apos) [e] [] pos) (.list (dstrs parts)) := .of fun A hA s μ fz S ht Q E hQ => by
  refine wpAny_Call_method hbase (by rw [hns]; rfl) hline F.plainAttrs_str F.slot_str_split F.type_str_split (ho.run A hA s μ fz S ht _ _ fun v fz1 s1 X1 r1 htk => ?_)
  obtain ⟨t, rfl⟩ := r1
  refine ⟨typeIs_str _ _ _, (fun a ha => by cases ha), ?_⟩
  rw [hns]
  refine wpAny_with_toks (n := 1) htk ?_
  refine Calls.callWith_builtin rfl (Calls.evalArgs_plain (Calls.spliced_cons (ha.run A hA s1 μ fz1 (S.ext X1) _ _ fun v2 fz2 s2 X2 r2 => Calls.spliced_nil ?_)))
  obtain ⟨u, rfl⟩ := r2
  have hl : (mkS l).length = l.length := by simp [mkS, Str.length]
  refine split_run (x := mkS l) (y := mkS c) (by cases c with | nil => exact absurd rfl hc | cons a b => simp [mkS, Str.length]) (fun l' tk h htk2 => ?_) (by rw [hl]; omega) ?_
  · obtain ⟨Y, hy⟩ := new_frozen (o := { cls := .type "list", data := .seq (strValues l').toArray }) X2.sub rfl
    have k2 : Keeps { s2 with heap := s2.heap.push { cls := .type "list", data := .seq (strValues l').toArray } } { s2 with heap := s2.heap.push { cls := .type "list", data := .seq (strValues l').toArray }, toks := tk } := keeps_tok _ _
    exact hQ _ _ _ ((X1.trans X2).trans (Y.trans (.keep Y.sub k2))) ⟨_, _, rfl, ⟨0, hy⟩, reps_of_strs l' parts (h.trans hsp)⟩ htk2
  · have h1 := StrLaws.occ_length_le (mkS l) (mkS c) 0 (mkS l).length ((mkS l).length + 1)
    unfold Builtin.Str.partsBetween
    simp only [List.length_map, List.length_zip, List.length_cons, List.length_append, List.length_nil]
    rw [hl] at h1 ⊢
    exact Nat.le_trans (Nat.min_le_left _ _) (by omega)
end
end Mine

-- Walk15
namespace Mine
def drw (sc : List Int) : List Int := sc.take 4 ++ ([0, 0, 0, 0] : List Int).drop sc.length
def kM : List Int := [33904, 33188, 16912, 10713]
def modeAt (sc : List Int) (i : Nat) : Nat := (((drw sc).getD i 0 + kM.getD i 0).fmod 65536).toNat
def modes (sc : List Int) : List Nat := (List.range 4).map (modeAt sc)
def shOf (sc : List Int) : List (List Bool) := (modes sc).map bitsOf
def fiveS : List Nat := [13, 10, 46, 97, 98]
def tailS : List Nat := [46, 13, 46, 97, 10, 13, 10, 98, 46, 10, 46, 46]
def signs (sc : List Int) : List (List Nat) := ((sc.drop 4).take 8).map fun i => [chr fiveS (i.fmod 5).toNat]
def txt (sc : List Int) : List Nat := joinL [] (signs sc) ++ tailS
theorem drw_len (sc : List Int) : (drw sc).length = 4 := by simp [drw]; omega
theorem drw_get {sc : List Int} {i : Nat} (h : i < 4) : ((drw sc).map D.int)[i]? = some (.int ((drw sc).getD i 0)) := by
  have hl := drw_len sc
  rw [List.getElem?_map, List.getD, List.getElem?_eq_getElem (by omega)]; rfl
theorem kM_get {i : Nat} (h : i < 4) : (kM.map D.int)[i]? = some (.int (kM.getD i 0)) := by
  match i, h with
  | 0, _ => rfl
  | 1, _ => rfl
  | 2, _ => rfl
  | 3, _ => rfl
theorem modeAt_int (sc : List Int) (i : Nat) : ((modeAt sc i : Nat) : Int) = ((drw sc).getD i 0 + kM.getD i 0).fmod 65536 := by
  unfold modeAt
  have := Int.fmod_nonneg_of_pos ((drw sc).getD i 0 + kM.getD i 0) (show (0 : Int) < 65536 by decide)
  omega
theorem modeAt_lt (sc : List Int) (i : Nat) : modeAt sc i < 65536 := by
  have h := modeAt_int sc i
  have := Int.fmod_lt_of_pos ((drw sc).getD i 0 + kM.getD i 0) (show (0 : Int) < 65536 by decide)
  omega
theorem Sh_of (sc : List Int) : Sh (shOf sc) where
  four := by simp [shOf, modes]
  each := fun r hr => by
    have : (shOf sc).getD r [] = bitsOf (modeAt sc r) := by
      match r, hr with
      | 0, _ => rfl
      | 1, _ => rfl
      | 2, _ => rfl
      | 3, _ => rfl
    rw [this]; rfl
theorem fm_len (m : Int) : (fm m).length = 10 := by simp [fm, fmUp]
theorem txt_len (sc : List Int) : (joinL [] (signs sc)).length ≤ 8 := by
  have h := joinL_length [] (signs sc)
  have h2 : (signs sc).map (·.length) = (signs sc).map fun _ => 1 := by
    apply List.map_congr_left
    intro p hp
    obtain ⟨i, _, rfl⟩ := List.mem_map.mp hp
    rfl
  have h3 : ∀ l : List (List Nat), (l.map fun _ => 1).sum = l.length := fun l => by
    induction l with
    | nil => rfl
    | cons a l ih => simp [ih]; omega
  have h4 : (signs sc).length ≤ 8 := by unfold signs; rw [List.length_map, List.length_take]; omega
  rw [h2, h3] at h
  simp at h
  omega
theorem signs_sum (sc : List Int) : ((signs sc).map (·.length)).sum + (signs sc).length * ([] : List Nat).length ≤ 100 := by
  have h2 : (signs sc).map (·.length) = (signs sc).map fun _ => 1 := by
    apply List.map_congr_left
    intro p hp
    obtain ⟨i, _, rfl⟩ := List.mem_map.mp hp
    rfl
  have h3 : ∀ l : List (List Nat), (l.map fun _ => 1).sum = l.length := fun l => by
    induction l with
    | nil => rfl
    | cons a l ih => simp [ih]; omega
  have h4 : (signs sc).length ≤ 8 := by unfold signs; rw [List.length_map, List.length_take]; omega
  rw [h2, h3]; simp; omega
theorem clip_nat (n d k : Nat) : clipN n d (some (k : Int)) = min k n := by
  simp only [clipN]
  rw [if_neg (by omega)]
  omega
theorem dsl_to {α : Type} (l : List α) (k : Nat) : dsl l none (some (k : Int)) = l.take k := by
  unfold dsl
  have h1 : clipN l.length 0 none = 0 := rfl
  rw [h1, clip_nat, List.drop_zero, Nat.sub_zero, List.take_eq_take_iff]
  omega
theorem dsl_from' {α : Type} (l : List α) (k : Nat) : dsl l (some (k : Int)) none = l.drop k := by
  by_cases h : k ≤ l.length
  · exact dsl_from l k h
  · unfold dsl
    rw [clip_nat, Nat.min_eq_right (by omega), List.drop_length, List.drop_of_length_le (by omega)]; simp
theorem dsl_mid {α : Type} (l : List α) (a b : Nat) (hab : a ≤ b) : dsl l (some (a : Int)) (some (b : Int)) = (l.drop a).take (b - a) := by
  unfold dsl
  rw [clip_nat, clip_nat]
  by_cases h : a ≤ l.length
  · rw [Nat.min_eq_left h, List.take_eq_take_iff]; simp; omega
  · rw [show min a l.length = l.length by omega, List.drop_length, List.drop_of_length_le (by omega)]; simp
end Mine

-- Laws9
namespace Mine

theorem getD_mod (he : List (List Nat)) (a o j : Nat) (h : a < he.length) : (he.modify a (· ++ [j])).getD o [] = if o = a then he.getD a [] ++ [j] else he.getD o [] := by
  rw [List.getD, List.getElem?_modify]
  by_cases hoa : o = a
  · subst hoa
    rw [if_pos rfl]
    simp [List.getD, List.getElem?_eq_getElem h]
  · rw [if_neg hoa]
    have : ¬ a = o := fun h => hoa h.symm
    simp [this, List.getD]

theorem recv_len (p : List (List Nat) × List Lt) (x : Lt) : (recv1 p x).1.length = p.1.length := by
  unfold recv1
  show (if newB p.1 x = true then p.1.modify x.a (· ++ [x.j]) else p.1).length = _
  split
  · rw [List.length_modify]
  · rfl
/-- one letter comes: what o has heard -/
theorem recv_heard (o j : Nat) (p : List (List Nat) × List Lt) (x : Lt) (h : x.a < p.1.length) : j ∈ (recv1 p x).1.getD o [] ↔ j ∈ p.1.getD o [] ∨ (x.a = o ∧ x.j = j ∧ okD x = true) := by
  unfold recv1
  show j ∈ (if newB p.1 x = true then p.1.modify x.a (· ++ [x.j]) else p.1).getD o [] ↔ _
  cases hn : newB p.1 x with
  | true =>
    rw [if_pos rfl, getD_mod _ _ _ _ h]
    have hok : okD x = true := (Bool.and_eq_true_iff.mp hn).1
    by_cases hoa : o = x.a
    · subst hoa
      rw [if_pos rfl, List.mem_append, List.mem_singleton]
      constructor
      · rintro (h1 | rfl)
        · exact .inl h1
        · exact .inr ⟨rfl, rfl, hok⟩
      · rintro (h1 | ⟨_, rfl, _⟩)
        · exact .inl h1
        · exact .inr rfl
    · rw [if_neg hoa]
      constructor
      · exact .inl
      · rintro (h1 | ⟨h1, _⟩)
        · exact h1
        · exact absurd h1.symm hoa
  | false =>
    rw [if_neg Bool.false_ne_true]
    constructor
    · exact .inl
    · rintro (h1 | ⟨rfl, rfl, hok⟩)
      · exact h1
      · unfold newB at hn
        rw [hok] at hn
        simpa using hn
theorem fold_heard (o j : Nat) : ∀ (l : List Lt) (p : List (List Nat) × List Lt), p.1.length = 3 → (∀ x ∈ l, x.a < 3) → (j ∈ (l.foldl recv1 p).1.getD o [] ↔ j ∈ p.1.getD o [] ∨ ∃ x ∈ l, x.a = o ∧ x.j = j ∧ okD x = true)
  | [], p, _, _ => by simp
  | x :: l, p, h3, ha => by
    rw [List.foldl_cons, fold_heard o j l (recv1 p x) (by rw [recv_len, h3]) (fun y hy => ha y (by simp [hy])), recv_heard o j p x (by rw [h3]; exact ha x (by simp))]
    constructor
    · rintro ((h | h) | ⟨y, hy, h⟩)
      · exact .inl h
      · exact .inr ⟨x, by simp, h⟩
      · exact .inr ⟨y, by simp [hy], h⟩
    · rintro (h | ⟨y, hy, h⟩)
      · exact .inl (.inl h)
      · rcases List.mem_cons.mp hy with rfl | hy
        · exact .inl (.inr h)
        · exact .inr ⟨y, hy, h⟩
theorem fold_old : ∀ (l : List Lt) (p : List (List Nat) × List Lt) (y : Lt), y ∈ p.2 → y ∈ (l.foldl recv1 p).2
  | [], p, y, h => h
  | x :: l, p, y, h => fold_old l (recv1 p x) y (List.mem_append_left _ h)
theorem fold_from : ∀ (l : List Lt) (p : List (List Nat) × List Lt) (y : Lt), y ∈ (l.foldl recv1 p).2 → y ∈ p.2 ∨ ∃ x ∈ l, ∃ b, y = { x with new := b }
  | [], p, y, h => .inl h
  | x :: l, p, y, h => by
    rcases fold_from l (recv1 p x) y h with h | ⟨z, hz, b, e⟩
    · rcases List.mem_append.mp h with h | h
      · exact .inl h
      · exact .inr ⟨x, by simp, _, List.mem_singleton.mp h⟩
    · exact .inr ⟨z, by simp [hz], b, e⟩
theorem fold_each : ∀ (l : List Lt) (p : List (List Nat) × List Lt) (x : Lt), x ∈ l → ∃ b, { x with new := b } ∈ (l.foldl recv1 p).2
  | z :: l, p, x, h => by
    rcases List.mem_cons.mp h with rfl | h
    · exact ⟨newB p.1 x, fold_old l (recv1 p x) _ (List.mem_append_right _ (List.mem_singleton.mpr rfl))⟩
    · exact fold_each l (recv1 p z) x h
theorem fold_new (o j : Nat) : ∀ (l : List Lt) (p : List (List Nat) × List Lt), p.1.length = 3 → (∀ x ∈ l, x.a < 3) → ¬ j ∈ p.1.getD o [] → (∃ x ∈ l, x.a = o ∧ x.j = j ∧ okD x = true) →
    ∃ x ∈ l, x.a = o ∧ x.j = j ∧ { x with new := true } ∈ (l.foldl recv1 p).2
  | [], p, _, _, _, ⟨x, hx, _⟩ => by cases hx
  | z :: l, p, h3, ha, hn, ⟨x, hx, h⟩ => by
    by_cases hz : z.a = o ∧ z.j = j ∧ okD z = true
    · obtain ⟨h1, h2, hok⟩ := hz
      refine ⟨z, by simp, h1, h2, ?_⟩
      have hb : newB p.1 z = true := by
        unfold newB
        rw [hok, h1, h2]
        simpa using hn
      have : ({ z with new := true } : Lt) ∈ (recv1 p z).2 := by
        unfold recv1
        rw [hb]
        exact List.mem_append_right _ (List.mem_singleton.mpr rfl)
      exact fold_old l _ _ this
    · rcases List.mem_cons.mp hx with rfl | hx
      · exact absurd h hz
      · obtain ⟨y, hy, h1, h2, h3'⟩ := fold_new o j l (recv1 p z) (by rw [recv_len, h3]) (fun y hy => ha y (by simp [hy])) (fun hh => ((recv_heard o j p z (by rw [h3]; exact ha z (by simp))).mp hh).elim hn hz) ⟨x, hx, h⟩
        exact ⟨y, by simp [hy], h1, h2, h3'⟩

theorem mem_first {sh text} {x : Lt} : x ∈ first sh text ↔ ∃ a j, a < 3 ∧ j < 3 ∧ bit sh 0 (4 * a + j) = true ∧ x = lt0x text a j := by
  unfold first
  rw [List.mem_flatMap]
  constructor
  · rintro ⟨a, ha, hx⟩
    obtain ⟨j, hj, rfl⟩ := List.mem_map.mp hx
    have h := List.mem_filter.mp hj
    exact ⟨a, j, by simpa using ha, by simpa using h.1, h.2, rfl⟩
  · rintro ⟨a, j, ha, hj, hb, rfl⟩
    exact ⟨a, by simpa using ha, List.mem_map.mpr ⟨j, List.mem_filter.mpr ⟨by simpa using hj, hb⟩, rfl⟩⟩
theorem mem_sent {sh} {le : List Lt} {x : Lt} : x ∈ sentOf sh le ↔ ∃ y ∈ le, ∃ b, b < 3 ∧ goB sh y b = true ∧ x = sent1 y b := by
  unfold sentOf
  rw [List.mem_flatMap]
  constructor
  · rintro ⟨y, hy, hx⟩
    obtain ⟨b, hb, rfl⟩ := List.mem_map.mp hx
    have h := List.mem_filter.mp hb
    exact ⟨y, hy, b, by simpa using h.1, h.2, rfl⟩
  · rintro ⟨y, hy, b, hb, h, rfl⟩
    exact ⟨y, hy, List.mem_map.mpr ⟨b, List.mem_filter.mpr ⟨by simpa using hb, h⟩, rfl⟩⟩
theorem mem_kept {sh} {le : List Lt} {x : Lt} : x ∈ keptOf sh le → ∃ y ∈ le, y.ch = [] ∧ x = { y with s := quo y.s, new := false, dl := y.dl + 1, m := y.m + 1 } := by
  unfold keptOf
  rw [List.mem_flatMap]
  rintro ⟨y, hy, hx⟩
  unfold keep1 at hx
  split at hx
  · rename_i h
    exact ⟨y, hy, by simpa using (Bool.and_eq_true_iff.mp h).1, List.mem_singleton.mp hx⟩
  · cases hx

/-- the chief's letter goes from a to b in the first round -/
theorem go_first {sh text a j b} : goB sh (lt0x text a j) b = true ↔ b ≠ a ∧ (bit sh 0 (4 * a + 3) = true → bit sh (a + 1) (4 * j + md a b - 1) = true) := by
  unfold goB lt0x
  cases h : bit sh 0 (4 * a + 3) <;> simp [h]
/-- a letter signed by a goes from b to o -/
theorem go_second {sh text a j b c o} : goB sh { sent1 (lt0x text a j) b with new := c } o = true ↔ o ≠ b ∧ a ≠ o ∧ (if bit sh 0 (4 * b + 3) = true then bit sh (b + 1) (4 * j + 1 + md b a) = true else c = true) := by
  unfold goB sent1 lt0x up1
  cases h : bit sh 0 (4 * b + 3) <;> simp [h, and_assoc]
theorem ok_first {text a j b} : okD (sent1 (lt0x text a j) b) = true := by
  unfold okD sent1 lt0x up1
  simp [List.range_succ]
theorem ok_second {text a j b c o} : okD (sent1 { sent1 (lt0x text a j) b with new := c } o) = true := by
  unfold okD sent1 lt0x up1
  simp [List.range_succ]
theorem ok_kept {y : Lt} {text a j o} (hy : y = lt0x text a j) : okD (sent1 { y with s := quo y.s, new := false, dl := y.dl + 1, m := y.m + 1 } o) = false := by
  subst hy
  unfold okD sent1 lt0x up1
  simp [List.range_succ]
end Mine

-- Laws10
namespace Mine

theorem fold_recv_len : ∀ (l : List Lt) (p : List (List Nat) × List Lt), (l.foldl recv1 p).1.length = p.1.length
  | [], p => rfl
  | x :: l, p => by rw [List.foldl_cons, fold_recv_len l, recv_len]
theorem st1_three (sh text) : (st1 sh text).1.length = 3 := fold_recv_len _ _
theorem sent_a {sh} {le : List Lt} : ∀ x ∈ sentOf sh le, x.a < 3 := fun x hx => by
  obtain ⟨y, _, b, hb, _, rfl⟩ := mem_sent.mp hx
  exact hb
theorem heard0 {sh text} {o j : Nat} (ho : o < 3) (hj : j < 3) : j ∈ (st0 sh text).1.getD o [] ↔ bit sh 0 (4 * o + j) = true := by
  have e : (st0 sh text).1.getD o [] = ords sh o := by
    match o, ho with
    | 0, _ => rfl
    | 1, _ => rfl
    | 2, _ => rfl
  rw [e]
  unfold ords
  rw [List.mem_filter]
  simp [hj]
/-- a letter of the first round to o -/
theorem sent_first {sh text} {a j o : Nat} (ha : a < 3) (ho : o < 3) (hj : j < 3) (hao : o ≠ a) (hc : bit sh 0 (4 * a + j) = true) (hg : bit sh 0 (4 * a + 3) = true → bit sh (a + 1) (4 * j + md a o - 1) = true) :
    sent1 (lt0x text a j) o ∈ sentOf sh (first sh text) :=
  mem_sent.mpr ⟨_, mem_first.mpr ⟨a, j, ha, hj, hc, rfl⟩, o, ho, go_first.mpr ⟨hao, hg⟩, rfl⟩
theorem heard1 {sh text} {o j : Nat} (ho : o < 3) (hj : j < 3) : j ∈ (st1 sh text).1.getD o [] ↔ bit sh 0 (4 * o + j) = true ∨ ∃ a, a < 3 ∧ o ≠ a ∧ bit sh 0 (4 * a + j) = true ∧ (bit sh 0 (4 * a + 3) = true → bit sh (a + 1) (4 * j + md a o - 1) = true) := by
  have h := fold_heard o j (sentOf sh (first sh text)) ((st0 sh text).1, keptOf sh (first sh text)) rfl sent_a
  refine h.trans ?_
  refine or_congr (heard0 (text := text) ho hj) ?_
  constructor
  · rintro ⟨x, hx, h1, h2, _⟩
    obtain ⟨y, hy, b, hb, hgo, rfl⟩ := mem_sent.mp hx
    obtain ⟨a, j', ha, hj', hc, rfl⟩ := mem_first.mp hy
    have e1 : b = o := h1
    have e2 : j' = j := h2
    subst e1 e2
    have hg := go_first.mp hgo
    exact ⟨a, ha, hg.1, hc, hg.2⟩
  · rintro ⟨a, ha, hoa, hc, hg⟩
    exact ⟨_, sent_first ha ho hj hoa hc hg, rfl, rfl, ok_first⟩
theorem heard2 {sh text} {o j : Nat} : j ∈ (st2 sh text).1.getD o [] ↔ j ∈ (st1 sh text).1.getD o [] ∨ ∃ x ∈ sentOf sh (st1 sh text).2, x.a = o ∧ x.j = j ∧ okD x = true :=
  fold_heard o j (sentOf sh (st1 sh text).2) ((st1 sh text).1, keptOf sh (st1 sh text).2) (st1_three sh text) sent_a
/-- a letter that came in the first round, as it lies there -/
theorem came {sh text} {y : Lt} (h : y ∈ (st1 sh text).2) : (∃ z ∈ first sh text, z.ch = [] ∧ y = { z with s := quo z.s, new := false, dl := z.dl + 1, m := z.m + 1 }) ∨ ∃ a j b c, a < 3 ∧ j < 3 ∧ b < 3 ∧ bit sh 0 (4 * a + j) = true ∧ b ≠ a ∧ (bit sh 0 (4 * a + 3) = true → bit sh (a + 1) (4 * j + md a b - 1) = true) ∧ y = { sent1 (lt0x text a j) b with new := c } := by
  rcases fold_from (sentOf sh (first sh text)) ((st0 sh text).1, keptOf sh (first sh text)) y h with h | ⟨x, hx, c, rfl⟩
  · exact .inl (mem_kept h)
  · obtain ⟨z, hz, b, hb, hgo, rfl⟩ := mem_sent.mp hx
    obtain ⟨a, j, ha, hj, hc, rfl⟩ := mem_first.mp hz
    have hg := go_first.mp hgo
    exact .inr ⟨a, j, b, c, ha, hj, hb, hc, hg.1, hg.2, rfl⟩

theorem rch_of {sh j a} (ha : a < 3) (h : rchA sh j a = true) : rch sh j = true := List.any_eq_true.mpr ⟨a, by simpa using ha, h⟩
theorem rchA_plain {sh j a} (hc : bit sh 0 (4 * a + j) = true) (hm : bit sh 0 (4 * a + 3) = false) : rchA sh j a = true := by unfold rchA; rw [hc, hm]; rfl
theorem rchA_of {sh j a b} (hc : bit sh 0 (4 * a + j) = true) (hb : b < 3) (h : rchB sh j a b = true) : rchA sh j a = true := by
  have : (List.range 3).any (rchB sh j a) = true := List.any_eq_true.mpr ⟨b, by simpa using hb, h⟩
  unfold rchA; rw [hc, this]; simp

theorem play_fwd {sh text} {o j : Nat} (ho : o < 3) (hj : j < 3) (hm : bit sh 0 (4 * o + 3) = false) (h : j ∈ (st2 sh text).1.getD o []) : rch sh j = true := by
  rcases heard2.mp h with h | ⟨x, hx, h1, h2, hok⟩
  · rcases (heard1 ho hj).mp h with h | ⟨a, ha, hoa, hc, hg⟩
    · exact rch_of ho (rchA_plain h hm)
    · cases hma : bit sh 0 (4 * a + 3) with
      | false => exact rch_of ha (rchA_plain hc hma)
      | true =>
        refine rch_of ha (rchA_of hc ho ?_)
        unfold rchB
        rw [hg hma, hm]
        simp [hoa]
  · obtain ⟨y, hy, o', ho', hgo, rfl⟩ := mem_sent.mp hx
    have e1 : o' = o := h1
    subst e1
    rcases came hy with ⟨z, hz, hz0, rfl⟩ | ⟨a, j', b, c, ha, hj', hb, hc, hba, hg, rfl⟩
    · obtain ⟨a, j', ha, hj', hc, hzz⟩ := mem_first.mp hz
      rw [ok_kept hzz] at hok; cases hok
    · have e2 : j' = j := h2
      subst e2
      obtain ⟨hob, hao, hif⟩ := go_second.mp hgo
      cases hma : bit sh 0 (4 * a + 3) with
      | false => exact rch_of ha (rchA_plain hc hma)
      | true =>
        refine rch_of ha (rchA_of hc hb ?_)
        unfold rchB
        rw [hg hma]
        cases hmb : bit sh 0 (4 * b + 3) with
        | false => simp [hba]
        | true =>
          rw [hmb, if_pos rfl] at hif
          have e3 : 3 - a - b = o' := by omega
          rw [e3, hm, hif]
          simp [hba]

theorem play_bwd {sh text} {o j : Nat} (ho : o < 3) (hj : j < 3) (hm : bit sh 0 (4 * o + 3) = false) (h : rch sh j = true) : j ∈ (st2 sh text).1.getD o [] := by
  obtain ⟨a, ha, hA⟩ := List.any_eq_true.mp h
  have ha : a < 3 := by simpa using ha
  unfold rchA at hA
  obtain ⟨hc, hA⟩ := Bool.and_eq_true_iff.mp hA
  -- one that a true hand has at the start comes to all
  have all : ∀ a, a < 3 → bit sh 0 (4 * a + j) = true → bit sh 0 (4 * a + 3) = false → j ∈ (st2 sh text).1.getD o [] := fun a ha hc hma => by
    refine heard2.mpr (.inl ((heard1 ho hj).mpr ?_))
    by_cases hoa : o = a
    · subst hoa; exact .inl hc
    · exact .inr ⟨a, ha, hoa, hc, fun h => by rw [hma] at h; cases h⟩
  cases hma : bit sh 0 (4 * a + 3) with
  | false => exact all a ha hc hma
  | true =>
    rw [hma] at hA
    have hA : (List.range 3).any (rchB sh j a) = true := by simpa using hA
    obtain ⟨b, hb, hB⟩ := List.any_eq_true.mp hA
    have hb : b < 3 := by simpa using hb
    have hoa : o ≠ a := by rintro rfl; rw [hm] at hma; cases hma
    unfold rchB at hB
    obtain ⟨hB, hC⟩ := Bool.and_eq_true_iff.mp hB
    obtain ⟨hba, hf⟩ := Bool.and_eq_true_iff.mp hB
    have hba : b ≠ a := by simpa using hba
    have hsent : sent1 (lt0x text a j) b ∈ sentOf sh (first sh text) := sent_first ha hb hj hba hc (fun _ => hf)
    cases hmb : bit sh 0 (4 * b + 3) with
    | false =>
      by_cases hob : o = b
      · subst hob
        exact heard2.mpr (.inl ((heard1 ho hj).mpr (.inr ⟨a, ha, hoa, hc, fun _ => hf⟩)))
      · cases hcb : bit sh 0 (4 * b + j) with
        | true => exact all b hb hcb hmb
        | false =>
          obtain ⟨x, hx, h1, h2, h3⟩ := fold_new b j (sentOf sh (first sh text)) ((st0 sh text).1, keptOf sh (first sh text)) rfl sent_a
            (fun hh => by rw [(heard0 (text := text) hb hj).mp hh] at hcb; cases hcb) ⟨_, hsent, rfl, rfl, ok_first⟩
          obtain ⟨y, hy, b', hb', hgo, rfl⟩ := mem_sent.mp hx
          obtain ⟨a', j', ha', hj', hc', rfl⟩ := mem_first.mp hy
          have e1 : b' = b := h1
          have e2 : j' = j := h2
          subst e1 e2
          have hg := go_first.mp hgo
          by_cases hao : a' = o
          · subst hao
            exact heard2.mpr (.inl ((heard1 ho hj).mpr (.inl hc')))
          · refine heard2.mpr (.inr ⟨sent1 { sent1 (lt0x text a' j') b' with new := true } o, mem_sent.mpr ⟨_, h3, o, ho, go_second.mpr ⟨hob, hao, ?_⟩, rfl⟩, rfl, rfl, ok_second⟩)
            rw [hmb]; rfl
    | true =>
      rw [hmb] at hC
      have hC : bit sh 0 (4 * (3 - a - b) + 3) = false ∧ bit sh (b + 1) (4 * j + 1 + md b a) = true := by simpa using hC
      have hob : o ≠ b := by rintro rfl; rw [hm] at hmb; cases hmb
      obtain ⟨c, hx⟩ := fold_each (sentOf sh (first sh text)) ((st0 sh text).1, keptOf sh (first sh text)) _ hsent
      refine heard2.mpr (.inr ⟨sent1 { sent1 (lt0x text a j) b with new := c } o, mem_sent.mpr ⟨_, hx, o, ho, go_second.mpr ⟨hob, Ne.symm hoa, ?_⟩, rfl⟩, rfl, rfl, ok_second⟩)
      rw [hmb, if_pos rfl]; exact hC.2

/-- THE LAW OF THE PLAY: what a true hand believes in the end -/
theorem play_law (sh text) {o j : Nat} (ho : o < 3) (hj : j < 3) (hm : bit sh 0 (4 * o + 3) = false) : ((st2 sh text).1.getD o []).contains j = rch sh j := by
  rw [Bool.eq_iff_iff]
  rw [List.contains_iff_mem]
  exact ⟨play_fwd ho hj hm, play_bwd ho hj hm⟩

/-- quoted m times -/
theorem dqn_eq (m : Nat) (x : List Nat) : dqn m x = if x.head? = some 46 then List.replicate m 46 ++ x else x := by
  induction m with
  | zero => show x = _; split <;> simp
  | succ m ih =>
    show dq (dqn m x) = _
    rw [ih]
    by_cases h : x.head? = some 46
    · rw [if_pos h, if_pos h]
      cases m with
      | zero =>
        cases x with
        | nil => cases h
        | cons c x =>
          have : c = 46 := by simpa using h
          subst this; rfl
      | succ m => rw [List.replicate_succ]; rfl
    · rw [if_neg h, if_neg h]
      cases x with
      | nil => rfl
      | cons c x =>
        have : c ≠ 46 := by simpa using h
        show (if c = 46 then _ else _) = _
        rw [if_neg this]
end Mine

-- Walk16
namespace Mine

abbrev lEnv (pm : Value) (code : Value) (doc : Value) (L f : Addr) : Env := callEnvC (PySem.Calls.docDef (defAt 37).name (defAt 37).params (defAt 37).body (defAt 37).scope pm code doc) L f

theorem lk_one {cells : List (Str × Addr)} {x0 : Str} {c0 : Addr} (h : cells.lookup x0 = some c0) : ∀ x c, ([(x0, c0)] : List (Str × Addr)).lookup x = some c → cells.lookup x = some c := fun x c e => by
  rw [List.lookup_cons] at e
  cases hx : x == x0 with
  | true => rw [hx] at e; cases e; rw [beq_iff_eq.mp hx]; exact h
  | false => rw [hx] at e; cases e
theorem lk_two {cells : List (Str × Addr)} {x0 x1 : Str} {c0 c1 : Addr} (h : cells.lookup x0 = some c0) (h1 : cells.lookup x1 = some c1) : ∀ x c, ([(x0, c0), (x1, c1)] : List (Str × Addr)).lookup x = some c → cells.lookup x = some c := fun x c e => by
  rw [List.lookup_cons] at e
  cases hx : x == x0 with
  | true => rw [hx] at e; cases e; rw [beq_iff_eq.mp hx]; exact h
  | false => rw [hx] at e; exact lk_one h1 x c e
theorem not_local {k : Option NameKind} (h : k = some .cell) : k ≠ some .local := by rw [h]; decide
theorem not_local' {k : Option NameKind} (h : k = some .free) : k ≠ some .local := by rw [h]; decide

def dints (l : List Nat) : List D := l.map fun k : Nat => D.int (k : Int)
def gNat (g : Nat → D) : D → D
  | .int k => g k.toNat
  | d => d
theorem map_gNat (g : Nat → D) (l : List Nat) : (dints l).map (gNat g) = l.map g := by
  unfold dints; rw [List.map_map]; rfl
theorem mem_dints {l : List Nat} {d : D} (h : d ∈ dints l) : ∃ k ∈ l, d = .int (k : Int) := by
  obtain ⟨k, hk, rfl⟩ := List.mem_map.mp h
  exact ⟨k, hk, rfl⟩
theorem drawn_eq (sc : List Int) : dsl (sc.map D.int) none (some 4) ++ dsl [D.int 0, .int 0, .int 0, .int 0] (some ((sc.map D.int).length : Int)) none = (drw sc).map D.int := by
  have h1 := dsl_to (sc.map D.int) 4
  have h2 := dsl_from' [D.int 0, .int 0, .int 0, .int 0] (sc.map D.int).length
  rw [List.length_map] at h2 ⊢
  have h3 : dsl (sc.map D.int) none (some 4) ++ dsl [D.int 0, .int 0, .int 0, .int 0] (some (sc.length : Int)) none = (sc.map D.int).take 4 ++ [D.int 0, .int 0, .int 0, .int 0].drop sc.length := by
    rw [h2]; exact congrArg (· ++ _) h1
  refine h3.trans ?_
  unfold drw
  rw [List.map_append, List.map_take, List.map_drop]; rfl

section
variable {prog : Program} {w : World} {hT : Heap} {n : Nat} {env : Env} {ρ : List (Str × D)} {σ : List (List D)} {mg mb : Str → Option Value}

theorem lw_a (G : GL hT mg mb) (T : Bt mg mb) (d7 : Def hT mg (defAt 7)) (d28 : Def hT mg (defAt 28)) (d31 : Def hT mg (defAt 31)) (ht : ∃ v, mg (Str.ofString "_filemode_table") = some v ∧ Rep hT.get? [] (.tup (fmTab.map drow)) v)
    (sc : List Int) (hlen : sc.length ≤ 63) (pm code doc L f) {Post : PostT}
    (hc : Ex prog w hT 3 (lEnv pm code doc L f) [(Str.ofString "script", .list (sc.map D.int)), (Str.ofString "modes", .list (dints (modes sc))), (Str.ofString "shown", .list (dsh (shOf sc)))] [] ((defAt 37).body.drop 3) Post) :
    Ex prog w hT 3 (lEnv pm code doc L f) [(Str.ofString "script", .list (sc.map D.int))] [] (defAt 37).body Post := by
  refine Ex.cons (Ex1.assign (d := .list ((drw sc).map D.int)) ?_ (As.name (.inr ⟨rfl, _, rfl⟩)) ?_)
  · rw [← drawn_eq]
    refine Ev.bin (d1 := .list (dsl (sc.map D.int) none (some 4))) (Ev.slice_list (Ev.name rfl) EvP.none (EvP.some Ev.int) (small (by simp; omega))) (Ev.slice_list (Ev.list ?_ (small (by simp))) (EvP.some ?_) EvP.none (small (by simp))) (Op2.add_list (small ?_))
    · exact Evs.cons (by exact Ev.int) (by exact Evs.cons (by exact Ev.int) (by exact Evs.cons (by exact Ev.int) (by exact Evs.cons (by exact Ev.int) (by exact Evs.nil))))
    · exact Ev.builtin G T.len.1 T.len.2 (by exact Evs.cons (by exact Ev.name rfl) (by exact Evs.nil)) (by exact OpN.len_list (small (by simp; omega)))
    · have h1 := congrArg List.length (drawn_eq sc)
      rw [List.length_append, List.length_map (as := drw sc), drw_len] at h1
      omega
  refine Ex.cons (Ex1.assign_comp (d := .list (dints (modes sc))) ?_ rfl ?_)
  · have e : dints (modes sc) = ((List.range (Int.toNat 4)).map fun i : Nat => D.int (i : Int)).map (gNat fun i => .int (modeAt sc i : Nat)) := by
      have := map_gNat (fun i => .int (modeAt sc i : Nat)) (List.range (Int.toNat 4))
      refine Eq.trans ?_ this.symm
      unfold dints modes
      rw [List.map_map]; rfl
    rw [e]
    refine EvL.map (cl := [(Str.ofString "drawn", L + 1)]) (ρc := [(Str.ofString "drawn", .list ((drw sc).map D.int))]) (gNat fun i => .int (modeAt sc i : Nat)) (EvI.range1 (N := 4) G T.range.1 T.range.2 (by exact Ev.int) (by omega) (by omega)).toX ?_ ?_ (small (by simp)) (fun C l d hd => ?_) ?_
    · exact ⟨rfl, rfl, by decide, lk_one rfl⟩
    · exact ⟨⟨rfl, fun C => .inl rfl, not_local rfl, ⟨L + 1, fun C => rfl, rfl⟩⟩, trivial⟩
    · obtain ⟨i, hi, rfl⟩ := List.mem_map.mp hd
      have hi : i < 4 := by simpa using hi
      refine ⟨_, _, As.name (.inl rfl), ?_, AllV.get ⟨rfl, trivial⟩, ?_⟩
      · intro x hx; rw [List.mem_singleton.mp hx]; rfl
      · show Ev _ _ _ _ _ _ _ _ (.int (modeAt sc i : Nat))
        rw [modeAt_int]
        refine Ev.bin (d1 := .int ((drw sc).getD i 0 + kM.getD i 0)) (Ev.bin (d1 := .int ((drw sc).getD i 0)) (d2 := .int (kM.getD i 0)) ?_ ?_ Op2.add_int) Ev.int (Op2.mod_int (by decide))
        · exact Ev.elt (j := i) (l := (drw sc).map D.int) (by exact Ev.name rfl) (by exact Ev.name rfl) rfl (drw_get hi) (by omega)
        · refine Ev.elt (j := i) (l := kM.map D.int) (Ev.list ?_ (small (by simp [kM]))) (Ev.name rfl) rfl (kM_get hi) (by omega)
          exact Evs.cons (by exact Ev.int) (by exact Evs.cons (by exact Ev.int) (by exact Evs.cons (by exact Ev.int) (by exact Evs.cons (by exact Ev.int) (by exact Evs.nil))))
    · rw [← e]; exact hass_of_purs (purs_ints _)
  refine Ex.cons (Ex1.assign (d := .list (dsh (shOf sc))) ?_ (As.name (.inr ⟨rfl, _, rfl⟩)) ?_)
  · have e : dsh (shOf sc) = (dints (modes sc)).map (gNat fun m => .list (bl (bitsOf m))) := by
      rw [map_gNat]
      unfold dsh shOf
      rw [List.map_map]; rfl
    rw [e]
    refine Ev.ofL (EvL.map (cl := []) (ρc := []) (gNat fun m => .list (bl (bitsOf m))) (EvI.list (Ev.name rfl)).toX ?_ trivial (small (by simp [dints, modes])) (fun C l d hd => ?_) ?_)
    · exact ⟨rfl, rfl, by decide, fun x c h => by cases h⟩
    · obtain ⟨m, _, rfl⟩ := mem_dints hd
      refine ⟨_, _, As.name (.inl rfl), fun x hx => rfl, (fun x d h => by cases h), ?_⟩
      show Ev _ _ _ _ _ _ _ _ (.list (bl (bitsOf m)))
      rw [← held_fm]
      exact Ev.fn G (w_held G T d31 (fm m) (fm_len m)) (by exact Evs.cons (by exact Ev.fn G (w_fm G T d28 d7 ht m) (by exact Evs.cons (by exact Ev.name rfl) (by exact Evs.nil)) (by omega)) (by exact Evs.nil)) (by omega)
    · rw [← e]; exact hass_of_purs (purs_sh _)
  exact Ex.forget (ρ' := [(Str.ofString "script", .list (sc.map D.int)), (Str.ofString "modes", .list (dints (modes sc))), (Str.ofString "shown", .list (dsh (shOf sc)))]) (Knows.get ⟨rfl, rfl, rfl, trivial⟩) hc
end
end Mine

-- Walk17
namespace Mine

theorem fiveS_lt (i : Int) : (i.fmod 5).toNat < 5 ∧ i.fmod 5 = ((i.fmod 5).toNat : Int) := by
  have h1 := Int.fmod_nonneg_of_pos i (show (0 : Int) < 5 by decide)
  have h2 := Int.fmod_lt_of_pos i (show (0 : Int) < 5 by decide)
  omega
def gInt (g : Int → D) : D → D
  | .int k => g k
  | d => d
theorem map_gInt (g : Int → D) (l : List Int) : (l.map D.int).map (gInt g) = l.map g := by
  rw [List.map_map]; rfl

section
variable {prog : Program} {w : World} {hT : Heap} {n : Nat} {env : Env} {ρ : List (Str × D)} {σ : List (List D)} {mg mb : Str → Option Value}

theorem len_txt (sc : List Int) : (txt sc).length ≤ 20 := by
  have := txt_len sc
  unfold txt
  rw [List.length_append]
  have : tailS.length = 12 := rfl
  omega

/-- the text -/
theorem lw_b (G : GL hT mg mb) (T : Bt mg mb) (sc : List Int) (hlen : sc.length ≤ 63) (pm code doc L f) {Post : PostT}
    (hc : ExP prog w hT 3 (lEnv pm code doc L f) [(Str.ofString "modes", .list (dints (modes sc))), (Str.ofString "shown", .list (dsh (shOf sc))), (Str.ofString "text", .str (txt sc))] [] ((defAt 37).body.drop 4) Post) :
    Ex prog w hT 3 (lEnv pm code doc L f) [(Str.ofString "script", .list (sc.map D.int)), (Str.ofString "modes", .list (dints (modes sc))), (Str.ofString "shown", .list (dsh (shOf sc)))] [] ((defAt 37).body.drop 3) Post := by
  refine Ex.consK (d := .str (txt sc)) (EvK.cat (a := joinL [] (signs sc)) ?_ (small ?_)) (As.name (.inl rfl)) ?_
  · refine Ev.join (sep := []) Ev.str ?_ (small (by have := signs_sum sc; omega))
    have hd : ((sc.drop 4).take 8).map D.int = dsl (sc.map D.int) (some 4) (some 12) := by
      have := dsl_mid (sc.map D.int) 4 12 (by omega)
      refine Eq.trans ?_ this.symm
      rw [List.map_take, List.map_drop]
    have e : dstrs (signs sc) = (dsl (sc.map D.int) (some 4) (some 12)).map (gInt fun i => .str [chr fiveS (i.fmod 5).toNat]) := by
      rw [← hd, map_gInt]
      unfold dstrs signs
      rw [List.map_map]; rfl
    rw [e]
    refine Ev.ofL (EvL.map (cl := []) (ρc := []) (gInt fun i => .str [chr fiveS (i.fmod 5).toNat]) (EvI.list (Ev.slice_list (Ev.name rfl) (EvP.some Ev.int) (EvP.some Ev.int) (small (by simp; omega)))).toX ?_ trivial ?_ (fun C l d hd2 => ?_) ?_)
    · exact ⟨rfl, rfl, by decide, fun x c h => by cases h⟩
    · rw [← hd]
      refine small ?_
      rw [List.length_map, List.length_take]; omega
    · rw [← hd] at hd2
      obtain ⟨i, _, rfl⟩ := List.mem_map.mp hd2
      refine ⟨_, _, As.name (.inl rfl), fun x hx => rfl, (fun x d h => by cases h), ?_⟩
      show Ev _ _ _ _ _ _ _ _ (.str [chr fiveS (i.fmod 5).toNat])
      obtain ⟨h1, h2⟩ := fiveS_lt i
      exact Ev.chr (l := fiveS) (by exact Ev.str) (by exact Ev.bin (by exact Ev.name rfl) (by exact Ev.int) (by exact Op2.mod_int (by decide))) h2 h1 (by omega)
    · rw [← e]; exact hass_of_purs (purs_strs _)
  · have := txt_len sc
    show (joinL [] (signs sc)).length + 12 ≤ 10000
    omega
  · exact ExP.forget (ρ' := [(Str.ofString "modes", .list (dints (modes sc))), (Str.ofString "shown", .list (dsh (shOf sc))), (Str.ofString "text", .str (txt sc))]) (Knows.get ⟨rfl, rfl, rfl, trivial⟩) hc

theorem r1_len : ∀ s : List Nat, (r1 s).length ≤ s.length
  | [] => Nat.le_refl _
  | [c] => Nat.le_refl _
  | c :: d :: r => by
    rw [r1_cons]
    have h1 := r1_len r
    have h2 := r1_len (d :: r)
    split
    · simp; omega
    · simp at h2 ⊢; omega
theorem r2_len (s : List Nat) : (r2 s).length = s.length := by simp [r2]

/-- the play and the lines -/
theorem lw_c (G : GL hT mg mb) (T : Bt mg mb) (P : Pats hT mg) (d5 : Def hT mg (defAt 5)) (d33 : Def hT mg (defAt 33)) (d34 : Def hT mg (defAt 34)) (d35 : Def hT mg (defAt 35)) (sc : List Int) (pm code doc L f) {Post : PostT}
    (hc : Ex prog w hT 3 (lEnv pm code doc L f) [(Str.ofString "modes", .list (dints (modes sc))), (Str.ofString "shown", .list (dsh (shOf sc))), (Str.ofString "heard", dheard (st2 (shOf sc) (txt sc)).1), (Str.ofString "brought", .list ((brs (shOf sc) (txt sc)).map (dbr (lns (txt sc))))), (Str.ofString "lines", .list (dstrs (lns (txt sc))))] [] ((defAt 37).body.drop 6) Post) :
    ExP prog w hT 3 (lEnv pm code doc L f) [(Str.ofString "modes", .list (dints (modes sc))), (Str.ofString "shown", .list (dsh (shOf sc))), (Str.ofString "text", .str (txt sc))] [] ((defAt 37).body.drop 4) Post := by
  have hl := len_txt sc
  refine ExP.consQ (d := dplay (shOf sc) (txt sc)) (Ev.toQ ?_) (As.tuple (.cons (.inr ⟨rfl, _, rfl⟩) (.cons (.inl rfl) (.nil _)))) ?_
  · exact Ev.fn G (w_play G T P d5 d33 d34 d35 (Sh_of sc) (txt sc) (by omega)) (by exact Evs.cons (by exact Ev.name rfl) (by exact Evs.cons (by exact Ev.name rfl) (by exact Evs.nil))) (by omega)
  refine ExP.consQ (d := .list (dstrs (lns (txt sc)))) ?_ (As.name (.inr ⟨rfl, _, rfl⟩)) ?_
  · have h1 := r1_len (txt sc)
    have h2 := r2_len (r1 (txt sc))
    refine EvQ.split (l := r2 (r1 (txt sc))) (c := [10]) (EvQ.replace (l := r1 (txt sc)) (EvQ.replace (l := txt sc) (Ev.toQ (Ev.name rfl)) (replace_crlf _) ?_ (by omega) ?_) (replace_cr _) ?_ (by omega) ?_) Ev.str (by simp) (split_lines _) (small (by omega))
    · decide +kernel
    · decide +kernel
    · decide +kernel
    · decide +kernel
  · exact ExP.ofEx (Ex.forget (ρ' := [(Str.ofString "modes", .list (dints (modes sc))), (Str.ofString "shown", .list (dsh (shOf sc))), (Str.ofString "heard", dheard (st2 (shOf sc) (txt sc)).1), (Str.ofString "brought", .list ((brs (shOf sc) (txt sc)).map (dbr (lns (txt sc))))), (Str.ofString "lines", .list (dstrs (lns (txt sc))))]) (Knows.get ⟨rfl, rfl, rfl, rfl, rfl, trivial⟩) hc)
end
end Mine

-- Walk18
namespace Mine

theorem dqn_if (m : Nat) (x : List Nat) : dqn m x = if (dsl x none (some 1) == [46]) = true then (List.replicate m [46]).flatten ++ x else x := by
  rw [dqn_eq, rep_dot]
  have h1 : dsl x none (some 1) = x.take 1 := dsl_to x 1
  rw [h1]
  cases x with
  | nil => rfl
  | cons c x =>
    by_cases h : c = 46
    · subst h; rfl
    · rw [if_neg (by simpa using h), if_neg (by simpa using h)]
def gStr (g : List Nat → D) : D → D
  | .str k => g k
  | d => d
theorem map_gStr (g : List Nat → D) (l : List (List Nat)) : (dstrs l).map (gStr g) = l.map g := by
  unfold dstrs; rw [List.map_map]; rfl
theorem brs_m {sh text} (ht : text.length ≤ 100) : ∀ x ∈ brs sh text, x.m ≤ 3 := fun x hx => by
  rcases List.mem_append.mp hx with h | h
  · exact (sent_Gd (by omega) (first_Gd ht) x h).ok.hm
  · exact (sent_Gd (by omega) (st1_Gd ht) x h).ok.hm
theorem brs_len (sh text) : (brs sh text).length ≤ 200 := by
  have h0 := st1_sent sh text
  have h1 := flat_len (sends sh) 3 (sends_len sh) (st1 sh text).2
  have h2 := st1_len sh text
  unfold brs
  rw [List.length_append]
  have h3 : (sentOf sh (st1 sh text).2).length ≤ 3 * (st1 sh text).2.length := h1
  omega

section
variable {prog : Program} {w : World} {hT : Heap} {n : Nat} {env : Env} {ρ : List (Str × D)} {σ : List (List D)} {mg mb : Str → Option Value}

theorem EvT.of_eq {e b c} (h : EvT prog w hT n env ρ σ e b) (hb : b = c) : EvT prog w hT n env ρ σ e c := hb ▸ h
theorem Ev.of_eq {e d d'} (h : Ev prog w hT n env ρ σ e d) (hb : d = d') : Ev prog w hT n env ρ σ e d' := hb ▸ h

/-- no letter brought anything else -/
theorem lw_d (sc : List Int) (pm code doc L f) {Post : PostT}
    (hc : Ex prog w hT 3 (lEnv pm code doc L f) [(Str.ofString "modes", .list (dints (modes sc))), (Str.ofString "shown", .list (dsh (shOf sc))), (Str.ofString "heard", dheard (st2 (shOf sc) (txt sc)).1)] [] ((defAt 37).body.drop 7) Post) :
    Ex prog w hT 3 (lEnv pm code doc L f) [(Str.ofString "modes", .list (dints (modes sc))), (Str.ofString "shown", .list (dsh (shOf sc))), (Str.ofString "heard", dheard (st2 (shOf sc) (txt sc)).1), (Str.ofString "brought", .list ((brs (shOf sc) (txt sc)).map (dbr (lns (txt sc))))), (Str.ofString "lines", .list (dstrs (lns (txt sc))))] [] ((defAt 37).body.drop 6) Post := by
  have hl := len_txt sc
  have hsz := lns_size (txt sc)
  refine Ex.cons (Ex1.ite (c := false) ?_ (fun h => by cases h) (fun _ => Ex.nil (Ex.forget (ρ' := [(Str.ofString "modes", .list (dints (modes sc))), (Str.ofString "shown", .list (dsh (shOf sc))), (Str.ofString "heard", dheard (st2 (shOf sc) (txt sc)).1)]) (Knows.get ⟨rfl, rfl, rfl, trivial⟩) hc)))
  refine EvT.cmp (d1 := .list []) (d2 := .list []) ?_ (Ev.list Evs.nil (small (by simp))) Op2.ne_nil
  have e : ([] : List D) = ((brs (shOf sc) (txt sc)).map (dbr (lns (txt sc)))).filterMap fun _ => none := by
    induction (brs (shOf sc) (txt sc)).map (dbr (lns (txt sc))) with
    | nil => rfl
    | cons a l ih => exact ih
  rw [e]
  refine Ev.ofL (EvL.fm (cl := [(Str.ofString "lines", L + 4)]) (ρc := [(Str.ofString "lines", .list (dstrs (lns (txt sc))))]) (fun _ => none) (EvI.list (Ev.name rfl)).toX ?_ ?_ (small (by have := brs_len (shOf sc) (txt sc); rw [List.length_map]; omega)) (fun C l d hd => ?_) ?_)
  · exact ⟨rfl, rfl, by decide, lk_one rfl⟩
  · exact ⟨⟨rfl, fun C => .inl rfl, not_local rfl, ⟨L + 4, fun C => rfl, rfl⟩⟩, trivial⟩
  · obtain ⟨x, hx, rfl⟩ := List.mem_map.mp hd
    have hm := brs_m (by omega) x hx
    refine ⟨_, _, false, As.tuple (.cons (.inr ⟨rfl, _, rfl⟩) (.cons (.inl rfl) (.nil _))), ?_, ?_, EvIf.one ?_, fun _ => rfl, fun h => by cases h⟩
    · intro y hy
      rcases List.mem_cons.mp hy with rfl | hy
      · rfl
      · rw [List.mem_singleton.mp hy]; rfl
    · exact AllV.get ⟨rfl, trivial⟩
    · have e0 : false = !(((lns (txt sc)).map (dqn (x.m + 1))) == ((lns (txt sc)).map (dqn (x.m + 1)))) := by simp
      refine EvT.of_eq (EvT.cmp (d1 := .list (dstrs ((lns (txt sc)).map (dqn (x.m + 1))))) (d2 := .list (dstrs ((lns (txt sc)).map (dqn (x.m + 1))))) (Ev.name rfl) ?_ Op2.ne_strs) e0.symm
      have e1 : dstrs ((lns (txt sc)).map (dqn (x.m + 1))) = (dstrs (lns (txt sc))).map (gStr fun y => .str (dqn (x.m + 1) y)) := by
        rw [map_gStr]
        unfold dstrs
        rw [List.map_map]; rfl
      rw [e1]
      refine Ev.ofL (EvL.map (cl := [(Str.ofString "more", C + 1)]) (ρc := [(Str.ofString "more", .int (x.m + 1 : Nat))]) (gStr fun y => .str (dqn (x.m + 1) y)) (EvI.list (Ev.name rfl)).toX ?_ ?_ (small (by have := hsz.1; simp only [dstrs, List.length_map]; omega)) (fun C2 l2 d2 hd2 => ?_) ?_)
      · exact ⟨rfl, rfl, by decide, lk_one rfl⟩
      · exact ⟨⟨rfl, fun C => .inl rfl, not_local rfl, ⟨C + 1, fun C => rfl, rfl⟩⟩, trivial⟩
      · obtain ⟨y, hy, rfl⟩ := List.mem_map.mp hd2
        have hyl := hsz.2 y hy
        refine ⟨_, _, As.name (.inl rfl), ?_, AllV.get ⟨rfl, trivial⟩, ?_⟩
        · intro z hz; rw [List.mem_singleton.mp hz]; rfl
        · show Ev _ _ _ _ _ _ _ _ (.str (dqn (x.m + 1) y))
          rw [dqn_if]
          refine Ev.ifexp (c := (dsl y none (some 1) == [46])) (EvT.cmp (Ev.slice_str (Ev.name rfl) EvP.none (EvP.some Ev.int) (small (by omega))) Ev.str Op2.eq_str) (fun h => ?_) (fun h => ?_)
          · rw [if_pos h]
            refine Ev.cat (Ev.bin (d1 := .str [46]) (d2 := .int ((x.m + 1 : Nat) : Int)) Ev.str (Ev.name rfl) (Op2.mul_str (by omega) (by omega) (by simp))) (Ev.name rfl) (small ?_)
            rw [rep_dot, List.length_replicate]; omega
          · rw [if_neg (by rw [h]; exact Bool.false_ne_true)]
            exact Ev.name rfl
      · rw [← e1]; exact hass_of_purs (purs_strs _)
  · rw [← e]; rfl
end
end Mine

-- Walk19
namespace Mine

theorem fmod_nat (a b : Nat) : (a : Int).fmod (b : Int) = ((a % b : Nat) : Int) := by
  cases a with
  | zero => simp
  | succ a => rfl
theorem fdiv_nat (a b : Nat) : (a : Int).fdiv (b : Int) = ((a / b : Nat) : Int) := by
  cases a with
  | zero => simp
  | succ a => rfl
/-- a right, as it is in the end -/
def rgtAt (sh : List (List Bool)) (f : Nat → Bool) (n : Nat) : Bool := if (n % 4 == 3 || bit sh 0 (n / 4 * 4 + 3)) = true then bit sh 0 n else f n
def aftF (sh : List (List Bool)) (text : List Nat) (n : Nat) : Bool := ((st2 sh text).1.getD (n / 4) []).contains (n % 4)
def tolF (sh : List (List Bool)) (n : Nat) : Bool := rch sh (n % 4)
theorem end_eq (sh text) {n : Nat} (hn : n < 12) : rgtAt sh (aftF sh text) n = rgtAt sh (tolF sh) n := by
  unfold rgtAt
  cases h : (n % 4 == 3 || bit sh 0 (n / 4 * 4 + 3)) with
  | true => rfl
  | false =>
    have h' := Bool.or_eq_false_iff.mp h
    have h1 : n % 4 ≠ 3 := by simpa using h'.1
    rw [if_neg Bool.false_ne_true, if_neg Bool.false_ne_true]
    exact play_law sh text (o := n / 4) (j := n % 4) (by omega) (by omega) (by rw [Nat.mul_comm]; exact h'.2)
def gBool (f : Nat → Bool) : D → D := gNat fun k => .bool (f k)
theorem bl_range (f : Nat → Bool) (k : Nat) : D.list (bl ((List.range k).map f)) = .list (((List.range ((k : Int).toNat)).map fun i : Nat => D.int (i : Int)).map (gBool f)) := by
  have := map_gNat (fun k => .bool (f k)) (List.range ((k : Int).toNat))
  unfold gBool
  rw [show ((List.range ((k : Int).toNat)).map fun i : Nat => D.int (i : Int)) = dints (List.range ((k : Int).toNat)) from rfl, this]
  unfold bl
  rw [List.map_map]; rfl

section
variable {prog : Program} {w : World} {hT : Heap} {n : Nat} {env : Env} {ρ : List (Str × D)} {σ : List (List D)} {mg mb : Str → Option Value}

theorem EvT.or2 {x y pos b c} (hx : EvT prog w hT n env ρ σ x b) (hy : b = false → EvT prog w hT n env ρ σ y c) : EvT prog w hT n env ρ σ (.BoolOp .Or [x, y] pos) (b || c) := by
  cases b with
  | true => exact EvT.or hx (fun h => by cases h) (fun _ => rfl)
  | false =>
    refine EvT.or hx (fun _ => ?_) (fun h => by cases h)
    have h2 := hy rfl
    cases c with
    | true => exact EvT.or h2 (fun h => by cases h) (fun _ => rfl)
    | false => exact EvT.or h2 (fun _ => EvT.or_nil) (fun h => by cases h)

theorem Ev.nmod {x : Str} {p k q pos} {a b : Nat} (h : ρ.lookup x = some (.int (a : Int))) (hb : b ≠ 0) (hd : (x == ("__debug__" : Str)) = false := by decide) (hc : (x == ("__classdict__" : Str)) = false := by decide) :
    Ev prog w hT n env ρ σ (.BinOp (.Name x p) .Mod (.Constant (.int (b : Int)) k q) pos) (.int (a % b : Nat)) := by
  rw [← fmod_nat]
  exact Ev.bin (by exact Ev.name h hd hc) (by exact Ev.int) (by exact Op2.mod_int (by omega))
theorem Ev.ndiv {x : Str} {p k q pos} {a b : Nat} (h : ρ.lookup x = some (.int (a : Int))) (hb : b ≠ 0) (hp : Builtin.divisionGoesByPylong (a : Int) (b : Int) = false) (hd : (x == ("__debug__" : Str)) = false := by decide) (hc : (x == ("__classdict__" : Str)) = false := by decide) :
    Ev prog w hT n env ρ σ (.BinOp (.Name x p) .FloorDiv (.Constant (.int (b : Int)) k q) pos) (.int (a / b : Nat)) := by
  rw [← fdiv_nat]
  exact Ev.bin (by exact Ev.name h hd hc) (by exact Ev.int) (by exact Op2.floordiv_int (by omega) hp)

/-- the rights behind the play -/
theorem lw_e (G : GL hT mg mb) (T : Bt mg mb) (sc : List Int) (pm code doc L f) {Post : PostT}
    (hc : Ex prog w hT 3 (lEnv pm code doc L f) [(Str.ofString "modes", .list (dints (modes sc))), (Str.ofString "after", .list (bl ((List.range 12).map (rgtAt (shOf sc) (aftF (shOf sc) (txt sc))))))] [] ((defAt 37).body.drop 8) Post) :
    Ex prog w hT 3 (lEnv pm code doc L f) [(Str.ofString "modes", .list (dints (modes sc))), (Str.ofString "shown", .list (dsh (shOf sc))), (Str.ofString "heard", dheard (st2 (shOf sc) (txt sc)).1)] [] ((defAt 37).body.drop 7) Post := by
  have hl := len_txt sc
  have H := st2_HeK (sh := shOf sc) (text := txt sc) (by omega)
  have S := Sh_of sc
  refine Ex.cons (Ex1.assign (d := .list (bl ((List.range 12).map (rgtAt (shOf sc) (aftF (shOf sc) (txt sc)))))) ?_ (As.name (.inr ⟨rfl, _, rfl⟩)) (Ex.forget (ρ' := [(Str.ofString "modes", .list (dints (modes sc))), (Str.ofString "after", .list (bl ((List.range 12).map (rgtAt (shOf sc) (aftF (shOf sc) (txt sc))))))]) (Knows.get ⟨rfl, rfl, trivial⟩) hc))
  rw [bl_range]
  refine Ev.ofL (EvL.map (cl := [(Str.ofString "shown", L + 2), (Str.ofString "heard", L + 3)]) (ρc := [(Str.ofString "heard", dheard (st2 (shOf sc) (txt sc)).1), (Str.ofString "shown", .list (dsh (shOf sc)))]) (gBool (rgtAt (shOf sc) (aftF (shOf sc) (txt sc)))) (EvI.range1 (N := 12) G T.range.1 T.range.2 (by exact Ev.int) (by omega) (by omega)).toX ?_ ?_ (small (by simp)) (fun C l d hd => ?_) ?_)
  · exact ⟨rfl, rfl, by decide, lk_two rfl rfl⟩
  · exact ⟨⟨rfl, fun C => .inl rfl, not_local rfl, ⟨L + 3, fun C => rfl, rfl⟩⟩, ⟨rfl, fun C => .inl rfl, not_local rfl, ⟨L + 2, fun C => rfl, rfl⟩⟩, trivial⟩
  · obtain ⟨i, hi, rfl⟩ := List.mem_map.mp hd
    have hi : i < 12 := by simpa using hi
    refine ⟨_, _, As.name (.inl rfl), ?_, AllV.get ⟨rfl, rfl, trivial⟩, ?_⟩
    · intro x hx; rw [List.mem_singleton.mp hx]; rfl
    · show Ev _ _ _ _ _ _ _ _ (.bool (rgtAt (shOf sc) (aftF (shOf sc) (txt sc)) i))
      unfold rgtAt
      refine Ev.ifexp (c := (i % 4 == 3 || bit (shOf sc) 0 (i / 4 * 4 + 3))) (EvT.or2 ?_ (fun _ => ?_)) (fun h => ?_) (fun h => ?_)
      · have e : (i % 4 == 3) = (((i % 4 : Nat) : Int) == 3) := by rw [Bool.eq_iff_iff]; simp; omega
        rw [e]
        exact EvT.cmp (by exact Ev.nmod (b := 4) rfl (by omega)) (by exact Ev.int) (by exact Op2.eq_int)
      · refine EvT.plain (Ev.bit (i1 := 0) (i2 := ((i / 4 : Nat) : Int) * 4 + 3) (r := 0) (c := i / 4 * 4 + 3) S (Ev.name rfl) Ev.int ?_ rfl (by push_cast; rfl) (by omega) (by omega)) Tru.bool
        exact Ev.bin (by exact Ev.bin (by exact Ev.ndiv (b := 4) rfl (by omega) rfl) (by exact Ev.int) (by exact Op2.mul_int (IntMulOk.of_right (by decide)))) (by exact Ev.int) (by exact Op2.add_int)
      · rw [if_pos h]
        exact Ev.bit (i1 := 0) (i2 := (i : Int)) (r := 0) (c := i) S (by exact Ev.name rfl) (by exact Ev.int) (by exact Ev.name rfl) rfl rfl (by omega) (by omega)
      · rw [if_neg (by rw [h]; exact Bool.false_ne_true)]
        have h1 : i % 4 ≠ 3 := by
          have := (Bool.or_eq_false_iff.mp h).1
          simpa using this
        unfold aftF
        generalize (st2 (shOf sc) (txt sc)).1 = he at H ⊢
        have h4 : i / 4 < he.length := by rw [H.three]; omega
        have hg : he[i / 4]? = some (he.getD (i / 4) []) := by rw [List.getD, List.getElem?_eq_getElem h4]; rfl
        have hord : ∀ k ∈ he.getD (i / 4) [], k < 3 := H.ord _ (List.mem_of_getElem? hg)
        rw [← rwx_contains (by omega) _ hord]
        refine Ev.cmp (d1 := .str [chr rwx (i % 4)]) (d2 := .list (dords (he.getD (i / 4) []))) ?_ ?_ Op2.in_strs
        · exact Ev.chr (l := rwx) (by exact Ev.str) (by exact Ev.nmod (b := 4) rfl (by omega)) rfl (show i % 4 < 3 by omega) (by omega)
        · refine Ev.elt (j := i / 4) (l := he.map fun l => D.list (dords l)) (by exact Ev.name rfl) (by exact Ev.ndiv (b := 4) rfl (by omega) rfl) rfl ?_ (by omega)
          rw [List.getElem?_map, hg]; rfl
  · refine hass_of_purs ?_
    rw [purs_iff]
    intro e he
    obtain ⟨c, hc, rfl⟩ := List.mem_map.mp he
    obtain ⟨i, _, rfl⟩ := List.mem_map.mp hc
    rfl

/-- the modes' bits -/
theorem lw_f (G : GL hT mg mb) (d30 : Def hT mg (defAt 30)) (sc : List Int) (aft : List Bool) (pm code doc L f) {Post : PostT}
    (hc : Ex prog w hT 3 (lEnv pm code doc L f) [(Str.ofString "modes", .list (dints (modes sc))), (Str.ofString "after", .list (bl aft)), (Str.ofString "bits", .list (dsh (shOf sc)))] [] ((defAt 37).body.drop 9) Post) :
    Ex prog w hT 3 (lEnv pm code doc L f) [(Str.ofString "modes", .list (dints (modes sc))), (Str.ofString "after", .list (bl aft))] [] ((defAt 37).body.drop 8) Post := by
  refine Ex.cons (Ex1.assign (d := .list (dsh (shOf sc))) ?_ (As.name (.inr ⟨rfl, _, rfl⟩)) hc)
  have e : dsh (shOf sc) = (dints (modes sc)).map (gNat fun m => .list (bl (bitsOf m))) := by
    rw [map_gNat]
    unfold dsh shOf
    rw [List.map_map]; rfl
  rw [e]
  refine Ev.ofL (EvL.map (cl := []) (ρc := []) (gNat fun m => .list (bl (bitsOf m))) (EvI.list (Ev.name rfl)).toX ?_ trivial (small (by simp [dints, modes])) (fun C l d hd => ?_) ?_)
  · exact ⟨rfl, rfl, by decide, fun x c h => by cases h⟩
  · obtain ⟨m, _, rfl⟩ := mem_dints hd
    refine ⟨_, _, As.name (.inr ⟨rfl, _, rfl⟩), fun x hx => rfl, (fun x d h => by cases h), ?_⟩
    show Ev _ _ _ _ _ _ _ _ (.list (bl (bitsOf m)))
    have e1 : bl (bitsOf m) = (bitsL.map D.int).map (gInt fun b => .bool (((m : Int).fdiv b).fmod 2 == 1)) := by
      rw [map_gInt]
      have : ∀ k : Nat, m.testBit k = ((((m : Int).fdiv ((2 ^ k : Nat) : Int)).fmod 2) == 1) := fun k => by
        have h2 := fmod_nat (m / 2 ^ k) 2
        rw [fdiv_nat, ← div_bit]
        rw [show ((2 : Nat) : Int) = 2 from rfl] at h2
        rw [h2, Bool.eq_iff_iff, beq_iff_eq, beq_iff_eq]
        generalize m / 2 ^ k % 2 = q
        omega
      show [D.bool (m.testBit 8), .bool (m.testBit 7), .bool (m.testBit 6), .bool (m.testBit 11), .bool (m.testBit 5), .bool (m.testBit 4), .bool (m.testBit 3), .bool (m.testBit 10), .bool (m.testBit 2), .bool (m.testBit 1), .bool (m.testBit 0), .bool (m.testBit 9)] = _
      rw [this 8, this 7, this 6, this 11, this 5, this 4, this 3, this 10, this 2, this 1, this 0, this 9]
      rfl
    rw [e1]
    refine Ev.ofL (EvL.map (cl := [(Str.ofString "mode", C + 1)]) (ρc := [(Str.ofString "mode", .int (m : Int))]) (gInt fun b => .bool (((m : Int).fdiv b).fmod 2 == 1)) (EvI.list (Ev.fn0 G (w_bits G d30) (by omega))).toX ?_ ?_ (small (by simp [bitsL])) (fun C2 l2 d2 hd2 => ?_) ?_)
    · exact ⟨rfl, rfl, by decide, lk_one rfl⟩
    · exact ⟨⟨rfl, fun C => .inl rfl, not_local rfl, ⟨C + 1, fun C => rfl, rfl⟩⟩, trivial⟩
    · obtain ⟨b, hb, rfl⟩ := List.mem_map.mp hd2
      have hb0 : b ≠ 0 ∧ Builtin.divisionGoesByPylong (m : Int) b = false := by
        simp only [bitsL, List.mem_cons, List.not_mem_nil, or_false] at hb
        rcases hb with rfl | rfl | rfl | rfl | rfl | rfl | rfl | rfl | rfl | rfl | rfl | rfl <;> exact ⟨by decide, rfl⟩
      refine ⟨_, _, As.name (.inl rfl), ?_, AllV.get ⟨rfl, trivial⟩, ?_⟩
      · intro z hz; rw [List.mem_singleton.mp hz]; rfl
      · show Ev _ _ _ _ _ _ _ _ (.bool (((m : Int).fdiv b).fmod 2 == 1))
        exact Ev.cmp (by exact Ev.bin (by exact Ev.bin (by exact Ev.name rfl) (by exact Ev.name rfl) (by exact Op2.floordiv_int hb0.1 hb0.2)) (by exact Ev.int) (by exact Op2.mod_int (by decide))) (by exact Ev.int) (by exact Op2.eq_int)
    · rw [← e1]; exact hass_of_purs (purs_bl _)
  · rw [← e]; exact hass_of_purs (purs_sh _)
end
end Mine

-- Walk20
namespace Mine

theorem sum_fm (a : Nat → Bool) (v : Nat → Int) : ∀ l : List Nat, (l.filterMap fun n => if a n = true then some (v n) else none).sum = (l.map fun n => v n * ((a n).toNat : Int)).sum
  | [] => rfl
  | n :: l => by
    have ih := sum_fm a v l
    rw [List.map_cons, List.sum_cons, ← ih, List.filterMap_cons]
    cases h : a n with
    | true => simp
    | false => simp
def vals (a : Nat → Bool) : List Int := (List.range 12).filterMap fun n => if a n = true then some (bitsL.getD n 0) else none
theorem vals_sum (a : Nat → Bool) : (vals a).sum = 256 * ((a 0).toNat : Int) + 128 * ((a 1).toNat : Int) + 64 * ((a 2).toNat : Int) + 2048 * ((a 3).toNat : Int) + 32 * ((a 4).toNat : Int) + 16 * ((a 5).toNat : Int) + 8 * ((a 6).toNat : Int) + 1024 * ((a 7).toNat : Int) + 4 * ((a 8).toNat : Int) + 2 * ((a 9).toNat : Int) + ((a 10).toNat : Int) + 512 * ((a 11).toNat : Int) := by
  unfold vals
  rw [sum_fm]
  show ([256 * ((a 0).toNat : Int), 128 * ((a 1).toNat : Int), 64 * ((a 2).toNat : Int), 2048 * ((a 3).toNat : Int), 32 * ((a 4).toNat : Int), 16 * ((a 5).toNat : Int), 8 * ((a 6).toNat : Int), 1024 * ((a 7).toNat : Int), 4 * ((a 8).toNat : Int), 2 * ((a 9).toNat : Int), 1 * ((a 10).toNat : Int), 512 * ((a 11).toNat : Int)] : List Int).sum = _
  simp only [List.sum_cons, List.sum_nil]
  omega
/-- the listing tells the rights -/
theorem fm_vals (kind : Nat) (hk : kind < 16) (a : Nat → Bool) : fm ((kind : Int) * 4096 + (vals a).sum) = rowOf kind ((List.range 12).map a) := by
  have e : (kind : Int) * 4096 + (vals a).sum = ((kind * 4096 + 256 * (a 0).toNat + 128 * (a 1).toNat + 64 * (a 2).toNat + 2048 * (a 3).toNat + 32 * (a 4).toNat + 16 * (a 5).toNat + 8 * (a 6).toNat + 1024 * (a 7).toNat + 4 * (a 8).toNat + 2 * (a 9).toNat + (a 10).toNat + 512 * (a 11).toNat : Nat) : Int) := by
    rw [vals_sum]; push_cast; omega
  rw [e]
  exact row_fm kind hk _ _ _ _ _ _ _ _ _ _ _ _ _ rfl

section
variable {prog : Program} {w : World} {hT : Heap} {n : Nat} {env : Env} {ρ : List (Str × D)} {σ : List (List D)} {mg mb : Str → Option Value}

theorem lw_g (G : GL hT mg mb) (T : Bt mg mb) (d36 : Def hT mg (defAt 36)) (sc : List Int) (aft : List Bool) (pm code doc L f) {Post : PostT}
    (hc : Ex prog w hT 3 (lEnv pm code doc L f) [(Str.ofString "modes", .list (dints (modes sc))), (Str.ofString "after", .list (bl aft)), (Str.ofString "told", .list (bl ((List.range 12).map (rgtAt (shOf sc) (tolF (shOf sc))))))] [] ((defAt 37).body.drop 10) Post) :
    Ex prog w hT 3 (lEnv pm code doc L f) [(Str.ofString "modes", .list (dints (modes sc))), (Str.ofString "after", .list (bl aft)), (Str.ofString "bits", .list (dsh (shOf sc)))] [] ((defAt 37).body.drop 9) Post := by
  have S := Sh_of sc
  refine Ex.cons (Ex1.assign_comp (d := .list (bl ((List.range 12).map (rgtAt (shOf sc) (tolF (shOf sc)))))) ?_ rfl (Ex.forget (ρ' := [(Str.ofString "modes", .list (dints (modes sc))), (Str.ofString "after", .list (bl aft)), (Str.ofString "told", .list (bl ((List.range 12).map (rgtAt (shOf sc) (tolF (shOf sc))))))]) (Knows.get ⟨rfl, rfl, rfl, trivial⟩) hc))
  rw [bl_range]
  refine EvL.map (cl := [(Str.ofString "bits", L + 6)]) (ρc := [(Str.ofString "bits", .list (dsh (shOf sc)))]) (gBool (rgtAt (shOf sc) (tolF (shOf sc)))) (EvI.range1 (N := 12) G T.range.1 T.range.2 (by exact Ev.int) (by omega) (by omega)).toX ?_ ?_ (small (by simp)) (fun C l d hd => ?_) ?_
  · exact ⟨rfl, rfl, by decide, lk_one rfl⟩
  · exact ⟨⟨rfl, fun C => .inl rfl, not_local rfl, ⟨L + 6, fun C => rfl, rfl⟩⟩, trivial⟩
  · obtain ⟨i, hi, rfl⟩ := List.mem_map.mp hd
    have hi : i < 12 := by simpa using hi
    refine ⟨_, _, As.name (.inl rfl), ?_, AllV.get ⟨rfl, trivial⟩, ?_⟩
    · intro x hx; rw [List.mem_singleton.mp hx]; rfl
    · show Ev _ _ _ _ _ _ _ _ (.bool (rgtAt (shOf sc) (tolF (shOf sc)) i))
      unfold rgtAt
      refine Ev.ifexp (c := (i % 4 == 3 || bit (shOf sc) 0 (i / 4 * 4 + 3))) (EvT.or2 ?_ (fun _ => ?_)) (fun h => ?_) (fun h => ?_)
      · have e : (i % 4 == 3) = (((i % 4 : Nat) : Int) == 3) := by rw [Bool.eq_iff_iff]; simp; omega
        rw [e]
        exact EvT.cmp (by exact Ev.nmod (b := 4) rfl (by omega)) (by exact Ev.int) (by exact Op2.eq_int)
      · refine EvT.plain (Ev.bit (i1 := 0) (i2 := ((i / 4 : Nat) : Int) * 4 + 3) (r := 0) (c := i / 4 * 4 + 3) S (Ev.name rfl) Ev.int ?_ rfl (by push_cast; rfl) (by omega) (by omega)) Tru.bool
        exact Ev.bin (by exact Ev.bin (by exact Ev.ndiv (b := 4) rfl (by omega) rfl) (by exact Ev.int) (by exact Op2.mul_int (IntMulOk.of_right (by decide)))) (by exact Ev.int) (by exact Op2.add_int)
      · rw [if_pos h]
        exact Ev.bit (i1 := 0) (i2 := (i : Int)) (r := 0) (c := i) S (by exact Ev.name rfl) (by exact Ev.int) (by exact Ev.name rfl) rfl rfl (by omega) (by omega)
      · rw [if_neg (by rw [h]; exact Bool.false_ne_true)]
        have h1 : i % 4 ≠ 3 := by
          have := (Bool.or_eq_false_iff.mp h).1
          simpa using this
        exact Ev.fn G (w_reached G T d36 S (j := i % 4) (by omega)) (by exact Evs.cons (by exact Ev.name rfl) (by exact Evs.cons (by exact Ev.nmod (b := 4) rfl (by omega)) (by exact Evs.nil))) (by omega)
  · refine hass_of_purs ?_
    rw [purs_iff]
    intro e he
    obtain ⟨c, hc, rfl⟩ := List.mem_map.mp he
    obtain ⟨i, _, rfl⟩ := List.mem_map.mp hc
    rfl

theorem lw_h (G : GL hT mg mb) (T : Bt mg mb) (d7 : Def hT mg (defAt 7)) (d28 : Def hT mg (defAt 28)) (d30 : Def hT mg (defAt 30)) (d32 : Def hT mg (defAt 32)) (ht : ∃ v, mg (Str.ofString "_filemode_table") = some v ∧ Rep hT.get? [] (.tup (fmTab.map drow)) v)
    (sc : List Int) (a : Nat → Bool) (tl : List Bool) (htl : tl = (List.range 12).map a) (pm code doc L f) :
    Ex prog w hT 3 (lEnv pm code doc L f) [(Str.ofString "modes", .list (dints (modes sc))), (Str.ofString "after", .list (bl ((List.range 12).map a))), (Str.ofString "told", .list (bl tl))] [] ((defAt 37).body.drop 10) (fun fl _ _ => fl = .ret (.bool true)) := by
  have hk : modeAt sc 0 / 4096 < 16 := by have := modeAt_lt sc 0; omega
  refine Ex.cons (Ex1.assign (d := .int (modeAt sc 0 / 4096 : Nat)) ?_ (As.name (.inl rfl)) ?_)
  · rw [← fdiv_nat]
    refine Ev.bin (d1 := .int (modeAt sc 0 : Nat)) (d2 := .int ((4096 : Nat) : Int)) ?_ Ev.int (Op2.floordiv_int (by decide) rfl)
    exact Ev.elt (j := 0) (l := dints (modes sc)) (by exact Ev.name rfl) (by exact Ev.int) rfl rfl (by omega)
  · generalize modeAt sc 0 / 4096 = kind at hk ⊢
    refine Ex.cons (Ex1.ret (d := .bool true) ?_ rfl)
    have hfin : (fm ((kind : Int) * 4096 + (vals a).sum) == rowOf kind tl) = true := by rw [fm_vals kind hk, htl]; simp
    refine Ev.of_eq (Ev.cmp (d1 := .str (fm ((kind : Int) * 4096 + (vals a).sum))) (d2 := .str (rowOf kind tl)) ?_ ?_ Op2.eq_str) (congrArg D.bool hfin)
    · refine Ev.fn G (w_fm G T d28 d7 ht _) (Evs.cons (Ev.bin (d1 := .int ((kind : Int) * 4096)) (d2 := .int (vals a).sum) ?_ ?_ Op2.add_int) Evs.nil) (by omega)
      · exact Ev.bin (by exact Ev.name rfl) (by exact Ev.int) (by exact Op2.mul_int (IntMulOk.of_right (by decide)))
      · refine Ev.builtin G T.sum.1 T.sum.2 (ds := [.list ((vals a).map D.int)]) (Evs.cons ?_ Evs.nil) OpN.sum
        let g : D → Option D := fun d => match d with
          | .int k => if a k.toNat = true then some (.int (bitsL.getD k.toNat 0)) else none
          | d => none
        have e : (vals a).map D.int = ((List.range (Int.toNat 12)).map fun i : Nat => D.int (i : Int)).filterMap g := by
          unfold vals
          rw [List.map_filterMap, List.filterMap_map]
          congr 1
          funext k
          show Option.map D.int (if a k = true then some (bitsL.getD k 0) else none) = if a k = true then some (.int (bitsL.getD k 0)) else none
          cases a k <;> rfl
        rw [e]
        refine Ev.ofL (EvL.fm (cl := [(Str.ofString "after", L + 5)]) (ρc := [(Str.ofString "after", .list (bl ((List.range 12).map a)))]) g (EvI.range1 (N := 12) G T.range.1 T.range.2 (by exact Ev.int) (by omega) (by omega)).toX ?_ ?_ (small (by simp)) (fun C l d hd => ?_) ?_)
        · exact ⟨rfl, rfl, by decide, lk_one rfl⟩
        · exact ⟨⟨rfl, fun C => .inl rfl, not_local rfl, ⟨L + 5, fun C => rfl, rfl⟩⟩, trivial⟩
        · obtain ⟨i, hi, rfl⟩ := List.mem_map.mp hd
          have hi : i < 12 := by simpa using hi
          refine ⟨_, _, a i, As.name (.inl rfl), ?_, AllV.get ⟨rfl, trivial⟩, EvIf.one ?_, fun h => ?_, fun h => ⟨.int (bitsL.getD i 0), ?_, ?_⟩⟩
          · intro x hx; rw [List.mem_singleton.mp hx]; rfl
          · refine EvT.plain (Ev.elt (j := i) (l := bl ((List.range 12).map a)) (d := .bool (a i)) (Ev.name rfl) (Ev.name rfl) rfl ?_ (by omega)) Tru.bool
            show (((List.range 12).map a).map D.bool)[i]? = _
            rw [List.getElem?_map, List.getElem?_map, List.getElem?_range hi]; rfl
          · show (if a i = true then _ else _) = _
            rw [if_neg (by rw [h]; exact Bool.false_ne_true)]
          · refine Ev.elt (j := i) (l := bitsL.map D.int) (Ev.fn0 G (w_bits G d30) (by omega)) (Ev.name rfl) rfl ?_ (by omega)
            have hb : i < bitsL.length := hi
            rw [List.getElem?_map, List.getD, List.getElem?_eq_getElem hb]; rfl
          · show (if a i = true then _ else _) = _
            rw [if_pos h]; rfl
        · rw [← e]
          refine hass_of_purs ?_
          rw [purs_iff]
          intro x hx
          obtain ⟨c, _, rfl⟩ := List.mem_map.mp hx
          rfl
    · exact Ev.fn G (w_row G T d32 kind hk tl (by rw [htl]; simp)) (by exact Evs.cons (by exact Ev.name rfl) (by exact Evs.cons (by exact Ev.name rfl) (by exact Evs.nil))) (by omega)

/-- THE LAW -/
theorem w_law (G : GL hT mg mb) (T : Bt mg mb) (P : Pats hT mg) (hd : ∀ i ∈ [5, 7, 28, 30, 31, 32, 33, 34, 35, 36, 37], Def hT mg (defAt i)) (ht : ∃ v, mg (Str.ofString "_filemode_table") = some v ∧ Rep hT.get? [] (.tup (fmTab.map drow)) v)
    (sc : List Int) (hlen : sc.length ≤ 63) : FnN prog w hT mg 4 (defAt 37).name [.list (sc.map D.int)] (.bool true) := by
  have pur : D.purs (sc.map D.int) = true := by
    rw [purs_iff]
    intro x hx
    obtain ⟨c, _, rfl⟩ := List.mem_map.mp hx
    rfl
  refine FnN.mk (xs := [Str.ofString "script"]) G (hd 37 (by simp)) (fun pm code doc vs hv => ?_) (fun N x hx => ?_) (by decide) rfl (by simp [D.purs, D.pur, pur]) rfl fun pm code doc L f => ?_
  · match vs, hv with
    | [v], _ => rfl
  · simp at hx; subst hx; left; rfl
  · refine lw_a G T (hd 7 (by simp)) (hd 28 (by simp)) (hd 31 (by simp)) ht sc hlen pm code doc L f ?_
    refine lw_b G T sc hlen pm code doc L f ?_
    refine lw_c G T P (hd 5 (by simp)) (hd 33 (by simp)) (hd 34 (by simp)) (hd 35 (by simp)) sc pm code doc L f ?_
    refine lw_d sc pm code doc L f ?_
    refine lw_e G T sc pm code doc L f ?_
    refine lw_f G (hd 30 (by simp)) sc _ pm code doc L f ?_
    refine lw_g G T (hd 36 (by simp)) sc _ pm code doc L f ?_
    refine lw_h G T (hd 7 (by simp)) (hd 28 (by simp)) (hd 30 (by simp)) (hd 32 (by simp)) ht sc _ _ ?_ pm code doc L f
    apply List.map_congr_left
    intro n hn
    exact (end_eq (shOf sc) (txt sc) (by simpa using hn)).symm
end
end Mine

-- Join1
namespace Mine

mutual
def repK (K : Frag) : D → Value → Bool
  | .int i, .int j _ => decide (j = i)
  | .str x, .str y _ => decide (y.cps.toList = x)
  | .tup l, .ref a => match K.lookup a with
    | some ⟨.type T, none, .seq items n, slots⟩ => decide (T = "tuple") && (slots.toList.isEmpty && repsK K l items.toList)
    | _ => false
  | _, _ => false
def repsK (K : Frag) : List D → List Value → Bool
  | [], [] => true
  | d :: ds, v :: vs => repK K d v && repsK K ds vs
  | _, _ => false
end
mutual
theorem rep_of_K {K : Frag} {h : Heap} (X : K.In h) : ∀ (d : D) (v : Value), repK K d v = true → Rep h.get? [] d v
  | .int i, .int j t, e => by
    have : j = i := by simpa [repK] using e
    exact ⟨t, by rw [this]⟩
  | .str x, .str y t, e => by
    have : y.cps.toList = x := by simpa [repK] using e
    subst this
    exact ⟨t, rfl⟩
  | .tup l, .ref a, e => by
    unfold repK at e
    split at e
    · rename_i T items n slots hl
      obtain ⟨e1, e2⟩ := Bool.and_eq_true_iff.mp e
      obtain ⟨e2, e3⟩ := Bool.and_eq_true_iff.mp e2
      have hT : T = "tuple" := by simpa using e1
      have hs : slots = #[] := by
        have : slots.toList = [] := by simpa using e2
        exact Array.toList_inj.mp this
      subst hT hs
      exact ⟨a, items.toList, rfl, ⟨n, X a _ hl⟩, reps_of_K X l items.toList e3⟩
    · cases e
theorem reps_of_K {K : Frag} {h : Heap} (X : K.In h) : ∀ (ds : List D) (vs : List Value), repsK K ds vs = true → Reps h.get? [] ds vs
  | [], [], _ => rfl
  | d :: ds, v :: vs, e => by
    have h' := Bool.and_eq_true_iff.mp e
    exact ⟨v, vs, rfl, rep_of_K X d v h'.1, reps_of_K X ds vs h'.2⟩
  | [], _ :: _, e => by cases e
  | _ :: _, [], e => by cases e
end

/-- the script in the heap -/
theorem reps_script {P : Params} {h : Heap} : ∀ (ns : List Int) (vs : List Value), WellAll P h vs (ofPys (ns.map PyData.int)) → Reps h.get? [] (ns.map D.int) vs
  | [], vs, e => by cases e; rfl
  | n :: ns, vs, e => by
    cases e with
    | cons e1 e2 =>
      refine ⟨_, _, rfl, ?_, reps_script ns _ e2⟩
      cases e1 with
      | int i t => exact ⟨t, rfl⟩
theorem rep_script {P : Params} {h : Heap} {ns : List Int} {a : Addr} (W : Well P h (.ref a) (ofPy (.list (ns.map PyData.int)))) : Rep h.get? [] (.list (ns.map D.int)) (.ref a) := by
  have e : ofPy (.list (ns.map PyData.int)) = .list (ofPys (ns.map PyData.int)) := rfl
  rw [e] at W
  cases W with
  | list ho hw => exact ⟨a, _, rfl, ⟨_, ho⟩, reps_script ns _ hw⟩

section
variable {prog : Program} {w : World} {s₁ : Shared} {mg mb : Str → Option Value}
/-- the law, called at the top -/
theorem run_law {p : Program} {loose : List Str} {mean : ExcName → Option Value} (T : Top p loose mean mg mb s₁.heap) (B : Bt mg mb) (P : Pats s₁.heap mg) (hd : ∀ i ∈ [5, 7, 28, 30, 31, 32, 33, 34, 35, 36, 37], defAt i ∈ recsOf p)
    (ht : ∃ v, mg (Str.ofString "_filemode_table") = some v ∧ Rep s₁.heap.get? [] (.tup (fmTab.map drow)) v) {fa a : Addr} (hfa : mg (defAt 37).name = some (.ref fa)) {Pm : Params} {ns : List Int} (W : Well Pm s₁.heap (.ref a) (ofPy (.list (ns.map PyData.int)))) (hlen : ns.length ≤ 63)
    {Q : Value → Shared → Prop} {E : Value → Shared → Prop} (hQ : ∀ s', Keeps s₁ s' → Q (.bool true) s') : wpAny (model prog w) callerA (call (.ref fa) [.ref a]) Q E s₁ := by
  obtain ⟨fa', o, fd, h1, h2, h3, h4, h5, h6⟩ := w_law (prog := prog) (w := w) (⟨T.g, T.b, T.nolimit⟩ : GL s₁.heap mg mb) B P (fun i hi => T.fn _ (hd i hi)) ht ns hlen
  have : fa' = fa := by rw [h1] at hfa; injection hfa with hfa; injection hfa
  subst this
  refine h4.run callerA ⟨rfl, by decide, by decide⟩ s₁ s₁.heap.get? (fun _ _ e => e) (fun _ _ e => e) [.ref a] ⟨_, _, rfl, rep_script W, rfl⟩ Q E fun v fz' s' X r => ?_
  have : v = .bool true := r
  rw [this]
  exact hQ s' X.keeps
end
end Mine

set_option maxHeartbeats 8000000 in
theorem PySem.Challenge.cw_ph0057_01_holds : PySem.Challenge.rw_ph0057_01.Holds := by
  (w_on; o_law; k_head; (case hw => w_witness2))
  intro w s₀ s₁ mg mb G Y fa o pm cd doc dV kV ho hd hcd hD hmg hg args vals as hpre hlay hrd hwl hlo
  have KX := kIn_of Y
  clear Y hcd hD
  refine Ground.open G ?_
  intro T B D TE TW
  clear G B D TE TW hd
  have hB : Mine.Bt mg mb := by
    refine ⟨⟨mg_none_of KX T.g (by kernel_rfl!), (T.builtins _ (by decide)).trans (by kernel_rfl!)⟩, ⟨mg_none_of KX T.g (by kernel_rfl!), (T.builtins _ (by decide)).trans (by kernel_rfl!)⟩, ⟨mg_none_of KX T.g (by kernel_rfl!), (T.builtins _ (by decide)).trans (by kernel_rfl!)⟩, ⟨mg_none_of KX T.g (by kernel_rfl!), (T.builtins _ (by decide)).trans (by kernel_rfl!)⟩⟩
  have hP : Mine.Pats s₁.heap mg := by
    refine ⟨⟨36, 35, mg_of KX T.g (by kernel_rfl!), ⟨⟨_, _, 0, 0, KX 36 _ rfl, rfl, rfl, rfl, rfl, rfl⟩, ⟨_, _, _, KX 35 _ rfl, rfl, by kernel_rfl!⟩⟩, ⟨_, KX 36 _ rfl, rfl⟩⟩, ⟨41, 40, mg_of KX T.g (by kernel_rfl!), ⟨⟨_, _, 0, 0, KX 41 _ rfl, rfl, rfl, rfl, rfl, rfl⟩, ⟨_, _, _, KX 40 _ rfl, rfl, by kernel_rfl!⟩⟩, ⟨_, KX 41 _ rfl, rfl⟩⟩, ⟨342, mg_of KX T.g (by kernel_rfl!)⟩⟩
  have hT : ∃ v, mg (Str.ofString "_filemode_table") = some v ∧ Mine.Rep s₁.heap.get? [] (.tup (Mine.fmTab.map Mine.drow)) v := by
    refine ⟨.ref 88, mg_of KX T.g (by kernel_rfl!), Mine.rep_of_K KX _ _ (by kernel_rfl!)⟩
  have hfa : mg (Mine.defAt 37).name = some (.ref fa) := hmg
  clear hmg
  wrow_args hpre hlay hrd hwl hlo
  refine Mine.run_law T hB hP ?_ hT hfa (by assumption) (by omega) ?_
  · intro i hi
    simp only [List.mem_cons, List.not_mem_nil, or_false] at hi
    rcases hi with rfl | rfl | rfl | rfl | rfl | rfl | rfl | rfl | rfl | rfl | rfl
    · exact List.mem_of_getElem? (i := 0) (by kernel_rfl!)
    · exact List.mem_of_getElem? (i := 1) (by kernel_rfl!)
    · exact List.mem_of_getElem? (i := 2) (by kernel_rfl!)
    · exact List.mem_of_getElem? (i := 3) (by kernel_rfl!)
    · exact List.mem_of_getElem? (i := 4) (by kernel_rfl!)
    · exact List.mem_of_getElem? (i := 5) (by kernel_rfl!)
    · exact List.mem_of_getElem? (i := 6) (by kernel_rfl!)
    · exact List.mem_of_getElem? (i := 7) (by kernel_rfl!)
    · exact List.mem_of_getElem? (i := 8) (by kernel_rfl!)
    · exact List.mem_of_getElem? (i := 9) (by kernel_rfl!)
    · exact List.mem_of_getElem? (i := 10) (by kernel_rfl!)
  · intro s' k
    obtain ⟨h', tk, rfl, hk⟩ := k
    exact ⟨.inl ⟨_, _, [], rfl, fun _ => rfl, ReadsW.bool true, by first | rfl | kernel_rfl! | wrow_post, fun _ => ⟨List.nodup_nil, fun _ hm => (nomatch hm)⟩⟩, OldK.of_keep hk, rfl, AllBare.of_eq hg⟩
