import PyProof.Rows.All
import Wide.All
import OpenK.AllK
import Wide.FinOn
import PyProof.MaxThree
import KE.KItem
import KE.KBytesWalk
import KE.KxBytes
import KE.KxPercent
import Lean
import PySem.Challenge.RW_rs0065_01
set_option Elab.async false
section
open PySem PySem.Calls PyProof.Rows
set_option linter.unusedVariables false
set_option maxRecDepth 100000
namespace Mine

set_option genInjectivity false in
set_option genSizeOf false in
inductive D where
  | none
  | bool (b : Bool)
  | int (i : Int)
  | flt (f : UInt64)
  | str (s : Str)
  | byt (b : List UInt8)
  | list (xs : List D)
  | tup (xs : List D)
  | own (a : Addr)
  | bm (a : Addr)
  | range (m : Int)

abbrev PM := Addr → Option Obj

mutual
inductive Rd (S : PM) : Value → D → Prop
  | none : Rd S .none .none
  | bool (b : Bool) : Rd S (.bool b) (.bool b)
  | int (i : Int) (t : Tok) : Rd S (.int i t) (.int i)
  | flt (f : UInt64) (t : Tok) : Rd S (.float f t) (.flt f)
  | str (x : Str) (t : Tok) : Rd S (.str x t) (.str x)
  | byt (b : Array UInt8) (t : Tok) : Rd S (.bytes b t) (.byt b.toList)
  | list {a : Addr} {o : Obj} {vs : List Value} {n : Nat} {xs : List D} : S a = some o → o.cls = .type "list" → o.data = .seq vs.toArray n → RdL S vs xs → Rd S (.ref a) (.list xs)
  | tup {a : Addr} {o : Obj} {vs : List Value} {n : Nat} {xs : List D} : S a = some o → o.cls = .type "tuple" → o.data = .seq vs.toArray n → RdL S vs xs → Rd S (.ref a) (.tup xs)
  | own (a : Addr) : Rd S (.ref a) (.own a)
  | bm {q a : Addr} {o : Obj} : S q = some o → o.cls = .type "builtin_function_or_method" → o.data = .fields #[.builtin "list.append", .ref a] → Rd S (.ref q) (.bm a)
  | range {r : Addr} {m : Int} {t u v : Tok} : S r = some { cls := .type "range", dict := Option.none, data := .fields #[.int 0 t, .int m u, .int 1 v], slots := #[] } → Rd S (.ref r) (.range m)
inductive RdL (S : PM) : List Value → List D → Prop
  | nil : RdL S [] []
  | cons {v : Value} {d : D} {vs : List Value} {ds : List D} : Rd S v d → RdL S vs ds → RdL S (v :: vs) (d :: ds)
end

def Le (S S' : PM) : Prop := ∀ a o, S a = some o → S' a = some o
theorem Le.refl (S : PM) : Le S S := fun _ _ e => e
theorem Le.trans {S S' S'' : PM} (x : Le S S') (y : Le S' S'') : Le S S'' := fun a o e => y a o (x a o e)

theorem Rd.mono_both {S S' : PM} (l : Le S S') : (∀ {v : Value} {d : D}, Rd S v d → Rd S' v d) ∧ ∀ {vs : List Value} {ds : List D}, RdL S vs ds → RdL S' vs ds :=
  ⟨fun h => Rd.rec (motive_1 := fun v d _ => Rd S' v d) (motive_2 := fun vs ds _ => RdL S' vs ds) .none .bool .int .flt .str .byt (fun h1 h2 h3 _ h4 => .list (l _ _ h1) h2 h3 h4) (fun h1 h2 h3 _ h4 => .tup (l _ _ h1) h2 h3 h4) .own (fun h1 h2 h3 => .bm (l _ _ h1) h2 h3) (fun h1 => .range (l _ _ h1)) .nil (fun _ _ h1 h2 => .cons h1 h2) h,
   fun h => RdL.rec (motive_1 := fun v d _ => Rd S' v d) (motive_2 := fun vs ds _ => RdL S' vs ds) .none .bool .int .flt .str .byt (fun h1 h2 h3 _ h4 => .list (l _ _ h1) h2 h3 h4) (fun h1 h2 h3 _ h4 => .tup (l _ _ h1) h2 h3 h4) .own (fun h1 h2 h3 => .bm (l _ _ h1) h2 h3) (fun h1 => .range (l _ _ h1)) .nil (fun _ _ h1 h2 => .cons h1 h2) h⟩
theorem Rd.mono {S S' : PM} (l : Le S S') {v : Value} {d : D} (h : Rd S v d) : Rd S' v d := (Rd.mono_both l).1 h
theorem RdL.mono {S S' : PM} (l : Le S S') {vs : List Value} {ds : List D} (h : RdL S vs ds) : RdL S' vs ds := (Rd.mono_both l).2 h

theorem RdL.length {S : PM} {vs : List Value} {ds : List D} (h : RdL S vs ds) : vs.length = ds.length := by
  induction vs generalizing ds with
  | nil => cases h; rfl
  | cons v vs ih => cases h with | cons _ h2 => simp [ih h2]
theorem Rd.inv_int {S : PM} {v : Value} {i : Int} (h : Rd S v (.int i)) : ∃ t, v = .int i t := by cases h; exact ⟨_, rfl⟩
theorem Rd.inv_flt {S : PM} {v : Value} {f : UInt64} (h : Rd S v (.flt f)) : ∃ t, v = .float f t := by cases h; exact ⟨_, rfl⟩
theorem Rd.inv_str {S : PM} {v : Value} {x : Str} (h : Rd S v (.str x)) : ∃ t, v = .str x t := by cases h; exact ⟨_, rfl⟩
theorem Rd.inv_bool {S : PM} {v : Value} {b : Bool} (h : Rd S v (.bool b)) : v = .bool b := by cases h; rfl
theorem Rd.inv_own {S : PM} {v : Value} {a : Addr} (h : Rd S v (.own a)) : v = .ref a := by cases h; rfl
theorem RdL.inv_nil {S : PM} {vs : List Value} (h : RdL S vs []) : vs = [] := by cases h; rfl
theorem RdL.inv_cons {S : PM} {vs : List Value} {d : D} {ds : List D} (h : RdL S vs (d :: ds)) : ∃ v vs', vs = v :: vs' ∧ Rd S v d ∧ RdL S vs' ds := by cases h with | cons h1 h2 => exact ⟨_, _, rfl, h1, h2⟩
theorem RdL.inv_one {S : PM} {vs : List Value} {d : D} (h : RdL S vs [d]) : ∃ v, vs = [v] ∧ Rd S v d := by
  obtain ⟨v, vs', rfl, h1, h2⟩ := h.inv_cons
  obtain rfl := h2.inv_nil
  exact ⟨v, rfl, h1⟩
theorem RdL.inv_two {S : PM} {vs : List Value} {d e : D} (h : RdL S vs [d, e]) : ∃ v w, vs = [v, w] ∧ Rd S v d ∧ Rd S w e := by
  obtain ⟨v, vs', rfl, h1, h2⟩ := h.inv_cons
  obtain ⟨w, rfl, h3⟩ := h2.inv_one
  exact ⟨v, w, rfl, h1, h3⟩
theorem RdL.inv_three {S : PM} {vs : List Value} {d e f : D} (h : RdL S vs [d, e, f]) : ∃ v w x, vs = [v, w, x] ∧ Rd S v d ∧ Rd S w e ∧ Rd S x f := by
  obtain ⟨v, vs', rfl, h1, h2⟩ := h.inv_cons
  obtain ⟨w, x, rfl, h3, h4⟩ := h2.inv_two
  exact ⟨v, w, x, rfl, h1, h3, h4⟩
theorem RdL.get {S : PM} {vs : List Value} {ds : List D} (h : RdL S vs ds) : ∀ {i : Nat} {d : D}, ds[i]? = some d → ∃ v, vs[i]? = some v ∧ Rd S v d := by
  induction vs generalizing ds with
  | nil => cases h; intro i d e; simp at e
  | cons v vs ih =>
    cases h with
    | cons h1 h2 =>
      intro i d e
      cases i with
      | zero => simp at e; subst e; exact ⟨v, rfl, h1⟩
      | succ i => simp at e; obtain ⟨v', e', r⟩ := ih h2 e; exact ⟨v', by simpa using e', r⟩
theorem RdL.append {S : PM} {vs ws : List Value} {ds es : List D} (h : RdL S vs ds) (h' : RdL S ws es) : RdL S (vs ++ ws) (ds ++ es) := by
  induction vs generalizing ds with
  | nil => cases h; exact h'
  | cons v vs ih => cases h with | cons h1 h2 => exact .cons h1 (ih h2)
theorem RdL.snoc {S : PM} {vs : List Value} {v : Value} {ds : List D} {d : D} (h : RdL S vs ds) (h' : Rd S v d) : RdL S (vs ++ [v]) (ds ++ [d]) := h.append (.cons h' .nil)
theorem RdL.of_get {S : PM} {vs : List Value} {ds : List D} (hl : vs.length = ds.length) (h : ∀ (i : Nat) (v : Value) (d : D), vs[i]? = some v → ds[i]? = some d → Rd S v d) : RdL S vs ds := by
  induction vs generalizing ds with
  | nil => cases ds with
    | nil => exact .nil
    | cons _ _ => simp at hl
  | cons v vs ih => cases ds with
    | nil => simp at hl
    | cons d ds => exact .cons (h 0 v d rfl rfl) (ih (by simpa using hl) fun i v d e e' => h (i + 1) v d (by simpa using e) (by simpa using e'))

def Sub (S : PM) (h : Heap) : Prop := ∀ a o, S a = some o → h.get? a = some o
def Ext (h h' : Heap) : Prop := ∀ a o, h.get? a = some o → h'.get? a = some o
theorem Ext.refl (h : Heap) : Ext h h := fun _ _ e => e
theorem Ext.trans {h h' h'' : Heap} (x : Ext h h') (y : Ext h' h'') : Ext h h'' := fun a o e => y a o (x a o e)
theorem Sub.ext {S : PM} {h h' : Heap} (x : Sub S h) (y : Ext h h') : Sub S h' := fun a o e => y a o (x a o e)

/-- one step of a run that turns nothing that stood: what is frozen grows by new things alone -/
structure Adv (S : PM) (h : Heap) (S' : PM) (h' : Heap) : Prop where
  le : Le S S'
  sub : Sub S' h'
  ext : Ext h h'
  new : ∀ a o, h.get? a = some o → S' a = some o → S a = some o
theorem Adv.refl {S : PM} {h : Heap} (s : Sub S h) : Adv S h S h := ⟨.refl S, s, .refl h, fun _ _ _ e => e⟩
theorem Adv.trans {S S' S'' : PM} {h h' h'' : Heap} (x : Adv S h S' h') (y : Adv S' h' S'' h'') : Adv S h S'' h'' :=
  ⟨x.le.trans y.le, y.sub, x.ext.trans y.ext, fun a o e e' => x.new a o e (y.new a o (x.ext a o e) e')⟩
theorem Adv.of_ext {S : PM} {h h' : Heap} (s : Sub S h) (x : Ext h h') : Adv S h S h' := ⟨.refl S, s.ext x, x, fun _ _ _ e => e⟩

/-- a new object, frozen at once -/
def addS (S : PM) (a : Addr) (o : Obj) : PM := fun b => if b = a then some o else S b
theorem addS_self (S : PM) (a : Addr) (o : Obj) : addS S a o a = some o := by simp [addS]
theorem Adv.push {S : PM} {h : Heap} (s : Sub S h) (o : Obj) (hf : o.isFreed = false) : Adv S h (addS S h.objs.size o) (h.push o) where
  le := fun a o' e => by
    have : a ≠ h.objs.size := Nat.ne_of_lt (Heap.lt_size (s a o' e))
    simp [addS, this, e]
  sub := fun a o' e => by
    unfold addS at e
    by_cases q : a = h.objs.size
    · subst q; rw [if_pos rfl] at e; cases e; exact Heap.get?_push_size _ hf
    · rw [if_neg q] at e; exact Heap.get?_push_of_some _ (s a o' e)
  ext := fun a o' e => Heap.get?_push_of_some _ e
  new := fun a o' e e' => by
    have : a ≠ h.objs.size := Nat.ne_of_lt (Heap.lt_size e)
    simpa [addS, this] using e'
theorem Ext.push (h : Heap) (o : Obj) : Ext h (h.push o) := fun _ _ e => Heap.get?_push_of_some _ e

set_option genInjectivity false in
set_option genSizeOf false in
/-- what stays the same in the whole proof: the program, the world, the heap behind the top -/
structure Cx where
  prog : Program
  w : World
  h₀ : Heap
  mg : Str → Option Value
  mb : Str → Option Value
  m₀ : Str → Option Value
abbrev Cx.M (X : Cx) : Model := model X.prog X.w
structure Cx.Good (X : Cx) : Prop where
  g : X.h₀.Ns mainGlobals X.mg
  b : X.h₀.Ns builtinsNs X.mb
  lim : X.h₀.NoLimit
  boot : ∀ x : Str, x ≠ "__name__" → X.mb x = bootBuiltins x

def Ok (n : Nat) (A : Around) : Prop := A.handled = none ∧ A.depth + n < recursionLimit ∧ A.units + 16 * n + 16 < cLine
theorem Ok.mono {n m : Nat} {A : Around} (h : Ok n A) (l : m ≤ n) : Ok m A := ⟨h.1, by have := h.2.1; omega, by have := h.2.2; omega⟩
theorem Ok.deeper {n : Nat} {A : Around} (h : Ok (n + 1) A) (env : Env) : Ok n (A.deeper env) :=
  ⟨h.1, by show A.depth + 1 + n < _; have := h.2.1; omega, by show A.units + 3 + _ + _ < _; have := h.2.2; omega⟩
theorem Ok.room {n : Nat} {A : Around} (h : Ok n A) : A.depth < recursionLimit := by have := h.2.1; omega
theorem Ok.units {n : Nat} {A : Around} (h : Ok n A) : A.units < cLine := by have := h.2.2; omega

/-- an operation on values, told in plain data -/
def OpN (X : Cx) (n : Nat) (f : List Value → Sem Value) (ds : List D) (d : D) : Prop :=
  ∀ (A : Around) (s : Shared) (S : PM) (vs : List Value) (Q : Value → Shared → Prop) (E : Value → Shared → Prop), Ok n A → Sub S s.heap → Le X.h₀.get? S → RdL S vs ds →
    (∀ S' v h' tk, Adv S s.heap S' h' → Rd S' v d → Q v { s with heap := h', toks := tk }) → wpAny X.M A (f vs) Q E s
def Op1 (X : Cx) (n : Nat) (f : Value → Sem Value) (d₁ d : D) : Prop :=
  ∀ (A : Around) (s : Shared) (S : PM) (v₁ : Value) (Q : Value → Shared → Prop) (E : Value → Shared → Prop), Ok n A → Sub S s.heap → Le X.h₀.get? S → Rd S v₁ d₁ →
    (∀ S' v h' tk, Adv S s.heap S' h' → Rd S' v d → Q v { s with heap := h', toks := tk }) → wpAny X.M A (f v₁) Q E s
def Op2 (X : Cx) (n : Nat) (f : Value → Value → Sem Value) (d₁ d₂ d : D) : Prop :=
  ∀ (A : Around) (s : Shared) (S : PM) (v₁ v₂ : Value) (Q : Value → Shared → Prop) (E : Value → Shared → Prop), Ok n A → Sub S s.heap → Le X.h₀.get? S → Rd S v₁ d₁ → Rd S v₂ d₂ →
    (∀ S' v h' tk, Adv S s.heap S' h' → Rd S' v d → Q v { s with heap := h', toks := tk }) → wpAny X.M A (f v₁ v₂) Q E s
/-- truth of a value -/
def Tru (X : Cx) (n : Nat) (d : D) (b : Bool) : Prop :=
  ∀ (A : Around) (s : Shared) (S : PM) (v : Value) (Q : Bool → Shared → Prop) (E : Value → Shared → Prop), Ok n A → Sub S s.heap → Le X.h₀.get? S → Rd S v d →
    (∀ S' h' tk, Adv S s.heap S' h' → Q b { s with heap := h', toks := tk }) → wpAny X.M A (truthy v) Q E s

set_option genInjectivity false in
set_option genSizeOf false in
structure Base where
  H : Heap
  S₀ : PM
  W : Str → Bool

abbrev Own := Addr → Option (List D)
def noOwn : Own := fun _ => none
abbrev Gam := List (Str × D)

structure Frm (X : Cx) (B : Base) (S : PM) (env : Env) (O : Own) (h : Heap) (Γ : Gam) : Prop where
  base : Le X.h₀.get? S
  sub : Sub S h
  keep : Ext B.H h
  old : ∀ a o, B.H.get? a = some o → S a = some o → B.S₀ a = some o
  loc : S env.locals = none
  locH : B.H.get? env.locals = none
  ns : ∃ m, h.Ns env.locals m ∧ ∀ x d, Γ.lookup x = some d → env.kindOf x = some .local → ∃ v, m x = some v ∧ Rd S v d
  neg : env.scope.kind = .module → ∃ m, h.Ns env.locals m ∧ ∀ x, env.kindOf x ≠ some .local → m x = X.m₀ x
  cells : ∀ x c, env.cells.lookup x = some c → ∃ v, h.IsCell c v ∧ ∀ d, Γ.lookup x = some d → env.kindOf x = some .cell → ∃ v', v = some v' ∧ Rd S v' d
  wr : ∀ x c, env.cells.lookup x = some c → B.W x = true → S c = none ∧ B.H.get? c = none
  apart : ∀ x y c, env.cells.lookup x = some c → env.cells.lookup y = some c → x = y
  own : ∀ a ds, O a = some ds → S a = none ∧ B.H.get? a = none ∧ ∃ o vs n, h.get? a = some o ∧ (o.cls = .type "list" ∧ o.dict = Option.none ∧ o.slots = #[]) ∧ o.data = .seq vs n ∧ RdL S vs.toList ds

theorem Frm.adv {X : Cx} {B : Base} {S S' : PM} {env : Env} {O : Own} {h h' : Heap} {Γ : Gam} (F : Frm X B S env O h Γ) (a : Adv S h S' h') : Frm X B S' env O h' Γ where
  base := F.base.trans a.le
  sub := a.sub
  keep := F.keep.trans a.ext
  old := fun b o e e' => F.old b o e (a.new b o (F.keep b o e) e')
  loc := by
    obtain ⟨m, ⟨oL, es, ep, hL, r⟩, _⟩ := F.ns
    cases q : S' env.locals with
    | none => rfl
    | some o' =>
      have h1 := a.sub _ _ q
      rw [a.ext _ _ hL] at h1
      cases h1
      have := a.new _ _ hL q
      rw [F.loc] at this; cases this
  locH := F.locH
  ns := by
    obtain ⟨m, hn, hv⟩ := F.ns
    exact ⟨m, hn.keeps a.ext, fun x d e k => let ⟨v, e1, r⟩ := hv x d e k; ⟨v, e1, r.mono a.le⟩⟩
  neg := fun q => let ⟨m, hm, hv⟩ := F.neg q; ⟨m, hm.keeps a.ext, hv⟩
  cells := fun x c e => by
    obtain ⟨v, hc, hv⟩ := F.cells x c e
    exact ⟨v, hc.keeps a.ext, fun d e k => let ⟨v, e1, r⟩ := hv d e k; ⟨v, e1, r.mono a.le⟩⟩
  wr := fun x c e k => by
    obtain ⟨h1, h2⟩ := F.wr x c e k
    refine ⟨?_, h2⟩
    obtain ⟨v, ⟨o, ho, _⟩, _⟩ := F.cells x c e
    cases q : S' c with
    | none => rfl
    | some o' =>
      have h3 := a.sub _ _ q
      rw [a.ext _ _ ho] at h3
      cases h3
      have := a.new _ _ ho q
      rw [h1] at this; cases this
  apart := F.apart
  own := fun b ds e => by
    obtain ⟨h1, h2, o, vs, n, ho, hc, hd, r⟩ := F.own b ds e
    refine ⟨?_, h2, o, vs, n, a.ext _ _ ho, hc, hd, r.mono a.le⟩
    cases q : S' b with
    | none => rfl
    | some o' =>
      have h3 := a.sub _ _ q
      rw [a.ext _ _ ho] at h3
      cases h3
      have := a.new _ _ ho q
      rw [h1] at this; cases this

/-- what a statement may do: it turns the frame's own alone -/
structure Evo (env : Env) (O : Own) (S : PM) (h : Heap) (O' : Own) (S' : PM) (h' : Heap) : Prop where
  le : Le S S'
  new : ∀ a o, (h.get? a).isSome = true → S' a = some o → O a = none → S a = some o
  ext : ∀ a o, h.get? a = some o → a ≠ env.locals → (∀ x, env.cells.lookup x ≠ some a) → O a = none → h'.get? a = some o
  alv : ∀ a, (h.get? a).isSome = true → (h'.get? a).isSome = true
  own : ∀ a, (h.get? a).isSome = true → O a = none → O' a = none
theorem Evo.trans {env : Env} {O O' O'' : Own} {S S' S'' : PM} {h h' h'' : Heap} (x : Evo env O S h O' S' h') (y : Evo env O' S' h' O'' S'' h'') : Evo env O S h O'' S'' h'' :=
  ⟨x.le.trans y.le, fun a o e e' q => x.new a o e (y.new a o (x.alv a e) e' (x.own a e q)) q, fun a o e n1 n2 n3 => y.ext a o (x.ext a o e n1 n2 n3) n1 n2 (x.own a (by rw [e]; rfl) n3), fun a e => y.alv a (x.alv a e), fun a e q => y.own a (x.alv a e) (x.own a e q)⟩
theorem Adv.evo {env : Env} {O : Own} {S S' : PM} {h h' : Heap} (x : Adv S h S' h') : Evo env O S h O S' h' :=
  ⟨x.le, fun a o e e' _ => by
    obtain ⟨o', e⟩ := Option.isSome_iff_exists.mp e
    have h1 := x.sub _ _ e'
    rw [x.ext _ _ e] at h1
    cases h1
    exact x.new _ _ e e', fun a o e _ _ _ => x.ext a o e, fun a e => by
    obtain ⟨o', e⟩ := Option.isSome_iff_exists.mp e
    rw [x.ext _ _ e]; rfl, fun _ _ e => e⟩

theorem Frm.weaken {X : Cx} {B : Base} {S : PM} {env : Env} {O : Own} {h : Heap} {Γ Γ' : Gam} (F : Frm X B S env O h Γ) (l : ∀ x d, Γ'.lookup x = some d → Γ.lookup x = some d) : Frm X B S env O h Γ' :=
  { F with
    ns := let ⟨m, hn, hv⟩ := F.ns; ⟨m, hn, fun x d e k => hv x d (l x d e) k⟩
    cells := fun x c e => let ⟨v, hc, hv⟩ := F.cells x c e; ⟨v, hc, fun d e k => hv d (l x d e) k⟩ }

/-- an expression, told in plain data -/
def Ev (X : Cx) (n : Nat) (B : Base) (env : Env) (O : Own) (Γ : Gam) (e : Expr) (d : D) : Prop :=
  ∀ (A : Around) (s : Shared) (S : PM) (Q : Value → Shared → Prop) (E : Value → Shared → Prop), Ok n A → Frm X B S env O s.heap Γ →
    (∀ S' v h' tk, Adv S s.heap S' h' → Rd S' v d → Q v { s with heap := h', toks := tk }) → wpAny X.M A (eval e env) Q E s
/-- a test -/
def Tr (X : Cx) (n : Nat) (B : Base) (env : Env) (O : Own) (Γ : Gam) (e : Expr) (b : Bool) : Prop :=
  ∀ (A : Around) (s : Shared) (S : PM) (Q : Bool → Shared → Prop) (E : Value → Shared → Prop), Ok n A → Frm X B S env O s.heap Γ →
    (∀ S' h' tk, Adv S s.heap S' h' → Q b { s with heap := h', toks := tk }) → wpAny X.M A (isTrue e env (eval e env)) Q E s

section
variable {X : Cx} {n : Nat} {B : Base} {env : Env} {O : Own} {Γ : Gam}

theorem Ev.binop {e₁ e₂ : Expr} {op : Operator} {pos : Pos} {d₁ d₂ d : D} (h1 : Ev X n B env O Γ e₁ d₁) (h2 : Ev X n B env O Γ e₂ d₂) (h : Op2 X n (binaryOp op) d₁ d₂ d) : Ev X n B env O Γ (.BinOp e₁ op e₂ pos) d := by
  intro A s S Q E ok F k
  refine wpAny_BinOp (h1 A s S _ _ ok F fun S₁ v₁ h₁ t₁ a₁ r₁ => ?_)
  refine h2 A _ S₁ _ _ ok (F.adv a₁) fun S₂ v₂ h₂ t₂ a₂ r₂ => ?_
  refine h A _ S₂ v₁ v₂ _ _ ok a₂.sub (F.base.trans (a₁.le.trans a₂.le)) (r₁.mono a₂.le) r₂ fun S₃ v h₃ t₃ a₃ r => ?_
  exact k S₃ v h₃ t₃ (a₁.trans (a₂.trans a₃)) r

theorem Ev.compare {e₁ e₂ : Expr} {op : CmpOp} {pos : Pos} {d₁ d₂ d : D} (h1 : Ev X n B env O Γ e₁ d₁) (h2 : Ev X n B env O Γ e₂ d₂) (h : Op2 X n (compareOp op) d₁ d₂ d)
    (hm : behindInMarks op e₂ = false := by with_unfolding_all rfl) : Ev X n B env O Γ (.Compare e₁ [op] [e₂] pos) d := by
  intro A s S Q E ok F k
  refine wpAny_Compare1 (h1 A s S _ _ ok F fun S₁ v₁ h₁ t₁ a₁ r₁ => ?_) hm
  refine h2 A _ S₁ _ _ ok (F.adv a₁) fun S₂ v₂ h₂ t₂ a₂ r₂ => ?_
  refine h A _ S₂ v₁ v₂ _ _ ok a₂.sub (F.base.trans (a₁.le.trans a₂.le)) (r₁.mono a₂.le) r₂ fun S₃ v h₃ t₃ a₃ r => ?_
  exact k S₃ v h₃ t₃ (a₁.trans (a₂.trans a₃)) r

theorem Tr.compare {e₁ e₂ : Expr} {op : CmpOp} {pos : Pos} {d₁ d₂ : D} {b : Bool} (h1 : Ev X n B env O Γ e₁ d₁) (h2 : Ev X n B env O Γ e₂ d₂) (h : Op2 X n (compareOp op) d₁ d₂ (.bool b))
    (hm : behindInMarks op e₂ = false := by with_unfolding_all rfl) : Tr X n B env O Γ (.Compare e₁ [op] [e₂] pos) b := by
  intro A s S Q E ok F k
  refine wpAny_isTrue_Compare1 (h1 A s S _ _ ok F fun S₁ v₁ h₁ t₁ a₁ r₁ => ?_) hm
  refine h2 A _ S₁ _ _ ok (F.adv a₁) fun S₂ v₂ h₂ t₂ a₂ r₂ => ?_
  refine h A _ S₂ v₁ v₂ _ _ ok a₂.sub (F.base.trans (a₁.le.trans a₂.le)) (r₁.mono a₂.le) r₂ fun S₃ v h₃ t₃ a₃ r => ?_
  cases r
  exact wpAny_truthy_bool (k S₃ h₃ t₃ (a₁.trans (a₂.trans a₃)))

theorem Ev.cint {i : Int} {k : Nat} {pos : Pos} : Ev X n B env O Γ (.Constant (.int i) k pos) (.int i) := by
  intro A s S Q E ok F k
  exact wpAny_Constant_int (k S _ _ _ (.refl F.sub) (.int _ _))

theorem Ev.ifexp {t e₁ e₂ : Expr} {pos : Pos} {b : Bool} {d : D} (ht : Tr X n B env O Γ t b) (h1 : b = true → Ev X n B env O Γ e₁ d) (h2 : b = false → Ev X n B env O Γ e₂ d) : Ev X n B env O Γ (.IfExp t e₁ e₂ pos) d := by
  intro A s S Q E ok F k
  refine IfExp_ (ht A s S _ _ ok F fun S₁ h₁ t₁ a₁ => ?_)
  cases b with
  | true => exact h1 rfl A _ S₁ _ _ ok (F.adv a₁) fun S₂ v h₂ t₂ a₂ r => k S₂ v h₂ t₂ (a₁.trans a₂) r
  | false => exact h2 rfl A _ S₁ _ _ ok (F.adv a₁) fun S₂ v h₂ t₂ a₂ r => k S₂ v h₂ t₂ (a₁.trans a₂) r

theorem Tr.not {e : Expr} {pos : Pos} {b : Bool} (h : Tr X n B env O Γ e b) : Tr X n B env O Γ (.UnaryOp .Not e pos) (!b) := by
  intro A s S Q E ok F k
  exact isTrue_not (h A s S _ _ ok F fun S₁ h₁ t₁ a₁ => k S₁ h₁ t₁ a₁)
theorem Tr.or {e₁ e₂ : Expr} {pos : Pos} {b₁ b₂ : Bool} (h1 : Tr X n B env O Γ e₁ b₁) (h2 : b₁ = false → Tr X n B env O Γ e₂ b₂) : Tr X n B env O Γ (.BoolOp .Or [e₁, e₂] pos) (b₁ || b₂) := by
  intro A s S Q E ok F k
  refine isTrue_or (h1 A s S _ _ ok F fun S₁ h₁ t₁ a₁ => ?_)
  cases b₁ with
  | true => exact k S₁ h₁ t₁ a₁
  | false =>
    refine isTrue_or (h2 rfl A _ S₁ _ _ ok (F.adv a₁) fun S₂ h₂ t₂ a₂ => ?_)
    cases b₂ with
    | true => exact k S₂ h₂ t₂ (a₁.trans a₂)
    | false => exact isTrue_or_nil (k S₂ h₂ t₂ (a₁.trans a₂))
end
end Mine

end
section
open PySem PySem.Calls PyProof.Rows PySem.W
set_option linter.unusedVariables false
set_option maxRecDepth 100000
namespace Mine

section
variable {X : Cx} {n : Nat} {B : Base} {env : Env} {O : Own} {Γ : Gam}

theorem Ev.local {x : Str} {pos : Pos} {d : D} (hd : Γ.lookup x = some d) (hl : env.kindOf x = some .local := by rfl) (hk : env.scope.kind = .function := by rfl)
    (hb : (x == ("__debug__" : Str)) = false := by rfl) : Ev X n B env O Γ (.Name x pos) d := by
  intro A s S Q E ok F k
  obtain ⟨m, hn, hv⟩ := F.ns
  obtain ⟨v, e, r⟩ := hv x d hd hl
  exact wpAny_Name (wpAny_loadName_local hk hl hn e (k S v s.heap s.toks (.refl F.sub) r)) hb

theorem Ev.cell {x : Str} {pos : Pos} {d : D} {c : Addr} (hd : Γ.lookup x = some d) (hl : env.kindOf x = some .cell := by rfl) (hc : env.cells.lookup x = some c := by rfl) (hk : env.scope.kind = .function := by rfl)
    (hb : (x == ("__debug__" : Str)) = false := by rfl) : Ev X n B env O Γ (.Name x pos) d := by
  intro A s S Q E ok F k
  obtain ⟨v, hn, hv⟩ := F.cells x c hc
  obtain ⟨v, rfl, r⟩ := hv d hd hl
  exact wpAny_Name (wpAny_loadName_cell hk hl hc hn (k S v s.heap s.toks (.refl F.sub) r)) hb

/-- an expression that gives back one value for sure (a def, a built-in) -/
def EvV (X : Cx) (B : Base) (env : Env) (O : Own) (Γ : Gam) (e : Expr) (v : Value) : Prop :=
  ∀ (A : Around) (s : Shared) (S : PM) (Q : Value → Shared → Prop) (E : Value → Shared → Prop), Frm X B S env O s.heap Γ → Q v s → wpAny X.M A (eval e env) Q E s

theorem EvV.glob (G : X.Good) {x : Str} {pos : Pos} {v : Value} (hx : X.mg x = some v) (hl : env.kindOf x = some .globalImplicit := by rfl) (hk : env.scope.kind = .function := by rfl) (hg : env.globals = mainGlobals := by rfl)
    (hb : (x == ("__debug__" : Str)) = false := by rfl) : EvV X B env O Γ (.Name x pos) v := by
  intro A s S Q E F k
  have hns : s.heap.Ns env.globals X.mg := by rw [hg]; exact G.g.keeps fun a o e => F.sub a o (F.base a o e)
  exact Name_function_global hk hl (loadGlobal_global hns hx k) hb
theorem EvV.blt (G : X.Good) {x : Str} {pos : Pos} {v : Value} (hx : X.mg x = none) (hv : bootBuiltins x = some v) (hn : x ≠ "__name__") (hl : env.kindOf x = some .globalImplicit := by rfl) (hk : env.scope.kind = .function := by rfl)
    (hg : env.globals = mainGlobals := by rfl) (hbs : env.builtins = builtinsNs := by rfl) (hb : (x == ("__debug__" : Str)) = false := by rfl) : EvV X B env O Γ (.Name x pos) v := by
  intro A s S Q E F k
  have hns : s.heap.Ns env.globals X.mg := by rw [hg]; exact G.g.keeps fun a o e => F.sub a o (F.base a o e)
  have hbn : s.heap.Ns env.builtins X.mb := by rw [hbs]; exact G.b.keeps fun a o e => F.sub a o (F.base a o e)
  exact Name_function_global hk hl (loadGlobal_builtin hns hx hbn ((G.boot x hn).trans hv) k) hb
theorem Ev.glob (G : X.Good) {x : Str} {pos : Pos} {v : Value} {d : D} (hx : X.mg x = some v) (hr : Rd X.h₀.get? v d) (hl : env.kindOf x = some .globalImplicit := by rfl) (hk : env.scope.kind = .function := by rfl) (hg : env.globals = mainGlobals := by rfl)
    (hb : (x == ("__debug__" : Str)) = false := by rfl) : Ev X n B env O Γ (.Name x pos) d := by
  intro A s S Q E ok F k
  exact EvV.glob G hx hl hk hg hb A s S Q E F (k S v s.heap s.toks (.refl F.sub) (hr.mono F.base))

/-- several expressions, from the left -/
def EvL (X : Cx) (n : Nat) (B : Base) (env : Env) (O : Own) (Γ : Gam) (es : List Expr) (ds : List D) : Prop :=
  ∀ (A : Around) (s : Shared) (S : PM) (pos : Pos) (Q : List Value → Shared → Prop) (E : Value → Shared → Prop), Ok n A → Frm X B S env O s.heap Γ →
    (∀ S' vs h' tk, Adv S s.heap S' h' → RdL S' vs ds → Q vs { s with heap := h', toks := tk }) → wpAny X.M A (spliced (backTo pos (starEach es env))) Q E s
theorem EvL.nil : EvL X n B env O Γ [] [] := fun A s S pos Q E ok F k => args_nil (k S [] s.heap s.toks (.refl F.sub) .nil)
theorem EvL.cons {e : Expr} {es : List Expr} {d : D} {ds : List D} (h1 : Ev X n B env O Γ e d) (h2 : EvL X n B env O Γ es ds) (he : starEach (e :: es) env = (false, eval e env) :: starEach es env := by rfl) : EvL X n B env O Γ (e :: es) (d :: ds) := by
  intro A s S pos Q E ok F k
  refine args_cons (h1 A s S _ _ ok F fun S₁ v h₁ t₁ a₁ r₁ => ?_) he
  exact h2 A _ S₁ pos _ _ ok (F.adv a₁) fun S₂ vs h₂ t₂ a₂ r₂ => k S₂ (v :: vs) h₂ t₂ (a₁.trans a₂) (.cons (r₁.mono a₂.le) r₂)

theorem newList_adv {A : Around} {s : Shared} {S : PM} {vs : List Value} {ds : List D} {Q : Value → Shared → Prop} {E : Value → Shared → Prop} (hs : Sub S s.heap) (hr : RdL S vs ds) (hsz : vs.length ≤ sizeLine)
    (k : ∀ S' v h' tk, Adv S s.heap S' h' → Rd S' v (.list ds) → Q v { s with heap := h', toks := tk }) : wpAny X.M A (newList vs) Q E s := by
  refine wpAny_newObj_type ?_ (by show vs.toArray.size ≤ sizeLine; rw [List.size_toArray]; exact hsz)
  have a := Adv.push hs ({ cls := .type "list", data := .seq vs.toArray } : Obj) rfl
  exact k _ _ _ s.toks a (.list (addS_self _ _ _) rfl rfl (hr.mono a.le))
theorem newTuple_adv {A : Around} {s : Shared} {S : PM} {vs : List Value} {ds : List D} {Q : Value → Shared → Prop} {E : Value → Shared → Prop} (hs : Sub S s.heap) (hr : RdL S vs ds) (hsz : vs.length ≤ sizeLine)
    (k : ∀ S' v h' tk, Adv S s.heap S' h' → Rd S' v (.tup ds) → Q v { s with heap := h', toks := tk }) : wpAny X.M A (newTuple vs) Q E s := by
  refine wpAny_newObj_type ?_ (by show vs.toArray.size ≤ sizeLine; rw [List.size_toArray]; exact hsz)
  have a := Adv.push hs ({ cls := .type "tuple", data := .seq vs.toArray } : Obj) rfl
  exact k _ _ _ s.toks a (.tup (addS_self _ _ _) rfl rfl (hr.mono a.le))

theorem Ev.list {es : List Expr} {ds : List D} {pos : Pos} (h : EvL X n B env O Γ es ds) (hsz : ds.length ≤ sizeLine := by exact Nat.le_of_ble_eq_true rfl) : Ev X n B env O Γ (.List es pos) (.list ds) := by
  intro A s S Q E ok F k
  refine List_ (h A s S pos _ _ ok F fun S₁ vs h₁ t₁ a₁ r₁ => ?_)
  exact newList_adv a₁.sub r₁ (by rw [r₁.length]; exact hsz) fun S₂ v h₂ t₂ a₂ r₂ => k S₂ v h₂ t₂ (a₁.trans a₂) r₂
theorem Ev.tup {es : List Expr} {ds : List D} {k : Nat} {pos : Pos} (h : EvL X n B env O Γ es ds) (hsz : ds.length ≤ sizeLine := by exact Nat.le_of_ble_eq_true rfl) : Ev X n B env O Γ (.Tuple es k pos) (.tup ds) := by
  intro A s S Q E ok F k
  refine Tuple_ (h A s S pos _ _ ok F fun S₁ vs h₁ t₁ a₁ r₁ => ?_)
  exact newTuple_adv a₁.sub r₁ (by rw [r₁.length]; exact hsz) fun S₂ v h₂ t₂ a₂ r₂ => k S₂ v h₂ t₂ (a₁.trans a₂) r₂

/-- what the call's road asks of the callee -/
def Keeps1 (X : Cx) (f : Value) : Prop := ∀ h : Heap, Ext X.h₀ h → ∃ k, (k = Keeper.frame ∨ k = Keeper.machine ∨ k = Keeper.boundFrame) ∧ Looks X.M h (keeperOf f) k
theorem Keeps1.builtin (id : String) : Keeps1 X (.builtin id) := fun h _ => ⟨.machine, .inr (.inl rfl), .now⟩
theorem Keeps1.type (id : String) : Keeps1 X (.type id) := fun h _ => ⟨.machine, .inr (.inl rfl), .now⟩
theorem Keeps1.def {a : Addr} {o : Obj} {fd : FuncData} (ho : X.h₀.get? a = some o) (hd : o.data = .func fd) : Keeps1 X (.ref a) := fun h x => by
  refine ⟨.frame, .inl rfl, (Looks.ld (part := none) (x _ _ ho)).andThen ?_⟩
  obtain ⟨c, dd, dt, sl⟩ := o
  subst hd
  exact .now

theorem evalArgs_EvL {f : Value} {es : List Expr} {ds : List D} {A : Around} {s : Shared} {S : PM} {pos : Pos} {Q : Args → Shared → Prop} {E : Value → Shared → Prop} (h : EvL X n B env O Γ es ds) (ok : Ok n A) (F : Frm X B S env O s.heap Γ)
    (k : ∀ S' vs h' tk, Adv S s.heap S' h' → RdL S' vs ds → Q ⟨vs, []⟩ { s with heap := h', toks := tk }) (hp : (starEach es env).all (!·.1) = true) : wpAny X.M A (evalArgs f true (backTo pos (starEach es env)) []) Q E s := by
  have h' := h A s S pos (fun vs s' => Q ⟨vs, []⟩ s') E ok F k
  revert h' hp
  generalize starEach es env = l
  intro hp h'
  cases l with
  | nil =>
    unfold evalArgs
    show wpAny X.M A (spliced [] >>= _) Q E s
    refine wpAny_bind (wpAny_mono h' (fun vs s' h' => ?_) fun _ _ x => x)
    refine wpAny_holding ?_
    exact wpAny_bind (wpAny_pure (wpAny_bind (wpAny_pure (wpAny_pure h'))))
  | cons x r =>
    obtain ⟨b, t⟩ := x
    simp only [List.all_cons, Bool.and_eq_true, Bool.not_eq_true'] at hp
    obtain ⟨rfl, _⟩ := hp
    exact evalArgs_plain h'

theorem Ev.call {func : Expr} {args : List Expr} {pos : Pos} {f : Value} {ds : List D} {d : D} (hf : EvV X B env O Γ func f) (ha : EvL X n B env O Γ args ds) (hk : Keeps1 X f) (hc : OpN X n (fun vs => PySem.call f vs) ds d)
    (he : eval (.Call func args [] pos) env = (do callWith pos (← eval func env) [] (backTo pos (starEach args env)) (backToKw pos (keywordEach [] env))) := by rfl)
    (hp : (starEach args env).all (!·.1) = true := by rfl) : Ev X n B env O Γ (.Call func args [] pos) d := by
  intro A s S Q E ok F k
  refine Call_ (hf A s S _ _ F ?_) he
  refine PySem.W.callWith_of (P := fun h => Ext X.h₀ h) ?_ (fun h hh => hk h hh) (evalArgs_EvL ha ok F (fun S₁ vs h₁ t₁ a₁ r₁ => ⟨fun a o e => a₁.sub a o (a₁.le a o (F.base a o e)), ?_⟩) hp)
  · simp only [List.any_nil, Bool.or_false]
    rw [← Bool.not_eq_true, List.any_eq_true]
    rintro ⟨x, hx, hx'⟩
    unfold backTo at hx
    obtain ⟨⟨b, t⟩, hy, rfl⟩ := List.mem_map.mp hx
    have := List.all_eq_true.mp hp _ hy
    simp only [Bool.not_eq_true'] at this hx'
    rw [this] at hx'; cases hx'
  · rw [List.nil_append]
    exact hc A _ S₁ vs _ _ ok a₁.sub (F.base.trans a₁.le) r₁ fun S₂ v h₂ t₂ a₂ r₂ => k S₂ v h₂ t₂ (a₁.trans a₂) r₂
end

/-! ### statements -/
set_option genInjectivity false in
set_option genSizeOf false in
inductive Fl where
  | next
  | cont
  | brk
  | ret (d : D)
inductive FlR (S : PM) : Flow → Fl → Prop
  | next : FlR S .next .next
  | cont : FlR S .cont .cont
  | brk : FlR S .brk .brk
  | ret {v : Value} {d : D} : Rd S v d → FlR S (.ret v) (.ret d)
theorem FlR.mono {S S' : PM} (l : Le S S') {f : Flow} {g : Fl} (h : FlR S f g) : FlR S' f g := by
  cases h with
  | next => exact .next
  | cont => exact .cont
  | brk => exact .brk
  | ret r => exact .ret (r.mono l)

abbrev Post := Fl → Own → Gam → Prop
def Ex (X : Cx) (n : Nat) (B : Base) (env : Env) (O : Own) (Γ : Gam) (ss : List Stmt) (Φ : Post) : Prop :=
  ∀ (A : Around) (s : Shared) (S : PM) (Q : Flow → Shared → Prop) (E : Value → Shared → Prop), Ok n A → Frm X B S env O s.heap Γ →
    (∀ S' fl f O' Γ' h' tk, Evo env O S s.heap O' S' h' → Frm X B S' env O' h' Γ' → FlR S' fl f → Φ f O' Γ' → Q fl { s with heap := h', toks := tk }) → wpAny X.M A (execs ss env) Q E s
def Ex1 (X : Cx) (n : Nat) (B : Base) (env : Env) (O : Own) (Γ : Gam) (st : Stmt) (Φ : Post) : Prop :=
  ∀ (A : Around) (s : Shared) (S : PM) (Q : Flow → Shared → Prop) (E : Value → Shared → Prop), Ok n A → Frm X B S env O s.heap Γ →
    (∀ S' fl f O' Γ' h' tk, Evo env O S s.heap O' S' h' → Frm X B S' env O' h' Γ' → FlR S' fl f → Φ f O' Γ' → Q fl { s with heap := h', toks := tk }) → wpAny X.M A (exec st env) Q E s

section
variable {X : Cx} {n : Nat} {B : Base} {env : Env} {O : Own} {Γ : Gam} {Φ : Post}

theorem Ex.nil (h : Φ .next O Γ) : Ex X n B env O Γ [] Φ := fun A s S Q E ok F k => wpAny_execs_nil (k S _ _ O Γ s.heap s.toks (Adv.refl F.sub).evo F .next h)
theorem Ex.cons {st : Stmt} {rest : List Stmt} {Ψ : Post} (h1 : Ex1 X n B env O Γ st Ψ) (h2 : ∀ O' Γ', Ψ .next O' Γ' → Ex X n B env O' Γ' rest Φ) (h3 : ∀ f O' Γ', f ≠ .next → Ψ f O' Γ' → Φ f O' Γ') : Ex X n B env O Γ (st :: rest) Φ := by
  intro A s S Q E ok F k
  refine wpAny_execs_cons (h1 A s S _ _ ok F fun S₁ fl f O₁ Γ₁ hp₁ t₁ l₁ F₁ r₁ p₁ => ?_)
  cases r₁ with
  | next => exact h2 O₁ Γ₁ p₁ A _ S₁ _ _ ok F₁ fun S₂ fl f O₂ Γ₂ hp₂ t₂ l₂ F₂ r₂ p₂ => k S₂ fl f O₂ Γ₂ hp₂ t₂ (l₁.trans l₂) F₂ r₂ p₂
  | cont => exact k S₁ _ _ O₁ Γ₁ hp₁ t₁ l₁ F₁ .cont (h3 _ _ _ (by simp) p₁)
  | brk => exact k S₁ _ _ O₁ Γ₁ hp₁ t₁ l₁ F₁ .brk (h3 _ _ _ (by simp) p₁)
  | ret r => exact k S₁ _ _ O₁ Γ₁ hp₁ t₁ l₁ F₁ (.ret r) (h3 _ _ _ (by simp) p₁)
theorem Ex.step {st : Stmt} {rest : List Stmt} {O₁ : Own} {Γ₁ : Gam} (h1 : Ex1 X n B env O Γ st fun f O' Γ' => f = .next ∧ O' = O₁ ∧ Γ' = Γ₁) (h2 : Ex X n B env O₁ Γ₁ rest Φ) : Ex X n B env O Γ (st :: rest) Φ :=
  Ex.cons h1 (fun O' Γ' h => by obtain ⟨_, rfl, rfl⟩ := h; exact h2) fun f O' Γ' hn h => absurd h.1 hn
theorem Ex.mono {ss : List Stmt} {Ψ : Post} (h : Ex X n B env O Γ ss Ψ) (i : ∀ f O' Γ', Ψ f O' Γ' → Φ f O' Γ') : Ex X n B env O Γ ss Φ :=
  fun A s S Q E ok F k => h A s S Q E ok F fun S' fl f O' Γ' h' tk l F' r p => k S' fl f O' Γ' h' tk l F' r (i _ _ _ p)
theorem Ex.weaken {ss : List Stmt} {Γ' : Gam} (h : Ex X n B env O Γ' ss Φ) (l : ∀ x d, Γ'.lookup x = some d → Γ.lookup x = some d) : Ex X n B env O Γ ss Φ :=
  fun A s S Q E ok F k => h A s S Q E ok (F.weaken l) k

theorem Ns_det {h : Heap} {a : Addr} {m m' : Str → Option Value} (x : h.Ns a m) (y : h.Ns a m') : m = m' := by
  obtain ⟨o, es, ep, h1, h2, _, h3⟩ := x
  obtain ⟨o', es', ep', h1', h2', _, h3'⟩ := y
  rw [h1] at h1'; cases h1'
  rw [h2] at h2'; cases h2'
  funext z
  rw [← h3 z, h3' z]
/-- a frame whose names are stored plainly -/
def kindOk (env : Env) : Bool := env.scope.kind == .function || (env.scope.kind == .module && env.locals == env.globals)
theorem kindOk_of {env : Env} (hk : env.scope.kind = .function) : kindOk env = true := by simp [kindOk, hk]
theorem kindOk_plain {env : Env} (hk : kindOk env = true) : (env.scope.kind == .class || (env.scope.kind == .module && env.locals != env.globals)) = false := by
  unfold kindOk at hk
  cases q : env.scope.kind <;> simp_all <;> rfl
theorem Frm.store {S : PM} {h h' : Heap} {x : Str} {v : Value} {d : D} {m : Str → Option Value} (F : Frm X B S env O h Γ) (hl : env.kindOf x = some .local) (hr : Rd S v d)
    (hm : h.Ns env.locals m) (hv : ∀ y e, Γ.lookup y = some e → env.kindOf y = some .local → ∃ v, m y = some v ∧ Rd S v e)
    (hn : h'.Ns env.locals (fun y => if y = x then some v else m y)) (hs : Heap.SameBut env.locals h h') : Frm X B S env O h' ((x, d) :: Γ) where
  base := F.base
  sub := fun a o e => (hs.2 a (fun q => by rw [q, F.loc] at e; cases e)).trans (F.sub a o e)
  keep := fun a o e => (hs.2 a (fun q => by rw [q, F.locH] at e; cases e)).trans (F.keep a o e)
  old := F.old
  loc := F.loc
  locH := F.locH
  ns := ⟨_, hn, fun y e he k => by
    rw [List.lookup_cons] at he
    by_cases q : y = x
    · subst q
      rw [beq_self_eq_true] at he
      cases he
      exact ⟨v, if_pos rfl, hr⟩
    · rw [beq_eq_false_iff_ne.mpr q] at he
      obtain ⟨v', e1, r⟩ := hv y e he k
      exact ⟨v', (if_neg q).trans e1, r⟩⟩
  neg := fun q => ⟨_, hn, fun y hy => by
    have hne : y ≠ x := by rintro rfl; exact hy hl
    rw [if_neg hne]
    obtain ⟨m', hm', hv'⟩ := F.neg q
    rw [Ns_det hm hm']
    exact hv' y hy⟩
  cells := fun y c e => by
    obtain ⟨v', hc, hv'⟩ := F.cells y c e
    have hne : c ≠ env.locals := by
      rintro rfl
      obtain ⟨o, ho, hd⟩ := hc
      obtain ⟨o', es, ep, ho', hd', _⟩ := hm
      rw [ho] at ho'; cases ho'; rw [hd] at hd'; cases hd'
    refine ⟨v', hc.sameBut hs hne, fun e' he k => hv' e' ?_ k⟩
    rw [List.lookup_cons] at he
    have q : y ≠ x := by rintro rfl; rw [hl] at k; cases k
    rwa [beq_eq_false_iff_ne.mpr q] at he
  wr := F.wr
  apart := F.apart
  own := fun a ds e => by
    obtain ⟨h1, h2, o, vs, n, ho, hc, hd, r⟩ := F.own a ds e
    have hne : a ≠ env.locals := by
      rintro rfl
      obtain ⟨o', es, ep, ho', hd', _⟩ := hm
      rw [ho] at ho'; cases ho'; rw [hd] at hd'; cases hd'
    exact ⟨h1, h2, o, vs, n, (hs.2 a hne).trans ho, hc, hd, r⟩

theorem Frm.storeC {S : PM} {h h' : Heap} {x : Str} {v : Value} {d : D} {c : Addr} (F : Frm X B S env O h Γ) (hl : env.kindOf x = some .cell) (hr : Rd S v d) (hw : B.W x = true)
    (hc : env.cells.lookup x = some c) (hn : h'.IsCell c (some v)) (hs : Heap.SameBut c h h') : Frm X B S env O h' ((x, d) :: Γ) where
  base := F.base
  sub := fun a o e => (hs.2 a (fun q => by rw [q, (F.wr x c hc hw).1] at e; cases e)).trans (F.sub a o e)
  keep := fun a o e => (hs.2 a (fun q => by rw [q, (F.wr x c hc hw).2] at e; cases e)).trans (F.keep a o e)
  old := F.old
  loc := F.loc
  locH := F.locH
  ns := by
    obtain ⟨m, hm, hv⟩ := F.ns
    have hne : env.locals ≠ c := by
      rintro rfl
      obtain ⟨_, ⟨o, ho, hd⟩, _⟩ := F.cells x _ hc
      obtain ⟨o', es, ep, ho', hd', _⟩ := hm
      rw [ho] at ho'; cases ho'; rw [hd] at hd'; cases hd'
    refine ⟨m, hm.sameBut hs hne, fun y e he k => hv y e ?_ k⟩
    rw [List.lookup_cons] at he
    have q : y ≠ x := by rintro rfl; rw [hl] at k; cases k
    rwa [beq_eq_false_iff_ne.mpr q] at he
  neg := fun q => by
    obtain ⟨m, hm, hv⟩ := F.neg q
    have hne : env.locals ≠ c := by
      rintro rfl
      obtain ⟨_, ⟨o, ho, hd⟩, _⟩ := F.cells x _ hc
      obtain ⟨o', es, ep, ho', hd', _⟩ := hm
      rw [ho] at ho'; cases ho'; rw [hd] at hd'; cases hd'
    exact ⟨m, hm.sameBut hs hne, hv⟩
  cells := fun y c' e => by
    by_cases q : y = x
    · subst q
      rw [hc] at e; cases e
      refine ⟨some v, hn, fun e' he k => ?_⟩
      rw [List.lookup_cons, beq_self_eq_true] at he
      cases he
      exact ⟨v, rfl, hr⟩
    · obtain ⟨v', hc', hv'⟩ := F.cells y c' e
      have hne : c' ≠ c := by rintro rfl; exact q (F.apart y x _ e hc)
      refine ⟨v', hc'.sameBut hs hne, fun e' he k => hv' e' ?_ k⟩
      rw [List.lookup_cons] at he
      rwa [beq_eq_false_iff_ne.mpr q] at he
  wr := F.wr
  apart := F.apart
  own := fun a ds e => by
    obtain ⟨h1, h2, o, vs, n, ho, hc', hd, r⟩ := F.own a ds e
    have hne : a ≠ c := by
      rintro rfl
      obtain ⟨_, ⟨o', ho', hd'⟩, _⟩ := F.cells x _ hc
      rw [ho] at ho'; cases ho'; rw [hd] at hd'; cases hd'
    exact ⟨h1, h2, o, vs, n, (hs.2 a hne).trans ho, hc', hd, r⟩

/-- a name may be stored -/
inductive Sto (B : Base) (env : Env) (x : Str) : Prop
  | loc : env.kindOf x = some .local → Sto B env x
  | cell {c : Addr} : env.kindOf x = some .cell → env.cells.lookup x = some c → B.W x = true → (hk : env.scope.kind = .function := by rfl) → Sto B env x

theorem storeName_F {A : Around} {s : Shared} {S : PM} {x : Str} {v : Value} {d : D} {Q : Unit → Shared → Prop} {E : Value → Shared → Prop} (F : Frm X B S env O s.heap Γ) (st : Sto B env x) (hr : Rd S v d) (hk : kindOk env = true)
    (k : ∀ h' tk, Evo env O S s.heap O S h' → Frm X B S env O h' ((x, d) :: Γ) → Q () { s with heap := h', toks := tk }) : wpAny X.M A (storeName env x v) Q E s := by
  cases st with
  | loc hl =>
    obtain ⟨m, hm, hv⟩ := F.ns
    refine wpAny_storeName_local hl hm (fun h' hn hs => k h' _ ⟨.refl S, fun _ _ _ e _ => e, fun a o e n1 _ _ => (hs.2 a n1).trans e, fun a e => ?_, fun _ _ e => e⟩ (F.store hl hr hm hv hn hs)) (kindOk_plain hk)
    by_cases q : a = env.locals
    · subst q; obtain ⟨o, _, _, ho, _⟩ := hn; rw [ho]; rfl
    · rw [hs.2 a q]; exact e
  | @cell c hl hc hw hkf =>
    obtain ⟨v₀, hcell, _⟩ := F.cells x _ hc
    refine wpAny_storeName_cell hkf hl hc hcell fun h' hn hs => k h' s.toks ⟨.refl S, fun _ _ _ e _ => e, fun a o e _ n2 _ => (hs.2 a fun q => n2 x (q ▸ hc)).trans e, fun a e => ?_, fun _ _ e => e⟩ (F.storeC hl hr hw hc hn hs)
    by_cases q : a = c
    · subst q; obtain ⟨o, ho, _⟩ := hn; rw [ho]; rfl
    · rw [hs.2 a q]; exact e

theorem Ex1.assign {x : Str} {p' : Pos} {e : Expr} {pos : Pos} {d : D} (h : Ev X n B env O Γ e d) (st : Sto B env x) (hk : kindOk env = true := by rfl)
    (hs : swapsWith e (some (.Name x p')) pos.line env = pure false := by rfl) : Ex1 X n B env O Γ (.Assign [.Name x p'] e pos) fun f O' Γ' => f = .next ∧ O' = O ∧ Γ' = (x, d) :: Γ := by
  intro A s S Q E ok F k
  refine wpAny_Assign_Name (h A s S _ _ ok F fun S₁ v h₁ t₁ a₁ r₁ => ?_) hs
  exact storeName_F (F.adv a₁) st r₁ hk fun h' tk ev F' => k S₁ _ _ O _ h' tk (a₁.evo.trans ev) F' .next ⟨rfl, rfl, rfl⟩

theorem Ex1.ret {e : Expr} {pos : Pos} {d : D} (h : Ev X n B env O Γ e d) : Ex1 X n B env O Γ (.Return (some e) pos) fun f O' Γ' => f = .ret d ∧ O' = O ∧ Γ' = Γ := by
  intro A s S Q E ok F k
  exact wpAny_Return_some (h A s S _ _ ok F fun S₁ v h₁ t₁ a₁ r₁ => k S₁ _ _ O Γ h₁ t₁ a₁.evo (F.adv a₁) (.ret r₁) ⟨rfl, rfl, rfl⟩)
theorem Ex.ret {e : Expr} {pos : Pos} {rest : List Stmt} {d : D} (h : Ev X n B env O Γ e d) (hΦ : Φ (.ret d) O Γ) : Ex X n B env O Γ (.Return (some e) pos :: rest) Φ :=
  Ex.cons (Ex1.ret h) (fun _ _ h => nomatch h.1) fun f O' Γ' _ h => by obtain ⟨rfl, rfl, rfl⟩ := h; exact hΦ

theorem Ex1.if {t : Expr} {body orelse : List Stmt} {pos : Pos} {b : Bool} (ht : Tr X n B env O Γ t b) (h1 : b = true → Ex X n B env O Γ body Φ) (h2 : b = false → Ex X n B env O Γ orelse Φ) : Ex1 X n B env O Γ (.If t body orelse pos) Φ := by
  intro A s S Q E ok F k
  refine wpAny_If (ht A s S _ _ ok F fun S₁ h₁ t₁ a₁ => ?_)
  cases b with
  | true => exact h1 rfl A _ S₁ _ _ ok (F.adv a₁) fun S₂ fl f O₂ Γ₂ hp₂ t₂ l₂ F₂ r₂ p₂ => k S₂ fl f O₂ Γ₂ hp₂ t₂ (a₁.evo.trans l₂) F₂ r₂ p₂
  | false => exact h2 rfl A _ S₁ _ _ ok (F.adv a₁) fun S₂ fl f O₂ Γ₂ hp₂ t₂ l₂ F₂ r₂ p₂ => k S₂ fl f O₂ Γ₂ hp₂ t₂ (a₁.evo.trans l₂) F₂ r₂ p₂
/-- an if that is not taken -/
theorem Ex.ifFalse {t : Expr} {body : List Stmt} {pos : Pos} {rest : List Stmt} (ht : Tr X n B env O Γ t false) (h : Ex X n B env O Γ rest Φ) : Ex X n B env O Γ (.If t body [] pos :: rest) Φ :=
  Ex.step (Ex1.if ht (fun q => nomatch q) fun _ => Ex.nil ⟨rfl, rfl, rfl⟩) h
end
end Mine

end
section
open PySem PySem.Calls PyProof.Rows PySem.W
set_option linter.unusedVariables false
set_option maxRecDepth 100000
namespace Mine

theorem Adv.none {S S' : PM} {h h' : Heap} {a : Addr} (x : Adv S h S' h') (hs : S a = none) (al : (h.get? a).isSome = true) : S' a = none := by
  cases q : S' a with
  | none => rfl
  | some o =>
    obtain ⟨o', e⟩ := Option.isSome_iff_exists.mp al
    have h1 := x.sub _ _ q
    rw [x.ext _ _ e] at h1; cases h1
    have := x.new _ _ e q
    rw [hs] at this; cases this
theorem Evo.none {env : Env} {O O' : Own} {S S' : PM} {h h' : Heap} {a : Addr} (x : Evo env O S h O' S' h') (hs : S a = none) (al : (h.get? a).isSome = true) (ho : O a = Option.none) : S' a = none := by
  cases q : S' a with
  | none => rfl
  | some o =>
    have := x.new _ _ al q ho
    rw [hs] at this; cases this

section
variable {X : Cx} {n : Nat} {B : Base} {env : Env} {O : Own} {Γ : Gam}

/-- an address that is none of the frame's own -/
structure Out (B : Base) (S : PM) (env : Env) (O : Own) (I : Addr) : Prop where
  s : S I = none
  H : B.H.get? I = none
  l : I ≠ env.locals
  c : ∀ x, env.cells.lookup x ≠ some I
  o : O I = none

theorem Frm.extBut {S : PM} {h h' : Heap} {I : Addr} (F : Frm X B S env O h Γ) (o : Out B S env O I) (hx : ∀ b o, b ≠ I → h.get? b = some o → h'.get? b = some o) : Frm X B S env O h' Γ where
  base := F.base
  sub := fun a ob e => hx a ob (fun q => by rw [q, o.s] at e; cases e) (F.sub a ob e)
  keep := fun a ob e => hx a ob (fun q => by rw [q, o.H] at e; cases e) (F.keep a ob e)
  old := F.old
  loc := F.loc
  locH := F.locH
  ns := by
    obtain ⟨m, hm, hv⟩ := F.ns
    exact ⟨m, hm.extBut (fun b ob q e => hx b ob q e) (Ne.symm o.l), hv⟩
  neg := fun q => let ⟨m, hm, hv⟩ := F.neg q; ⟨m, hm.extBut (fun b ob q e => hx b ob q e) (Ne.symm o.l), hv⟩
  cells := fun x c e => by
    obtain ⟨v, ⟨oc, hc, hd⟩, hv⟩ := F.cells x c e
    exact ⟨v, ⟨oc, hx c oc (fun q => o.c x (q ▸ e)) hc, hd⟩, hv⟩
  wr := F.wr
  apart := F.apart
  own := fun a ds e => by
    obtain ⟨h1, h2, oa, vs, k, ho, r⟩ := F.own a ds e
    exact ⟨h1, h2, oa, vs, k, hx a oa (fun q => by rw [q, o.o] at e; cases e) ho, r⟩

/-- fresh in the heap: none of the frame's own -/
theorem Frm.out {S : PM} {h : Heap} {I : Addr} (F : Frm X B S env O h Γ) (hI : h.get? I = none) : Out B S env O I where
  s := by
    cases q : S I with
    | none => rfl
    | some o => have := F.sub _ _ q; rw [hI] at this; cases this
  H := by
    cases q : B.H.get? I with
    | none => rfl
    | some o => have := F.keep _ _ q; rw [hI] at this; cases this
  l := by
    rintro rfl
    obtain ⟨m, ⟨o, _, _, ho, _⟩, _⟩ := F.ns
    rw [hI] at ho; cases ho
  c := fun x e => by
    obtain ⟨v, ⟨oc, hc, _⟩, _⟩ := F.cells x _ e
    rw [hI] at hc; cases hc
  o := by
    cases q : O I with
    | none => rfl
    | some ds => obtain ⟨_, _, o, _, _, ho, _⟩ := F.own _ _ q; rw [hI] at ho; cases ho
theorem Out.adv {S S' : PM} {h h' : Heap} {I : Addr} (o : Out B S env O I) (a : Adv S h S' h') (al : (h.get? I).isSome = true) : Out B S' env O I := { o with s := a.none o.s al }
theorem Out.evo {S S' : PM} {O' : Own} {h h' : Heap} {I : Addr} (o : Out B S env O I) (a : Evo env O S h O' S' h') (al : (h.get? I).isSome = true) : Out B S' env O' I := { o with s := a.none o.s al o.o, o := a.own I al o.o }

/-- an iterator at its start: what it will hand out -/
structure ItAt (X : Cx) (A : Around) (S : PM) (h : Heap) (I : Addr) (xs : List D) (fp : List Addr) (P : Nat → Value → Prop) (St : Nat → Heap → Prop) : Prop where
  W : Walks X.prog X.w A I fp [I] xs.length P St
  st : St 0 h
  fp : ∀ b ∈ fp, b ≠ I → ∃ o, S b = some o
  al : (h.get? I).isSome = true
  stal : ∀ i h, St i h → (h.get? I).isSome = true
  rd : ∀ i v d, P i v → xs[i]? = some d → Rd S v d

def EvIt (X : Cx) (n : Nat) (B : Base) (env : Env) (O : Own) (Γ : Gam) (e : Expr) (xs : List D) : Prop :=
  ∀ (A : Around) (s : Shared) (S : PM) (Q : Value → Shared → Prop) (E : Value → Shared → Prop), Ok n A → Frm X B S env O s.heap Γ →
    (∀ S' h₁ I h' tk fp P St, Adv S s.heap S' h₁ → Ext h₁ h' → h₁.get? I = none → ItAt X A S' h' I xs fp P St → Q (.ref I) { s with heap := h', toks := tk }) →
    wpAny X.M A (eval e env) (fun x s₁ => wpAny X.M A (pyIter x) Q E s₁) E s

theorem none_size (h : Heap) : h.get? h.objs.size = none := by
  cases q : h.get? h.objs.size with
  | none => rfl
  | some o => exact absurd (Heap.lt_size q) (Nat.lt_irrefl _)

theorem EvIt.list {e : Expr} {xs : List D} (h : Ev X n B env O Γ e (.list xs)) : EvIt X n B env O Γ e xs := by
  intro A s S Q E ok F k
  refine h A s S _ _ ok F fun S₁ v h₁ t₁ a₁ r₁ => ?_
  cases r₁ with
  | @list a o vs m _ h1 h2 h3 h4 =>
    have hl : h₁.IsList a vs.toArray := ⟨o, a₁.sub _ _ h1, h2, m, h3⟩
    refine wpAny_pyIter_list (s := { s with heap := h₁, toks := t₁ }) hl ?_
    have hne : a ≠ h₁.objs.size := Nat.ne_of_lt (Heap.lt_size (a₁.sub _ _ h1))
    refine k S₁ h₁ h₁.objs.size _ t₁ [h₁.objs.size, a] (fun i v => vs.toArray[i]? = some v) (fun i h => h.IsListIter h₁.objs.size a i ∧ h.IsList a vs.toArray) a₁ (Ext.push _ _) (none_size _) ⟨?_, ?_, ?_, ?_, ?_, ?_⟩
    · have := Walks.list (prog := X.prog) (w := X.w) ok.1 h₁.objs.size a hne vs.toArray
      rw [show vs.toArray.size = xs.length by rw [List.size_toArray]; exact h4.length] at this
      exact this
    · exact ⟨⟨_, Heap.get?_push_size _ rfl, rfl, rfl⟩, o, Heap.get?_push_of_some _ (a₁.sub _ _ h1), h2, m, h3⟩
    · intro b hb hn
      simp at hb
      rcases hb with rfl | rfl
      · exact absurd rfl hn
      · exact ⟨o, h1⟩
    · rw [Heap.get?_push_size _ rfl]; rfl
    · rintro i h ⟨⟨o, ho, _⟩, _⟩; rw [ho]; rfl
    · intro i v d hv hd
      obtain ⟨v', e, r⟩ := h4.get hd
      rw [List.getElem?_toArray] at hv
      rw [hv] at e; cases e; exact r

theorem EvIt.str {e : Expr} {x : Str} (h : Ev X n B env O Γ e (.str x)) : EvIt X n B env O Γ e (x.cps.toList.map fun c => .str ⟨#[c]⟩) := by
  intro A s S Q E ok F k
  refine h A s S _ _ ok F fun S₁ v h₁ t₁ a₁ r₁ => ?_
  have key : ∀ (ty : String) (t : Tok), Walks X.prog X.w A h₁.objs.size [h₁.objs.size] [h₁.objs.size] x.cps.size (SignAt x) (fun i h => h.IsStrIter h₁.objs.size ty x t i) →
      Q (.ref h₁.objs.size) { s with heap := h₁.push { cls := .type ty, data := .fields #[.str x t, .int 0 0] }, toks := t₁ } := fun ty t W => by
    refine k S₁ h₁ h₁.objs.size _ t₁ [h₁.objs.size] (SignAt x) (fun i h => h.IsStrIter h₁.objs.size ty x t i) a₁ (Ext.push _ _) (none_size _) ⟨?_, ?_, ?_, ?_, ?_, ?_⟩
    · rw [show x.cps.size = (x.cps.toList.map fun c => D.str ⟨#[c]⟩).length by simp] at W
      exact W
    · exact ⟨_, Heap.get?_push_size _ rfl, rfl, rfl⟩
    · intro b hb hn; simp at hb; exact absurd hb hn
    · rw [Heap.get?_push_size _ rfl]; rfl
    · rintro i h ⟨o, ho, _⟩; rw [ho]; rfl
    · rintro i v d ⟨c, u, hc, rfl⟩ hd
      rw [List.getElem?_map, Array.getElem?_toList, hc] at hd
      cases hd
      exact .str _ _
  obtain ⟨t, rfl⟩ := r₁.inv_str
  cases ha : x.cps.all (· < 128)
  · exact wpAny_pyIter_wide (s := { s with heap := h₁, toks := t₁ }) ha (key _ t (Walks.strWide ok.1 _ x t))
  · exact wpAny_pyIter_ascii (s := { s with heap := h₁, toks := t₁ }) ha (key _ t (Walks.strAscii ok.1 _ x t))

theorem walks_range {A : Around} (hh : A.handled = none) (I : Addr) (m : Nat) :
    Walks X.prog X.w A I [I] [I] m (fun i v => ∃ t, v = .int i t) (fun i h => IsRangeIter h I (i : Int) ((m : Int) - i) 1 ∧ i ≤ m) where
  sub := fun _ hb => hb
  frame := fun i h h' st hk => ⟨hk I (by simp) _ st.1, st.2⟩
  item := fun i s Q E hi st hQ => by
    refine wpAny_pyNext_range_item st.1 (by omega) fun h' hit hs => ?_
    refine hQ _ h' _ ⟨_, rfl⟩ ⟨?_, hi⟩ fun b o hb e => hs.extBut b o (fun h => hb (by simp [h])) e
    rw [show ((i + 1 : Nat) : Int) = (i : Int) + 1 by omega, show (m : Int) - ((i : Int) + 1) = (m : Int) - i - 1 by omega]
    exact hit
  done := fun s Q E st hQ => wpAny_pyNext_range_end hh st.1 (by omega) fun h' he' => hQ h' s.toks fun b o hb e => he' b o (fun h => hb (by simp [h])) e
  self := fun i s Q E st hQ => by
    have hT : s.TypeIs (.ref I) "range_iterator" := ⟨_, st.1, rfl⟩
    refine wpAny_pyIter_slot hT F.slot_range_iterator_iter (wpAny_call_entry F.slot_range_iterator_iter hT F.entry_range_iterator_iter ?_ (F.args_range_iterator_iter_1 _))
    show wpAny _ _ (ret (.ref I)) _ _ s
    exact wpAny_pure ⟨_, rfl, "range_iterator", _, hT, F.slot_range_iterator_next.lookup, hQ⟩

theorem rangeSize_is (m : Nat) : Builtin.Range.rangeSize 0 m 1 = m := by
  unfold Builtin.Range.rangeSize
  simp <;> omega

theorem EvIt.range {e : Expr} {m : Nat} (h : Ev X n B env O Γ e (.range m)) (hm : Builtin.Range.small 0 m 1 = true) : EvIt X n B env O Γ e ((List.range m).map fun i : Nat => D.int (i : Int)) := by
  intro A s S Q E ok F k
  refine h A s S _ _ ok F fun S₁ v h₁ t₁ a₁ r₁ => ?_
  cases r₁ with
  | @range r _ t u v h1 =>
    refine wpAny_pyIter_range (s := { s with heap := h₁, toks := t₁ }) (a₁.sub _ _ h1) hm ?_
    refine k S₁ h₁ h₁.objs.size _ t₁ [h₁.objs.size] (fun i v => ∃ t, v = .int i t) (fun i h => IsRangeIter h h₁.objs.size (i : Int) ((m : Int) - i) 1 ∧ i ≤ m) a₁ (Ext.push _ _) (none_size _) ⟨?_, ?_, ?_, ?_, ?_, ?_⟩
    · rw [show ((List.range m).map fun i : Nat => D.int (i : Int)).length = m by simp]
      exact walks_range ok.1 _ m
    · refine ⟨?_, Nat.zero_le _⟩
      rw [rangeSize_is]
      show (h₁.push _).get? h₁.objs.size = _
      rw [Heap.get?_push_size _ rfl]
      simp
    · intro b hb hn; simp at hb; exact absurd hb hn
    · rw [Heap.get?_push_size _ rfl]; rfl
    · rintro i h ⟨ho, _⟩; rw [ho]; rfl
    · rintro i v d ⟨t, rfl⟩ hd
      rw [List.getElem?_map] at hd
      by_cases q : i < m
      · rw [List.getElem?_range q] at hd
        cases hd; exact .int _ _
      · rw [List.getElem?_eq_none (by simp; omega)] at hd; cases hd

/-! ### for -/
theorem Ex1.for {iter : Expr} {x : Str} {px pos : Pos} {body : List Stmt} {xs : List D} (I : Nat → Own → Gam → Prop) (hit : EvIt X n B env O Γ iter xs) (h0 : I 0 O Γ)
    (step : ∀ i d O' Γ', xs[i]? = some d → I i O' Γ' → Ex X n B env O' ((x, d) :: Γ') body fun f O'' Γ'' => f = .next ∧ I (i + 1) O'' Γ'')
    (st : Sto B env x) (hk : kindOk env = true := by rfl) (hs : ∀ x, foldedSetIterable iter env x = pure x := by intro _; rfl) :
    Ex1 X n B env O Γ (.For (.Name x px) iter body [] pos) fun f O' Γ' => f = .next ∧ I xs.length O' Γ' := by
  intro A s S Q E ok F k
  refine wpAny_For (hit A s S _ _ ok F fun S₁ h₁ J h' tk fp P St a₁ ext hJ it => ?_) hs
  have F₁ := F.adv a₁
  have out : Out B S₁ env O J := F₁.out hJ
  have F₂ : Frm X B S₁ env O h' Γ := F₁.extBut out fun b o _ e => ext b o e
  refine codeAny_forLoop (fun kk s' => ∃ i S' O' Γ' h₂ t₂, s' = { s with heap := h₂, toks := t₂ } ∧ i ≤ xs.length ∧ kk = xs.length + 1 - i ∧ St i h₂ ∧ Frm X B S' env O' h₂ Γ' ∧ I i O' Γ' ∧ Out B S' env O' J ∧ Evo env O S s.heap O' S' h₂ ∧ Le S₁ S') ?_ (xs.length + 1)
    ⟨0, S₁, O, Γ, h', tk, rfl, Nat.zero_le _, rfl, it.st, F₂, h0, out, ⟨a₁.le, a₁.evo (env := env) (O := O) |>.new, fun a o e _ _ _ => ext a o (a₁.ext a o e), fun a e => ?_, fun _ _ e => e⟩, .refl _⟩
  · rintro kk s' ⟨i, S', O', Γ', h₂, t₂, rfl, hi, rfl, hst, F', hI, out', ev, le⟩
    by_cases hlt : i < xs.length
    · refine it.W.item i _ _ _ hlt hst fun v h₃ t₃ hP hst₃ hk₃ => ?_
      have hk₃' : ∀ b o, b ≠ J → h₂.get? b = some o → h₃.get? b = some o := fun b o q e => hk₃ b o (by simpa using q) e
      have F₃ : Frm X B S' env O' h₃ Γ' := F'.extBut out' hk₃'
      obtain ⟨d, hd⟩ : ∃ d, xs[i]? = some d := ⟨xs[i], by simp [hlt]⟩
      have alJ := it.stal _ _ hst₃
      refine wpAny_assign_Name (storeName_F F₃ st ((it.rd i v d hP hd).mono le) hk fun h₄ t₄ ev₄ F₄ => ?_)
      refine step i d O' Γ' hd hI A _ S' _ _ ok F₄ fun S₅ fl f O₅ Γ₅ h₅ t₅ ev₅ F₅ r₅ p₅ => ?_
      obtain ⟨rfl, hI₅⟩ := p₅
      cases r₅
      have ev45 := ev₄.trans ev₅
      have out₅ := out'.evo ev45 alJ
      refine ⟨xs.length + 1 - (i + 1), by omega, i + 1, S₅, O₅, Γ₅, h₅, t₅, rfl, hlt, rfl, ?_, F₅, hI₅, out₅, ?_, le.trans ev45.le⟩
      · refine it.W.frame _ _ _ hst₃ fun b hb o e => ?_
        by_cases q : b = J
        · subst q; exact ev45.ext _ _ e out'.l out'.c out'.o
        · obtain ⟨o', hS⟩ := it.fp b hb q
          have hs' := le _ _ hS
          have h1 := F₃.sub _ _ hs'
          rw [e] at h1; cases h1
          exact F₅.sub _ _ (ev45.le _ _ hs')
      · refine ⟨ev.le.trans ev45.le, fun a o e e' q' => ?_, fun a o e n1 n2 n3 => ?_, fun a e => ?_, fun a e q => ?_⟩
        · have hne : a ≠ J := by rintro rfl; obtain ⟨o', q⟩ := Option.isSome_iff_exists.mp e; rw [a₁.ext _ _ q] at hJ; cases hJ
          obtain ⟨o₂, q₂⟩ := Option.isSome_iff_exists.mp (ev.alv a e)
          exact ev.new a o e (ev45.new a o (by rw [hk₃' _ _ hne q₂]; rfl) e' (ev.own a e q')) q'
        · have hne : a ≠ J := by rintro rfl; rw [a₁.ext _ _ e] at hJ; cases hJ
          exact ev45.ext a o (hk₃' _ _ hne (ev.ext a o e n1 n2 n3)) n1 n2 (ev.own a (by rw [e]; rfl) n3)
        · have hne : a ≠ J := by rintro rfl; obtain ⟨o', q⟩ := Option.isSome_iff_exists.mp e; rw [a₁.ext _ _ q] at hJ; cases hJ
          obtain ⟨o₂, q₂⟩ := Option.isSome_iff_exists.mp (ev.alv a e)
          exact ev45.alv a (by rw [hk₃' _ _ hne q₂]; rfl)
        · have hne : a ≠ J := by rintro rfl; obtain ⟨o', q⟩ := Option.isSome_iff_exists.mp e; rw [a₁.ext _ _ q] at hJ; cases hJ
          obtain ⟨o₂, q₂⟩ := Option.isSome_iff_exists.mp (ev.alv a e)
          exact ev45.own a (by rw [hk₃' _ _ hne q₂]; rfl) (ev.own a e q)
    · obtain rfl : i = xs.length := by omega
      refine it.W.done _ _ _ hst fun h₃ t₃ hk₃ => ?_
      have hk₃' : ∀ b o, b ≠ J → h₂.get? b = some o → h₃.get? b = some o := fun b o q e => hk₃ b o (by simpa using q) e
      refine wpAny_execs_nil ?_
      refine k S' _ _ O' Γ' h₃ t₃ ?_ (F'.extBut out' hk₃') .next ⟨rfl, hI⟩
      refine ⟨ev.le, ev.new, fun a o e n1 n2 n3 => ?_, fun a e => ?_, ev.own⟩
      · have hne : a ≠ J := by rintro rfl; rw [a₁.ext _ _ e] at hJ; cases hJ
        exact hk₃' _ _ hne (ev.ext a o e n1 n2 n3)
      · have hne : a ≠ J := by rintro rfl; obtain ⟨o', q⟩ := Option.isSome_iff_exists.mp e; rw [a₁.ext _ _ q] at hJ; cases hJ
        obtain ⟨o₂, q₂⟩ := Option.isSome_iff_exists.mp (ev.alv a e)
        rw [hk₃' _ _ hne q₂]; rfl
  · obtain ⟨o', q⟩ := Option.isSome_iff_exists.mp e
    rw [ext _ _ (a₁.ext _ _ q)]; rfl

/-! ### while -/
theorem Ex1.while {test : Expr} {body : List Stmt} {pos : Pos} (I : Nat → Own → Gam → Prop) (m : Nat) (h0 : I m O Γ)
    (turn : ∀ m O' Γ', I m O' Γ' → ∃ b, Tr X n B env O' Γ' test b ∧ (b = true → Ex X n B env O' Γ' body fun f O'' Γ'' => f = .next ∧ ∃ m', m' < m ∧ I m' O'' Γ'') ∧ (b = false → I 0 O' Γ')) :
    Ex1 X n B env O Γ (.While test body [] pos) fun f O' Γ' => f = .next ∧ I 0 O' Γ' := by
  intro A s S Q E ok F k
  refine wpAny_While ?_
  refine codeAny_whileLoop (fun kk s' => ∃ S' O' Γ' h₂ t₂, s' = { s with heap := h₂, toks := t₂ } ∧ Frm X B S' env O' h₂ Γ' ∧ I kk O' Γ' ∧ Evo env O S s.heap O' S' h₂) ?_ m ⟨S, O, Γ, s.heap, s.toks, rfl, F, h0, (Adv.refl F.sub).evo⟩
  rintro kk s' ⟨S', O', Γ', h₂, t₂, rfl, F', hI, ev⟩
  obtain ⟨b, ht, hb1, hb2⟩ := turn kk O' Γ' hI
  refine ht A _ S' _ _ ok F' fun S₃ h₃ t₃ a₃ => ?_
  cases b with
  | true =>
    refine hb1 rfl A _ S₃ _ _ ok (F'.adv a₃) fun S₅ fl f O₅ Γ₅ h₅ t₅ ev₅ F₅ r₅ p₅ => ?_
    obtain ⟨rfl, m', hm', hI₅⟩ := p₅
    cases r₅
    exact ⟨m', hm', S₅, O₅, Γ₅, h₅, t₅, rfl, F₅, hI₅, ev.trans (a₃.evo.trans ev₅)⟩
  | false =>
    exact wpAny_execs_nil (k S₃ _ _ O' Γ' h₃ t₃ (ev.trans a₃.evo) (F'.adv a₃) .next ⟨rfl, hb2 rfl⟩)
end
end Mine

end
section
open PySem PySem.Calls PyProof.Rows PySem.W
set_option linter.unusedVariables false
set_option maxRecDepth 100000
namespace Mine

/-! ### list comprehensions -/
/-- the clauses behind «if» -/
def TrS (X : Cx) (n : Nat) (B : Base) (env : Env) (O : Own) (Γ : Gam) (ifs : List Expr) (b : Bool) : Prop :=
  ∀ (A : Around) (s : Shared) (S : PM) (Q : Bool → Shared → Prop) (E : Value → Shared → Prop), Ok n A → Frm X B S env O s.heap Γ →
    (∀ S' h' tk, Adv S s.heap S' h' → Q b { s with heap := h', toks := tk }) →
    wpAny X.M A (forIn ifs true fun c r => if r = true then do let ok ← isTrue c env (eval c env); pure (ForInStep.yield ok) else pure (ForInStep.yield r)) Q E s

def resOf (p : Nat → Bool) (f : Nat → D) : Nat → List D
  | 0 => []
  | i + 1 => resOf p f i ++ (if p i = true then [f i] else [])

section
variable {X : Cx} {n : Nat} {B : Base} {env : Env} {O : Own} {Γ : Gam}
theorem TrS.nil : TrS X n B env O Γ [] true := fun A s S Q E ok F k => wpAny_pure (k S s.heap s.toks (.refl F.sub))
theorem TrS.one {c : Expr} {b : Bool} (h : Tr X n B env O Γ c b) : TrS X n B env O Γ [c] b := by
  intro A s S Q E ok F k
  rw [List.forIn_cons]
  refine wpAny_bind ?_
  simp only [if_true]
  refine wpAny_bind (h A s S _ _ ok F fun S₁ h₁ t₁ a₁ => wpAny_pure ?_)
  exact wpAny_pure (k S₁ h₁ t₁ a₁)

theorem resOf_len (p : Nat → Bool) (f : Nat → D) : ∀ i, (resOf p f i).length ≤ i
  | 0 => Nat.le_refl _
  | i + 1 => by
    unfold resOf
    have := resOf_len p f i
    rw [List.length_append]
    split <;> simp <;> omega

/-- how a comprehension's innermost loop is run -/
def LoopPrin (X : Cx) (A : Around) (env : Env) (elt : Expr) (x : Str) (px : Pos) (ifs : List Expr) (J Da : Addr) (c : Code) : Prop :=
  ∀ (R : Result → Shared → Prop) (s : Shared) (I : Nat → Shared → Prop),
    (∀ n s, I n s → wpAny X.M A (pyNext (.ref J)) (fun r s₁ => match r with
      | none => R (.ok .next) s₁
      | some v => wpAny X.M A (assign (.Name x px) env v) (fun _ s₂ =>
          wpAny X.M A (forIn ifs true fun c r => if r = true then do let ok ← isTrue c env (eval c env); pure (ForInStep.yield ok) else pure (ForInStep.yield r)) (fun ok s₃ =>
            if ok = true then wpAny X.M A (eval elt env) (fun x s₄ =>
              wpAny X.M A (call (.builtin "list.append") [.ref Da, x]) (fun _ s₅ => ∃ m, m < n ∧ I m s₅) (notedBy X.M A env fun e s' => R (.error e) s') s₄) (notedBy X.M A env fun e s' => R (.error e) s') s₃
            else ∃ m, m < n ∧ I m s₃) (notedBy X.M A env fun e s' => R (.error e) s') s₂) (notedBy X.M A env fun e s' => R (.error e) s') s₁) (notedBy X.M A env fun e s' => R (.error e) s') s) →
    ∀ n, I n s → codeAny X.M A c R s
theorem LoopPrin.one {A : Around} {elt iter : Expr} {x : Str} {px pos : Pos} {ifs : List Expr} {scope : Scope} {J Da : Addr} :
    LoopPrin X A env elt x px ifs J Da (.compLoop (.ListComp elt [⟨.Name x px, iter, ifs, 0⟩] scope pos) 0 (.ref J) (.ref Da) env) := fun R s I turn n h => codeAny_compLoop_tests I turn n h

theorem comp_loop {A : Around} {s : Shared} {S : PM} {elt : Expr} {x : Str} {px : Pos} {ifs : List Expr} {J Da : Addr} {c : Code} {xs : List D} {fp : List Addr} {P : Nat → Value → Prop} {St : Nat → Heap → Prop} {p : Nat → Bool} {f : Nat → D}
    {R : Result → Shared → Prop} {vs₀ : Array Value} {ds₀ : List D} (prin : LoopPrin X A env elt x px ifs J Da c) (ok : Ok n A) (F : Frm X B S env noOwn s.heap Γ) (it : ItAt X A S s.heap J xs fp P St) (oJ : Out B S env noOwn J) (oD : Out B S env noOwn Da) (hJD : J ≠ Da) (hacc : s.heap.PlainList Da vs₀)
    (hr₀ : RdL S vs₀.toList ds₀) (st : Sto B env x)
    (hk : env.scope.kind = .function) (hxΓ : Γ.lookup x = none) (hsz : ds₀.length + xs.length ≤ sizeLine)
    (htest : ∀ i d, xs[i]? = some d → TrS X n B env noOwn ((x, d) :: Γ) ifs (p i)) (helt : ∀ i d, xs[i]? = some d → p i = true → Ev X n B env noOwn ((x, d) :: Γ) elt (f i))
    (hR : ∀ h' tk S' vs, Evo env noOwn S s.heap noOwn S' s.heap → (∀ b o, b ≠ J → b ≠ Da → b ≠ env.locals → (∀ y, env.cells.lookup y ≠ some b) → s.heap.get? b = some o → h'.get? b = some o) → Frm X B S' env noOwn h' Γ → Out B S' env noOwn Da → h'.PlainList Da vs → RdL S' vs.toList (ds₀ ++ resOf p f xs.length) → R (.ok .next) { s with heap := h', toks := tk }) :
    codeAny X.M A c R s := by
  have hw : ∀ {d : D} {y : Str} {e : D}, Γ.lookup y = some e → ((x, d) :: Γ).lookup y = some e := fun {d y e} h => by
    rw [List.lookup_cons]
    have : y ≠ x := by rintro rfl; rw [hxΓ] at h; cases h
    rw [beq_eq_false_iff_ne.mpr this]; exact h
  refine prin R s (fun kk s' => ∃ i S' h₂ t₂ vs, s' = { s with heap := h₂, toks := t₂ } ∧ i ≤ xs.length ∧ kk = xs.length + 1 - i ∧ St i h₂ ∧ Frm X B S' env noOwn h₂ Γ ∧ Out B S' env noOwn J ∧ Out B S' env noOwn Da ∧ h₂.PlainList Da vs ∧ RdL S' vs.toList (ds₀ ++ resOf p f i) ∧ Le S S' ∧
      (∀ b o, (s.heap.get? b).isSome = true → S' b = some o → S b = some o) ∧ (∀ b o, b ≠ J → b ≠ Da → b ≠ env.locals → (∀ y, env.cells.lookup y ≠ some b) → s.heap.get? b = some o → h₂.get? b = some o) ∧ (∀ b, b ≠ J → (s.heap.get? b).isSome = true → (h₂.get? b).isSome = true))
    ?_ (xs.length + 1) ⟨0, S, s.heap, s.toks, vs₀, rfl, Nat.zero_le _, rfl, it.st, F, oJ, oD, hacc, by simpa [resOf] using hr₀, .refl S, fun _ _ _ e => e, fun _ _ _ _ _ _ e => e, fun _ _ e => e⟩
  rintro kk s' ⟨i, S', h₂, t₂, vs, rfl, hi, rfl, hst, F', oJ', oD', hpl, hrd, le, hnew, hext, halv⟩
  by_cases hlt : i < xs.length
  · refine it.W.item i _ _ _ hlt hst fun v h₃ t₃ hP hst₃ hk₃ => ?_
    have hk₃' : ∀ b o, b ≠ J → h₂.get? b = some o → h₃.get? b = some o := fun b o q e => hk₃ b o (by simpa using q) e
    have F₃ : Frm X B S' env noOwn h₃ Γ := F'.extBut oJ' hk₃'
    obtain ⟨d, hd⟩ : ∃ d, xs[i]? = some d := ⟨xs[i], by simp [hlt]⟩
    have alJ := it.stal _ _ hst₃
    have hpl₃ : h₃.PlainList Da vs := hpl.at fun o e => hk₃' _ _ (Ne.symm hJD) e
    have alD : (h₃.get? Da).isSome = true := by obtain ⟨k, hq⟩ := hpl₃; rw [hq]; rfl
    refine wpAny_assign_Name (storeName_F F₃ st ((it.rd i v d hP hd).mono le) (kindOk_of hk) fun h₄ t₄ ev₄ F₄ => ?_)
    refine htest i d hd A _ S' _ _ ok F₄ fun S₅ h₅ t₅ a₅ => ?_
    have ev5 := ev₄.trans a₅.evo
    have F₅ := F₄.adv a₅
    have oJ₅ := oJ'.evo ev5 alJ
    have oD₅ := oD'.evo ev5 alD
    have hpl₅ : h₅.PlainList Da vs := hpl₃.at fun o e => ev5.ext _ _ e oD'.l oD'.c oD'.o
    have alv3 : ∀ b, b ≠ J → (s.heap.get? b).isSome = true → (h₃.get? b).isSome = true := fun b q e => by
      obtain ⟨o, e⟩ := Option.isSome_iff_exists.mp (halv b q e)
      rw [hk₃' b o q e]; rfl
    have alv3' : ∀ b, (s.heap.get? b).isSome = true → (h₃.get? b).isSome = true := fun b e => by
      by_cases q : b = J
      · subst q; exact alJ
      · exact alv3 b q e
    have frame : ∀ {S'' : PM} {h'' : Heap}, Frm X B S'' env noOwn h'' Γ → Le S' S'' → (∀ o, h₃.get? J = some o → h''.get? J = some o) → St (i + 1) h'' := fun {S'' h''} F'' l q => by
      refine it.W.frame _ _ _ hst₃ fun b hb o e => ?_
      by_cases hbJ : b = J
      · subst hbJ; exact q o e
      · obtain ⟨o', hS⟩ := it.fp b hb hbJ
        have hs' := le _ _ hS
        have h1 := F₃.sub _ _ hs'
        rw [e] at h1; cases h1
        exact F''.sub _ _ (l _ _ hs')
    cases hp : p i with
    | false =>
      simp only [Bool.false_eq_true, if_false]
      refine ⟨xs.length + 1 - (i + 1), by omega, i + 1, S₅, h₅, t₅, vs, rfl, hlt, rfl, ?_, F₅.weaken fun y e => hw, oJ₅, oD₅, hpl₅, ?_, le.trans ev5.le, ?_, ?_, ?_⟩
      · exact frame (F₅.weaken fun y e => hw) ev5.le fun o e => ev5.ext _ _ e oJ'.l oJ'.c oJ'.o
      · unfold resOf; rw [hp]; simpa using hrd.mono ev5.le
      · exact fun b o e e' => hnew b o e (ev5.new b o (alv3' b e) e' rfl)
      · exact fun b o n1 n2 n3 n4 e => ev5.ext b o (hk₃' b o n1 (hext b o n1 n2 n3 n4 e)) n3 n4 rfl
      · exact fun b n1 e => ev5.alv b (alv3 b n1 e)
    | true =>
      simp only [if_true]
      refine helt i d hd hp A _ S₅ _ _ ok F₅ fun S₆ y h₆ t₆ a₆ r₆ => ?_
      have ev6 := ev5.trans a₆.evo
      have oJ₆ := oJ'.evo ev6 alJ
      have oD₆ := oD'.evo ev6 alD
      have hpl₆ : h₆.PlainList Da vs := hpl₃.at fun o e => ev6.ext _ _ e oD'.l oD'.c oD'.o
      have hlen : vs.size ≤ sizeLine := by
        have e1 := hrd.length
        rw [List.length_append] at e1
        have e2 := resOf_len p f i
        have e3 : vs.toList.length = vs.size := by simp
        omega
      refine wpAny_list_append_plain (hsz := hlen) (s := { s with heap := h₆, toks := t₆ }) hpl₆ fun h₇ hl₇ hs₇ => ?_
      have F₇ : Frm X B S₆ env noOwn h₇ Γ := ((F₅.adv a₆).weaken fun y e => hw).extBut oD₆ fun b o q e => hs₇.extBut b o q e
      refine ⟨xs.length + 1 - (i + 1), by omega, i + 1, S₆, h₇, t₆, vs.push y, rfl, hlt, rfl, ?_, F₇, oJ₆, oD₆, hl₇, ?_, le.trans ev6.le, ?_, ?_, ?_⟩
      · exact frame F₇ ev6.le fun o e => hs₇.extBut _ _ hJD (ev6.ext _ _ e oJ'.l oJ'.c oJ'.o)
      · unfold resOf; rw [hp, if_pos rfl, ← List.append_assoc]; simpa using (hrd.mono ev6.le).snoc r₆
      · exact fun b o e e' => hnew b o e (ev6.new b o (alv3' b e) e' rfl)
      · exact fun b o n1 n2 n3 n4 e => hs₇.extBut b o n2 (ev6.ext b o (hk₃' b o n1 (hext b o n1 n2 n3 n4 e)) n3 n4 rfl)
      · intro b n1 e
        by_cases q : b = Da
        · subst q; obtain ⟨k, hq⟩ := hl₇; rw [hq]; rfl
        · rw [hs₇.2 b q]; exact ev6.alv b (alv3 b n1 e)
  · obtain rfl : i = xs.length := by omega
    refine it.W.done _ _ _ hst fun h₃ t₃ hk₃ => ?_
    have hk₃' : ∀ b o, b ≠ J → h₂.get? b = some o → h₃.get? b = some o := fun b o q e => hk₃ b o (by simpa using q) e
    exact hR h₃ t₃ S' vs ⟨le, (fun b o e e' _ => hnew b o e e'), fun _ _ e _ _ _ => e, fun _ e => e, fun _ _ e => e⟩ (fun b o n1 n2 n3 n4 e => hk₃' b o n1 (hext b o n1 n2 n3 n4 e)) (F'.extBut oJ' hk₃') oD' (hpl.at fun o e => hk₃' _ _ (Ne.symm hJD) e) hrd

/-- what a comprehension sees of the frame around: the captured names -/
structure Sees (env : Env) (scope : Scope) (cl : List (Str × Addr)) (Γ Γc : Gam) (x : Str) : Prop where
  cl : ∀ y c, cl.lookup y = some c → env.cells.lookup y = some c
  look : ∀ y d, Γc.lookup y = some d → Γ.lookup y = some d ∧ env.kindOf y = some .cell
  x : Γc.lookup x = none

theorem comp_frame {S : PM} {h h₃ : Heap} {scope : Scope} {cl : List (Str × Addr)} {Γc : Gam} {x : Str} {C : Addr} (F : Frm X B S env O h Γ) (sees : Sees env scope cl Γ Γc x) (hC : h.get? C = none) (hns : h₃.Ns C fun _ => none)
    (ext : Ext h h₃) (hkc : ∀ y d, Γc.lookup y = some d → (compEnvC scope cl C env).kindOf y ≠ some .local) (hkf : scope.kind = .function) :
    Frm X ⟨h, S, fun _ => false⟩ S (compEnvC scope cl C env) noOwn h₃ Γc where
  base := F.base
  sub := F.sub.ext ext
  keep := ext
  old := fun _ _ _ e => e
  loc := (F.out hC).s
  locH := hC
  ns := ⟨_, hns, fun y d e k => absurd k (hkc y d e)⟩
  neg := fun q => by simp [compEnvC, relabel, hkf] at q
  cells := fun y c e => by
    obtain ⟨v, hc, hv⟩ := F.cells y c (sees.cl y c e)
    exact ⟨v, hc.keeps ext, fun d e' _ => hv d (sees.look y d e').1 (sees.look y d e').2⟩
  wr := fun _ _ _ q => by cases q
  apart := fun y z c e e' => F.apart y z c (sees.cl y c e) (sees.cl z c e')
  own := fun _ _ e => by cases e

theorem Heap.PlainList.lt {h : Heap} {a : Addr} {vs : Array Value} (x : h.PlainList a vs) : (h.get? a).isSome = true := by obtain ⟨k, hq⟩ := x; rw [hq]; rfl

/-- behind the source: the new list, the block's frame, the loop -/
theorem comp_block {A : Around} {s : Shared} {S : PM} {elt iter : Expr} {x : Str} {px pos : Pos} {ifs : List Expr} {scope : Scope} {cl : List (Str × Addr)} {Γc : Gam} {J : Addr} {h₁ : Heap} {xs : List D} {fp : List Addr} {P : Nat → Value → Prop} {St : Nat → Heap → Prop}
    {p : Nat → Bool} {f : Nat → D} {RR : Value → Addr → Result → Shared → Prop} {E : Value → Shared → Prop} (ok : Ok n A) (F : Frm X B S env O h₁ Γ) (hJ : h₁.get? J = none) (ext : Ext h₁ s.heap) (it : ItAt X A S s.heap J xs fp P St) (sees : Sees env scope cl Γ Γc x)
    (hcell : ∀ y ∈ scope.names, y.2 ≠ .cell) (hkind : scope.kind = .function) (hx : scope.names.lookup x = some .local) (hkc : ∀ C y d, Γc.lookup y = some d → (compEnvC scope cl C env).kindOf y ≠ some .local) (hsz : xs.length ≤ sizeLine)
    (htest : ∀ C B' i d, xs[i]? = some d → TrS X n B' (compEnvC scope cl C env) noOwn ((x, d) :: Γc) ifs (p i)) (helt : ∀ C B' i d, xs[i]? = some d → p i = true → Ev X n B' (compEnvC scope cl C env) noOwn ((x, d) :: Γc) elt (f i))
    (hR : ∀ Da C h' tk S' vs m, Adv S h₁ S' h' → s.heap.get? Da = none → s.heap.get? C = none → S' C = none → S' Da = none → Da ≠ C → h'.Ns C m → h'.PlainList Da vs → RdL S' vs.toList (resOf p f xs.length) → RR (.ref Da) C (.ok .next) { s with heap := h', toks := tk }) :
    wpAny X.M A (newList []) (fun acc s₃ => wpAny X.M A (newFunctionEnv scope env.globals cl [] env.qual none .none (some env)) (fun cenv s₄ =>
      codeAny X.M A (.compStart (.ListComp elt [⟨.Name x px, iter, ifs, 0⟩] scope pos) 0 (.ref J) acc { cenv with scope := relabel scope env }) (RR acc cenv.locals) s₄) E s₃) E s := by
  refine wpAny_newObj_type (wpAny_newFunctionEnv hcell (by intro y hy; simp at hy) (fun h₃ hns₃ hsb₃ => ?_) hkind)
  dsimp only at hns₃ hsb₃ ⊢
  generalize hH2 : s.heap.push { cls := .type "list", dict := none, data := .seq ([] : List Value).toArray } = H2 at hns₃ hsb₃ ⊢
  have hC : H2.objs.size = s.heap.objs.size + 1 := by rw [← hH2, Heap.size_push]
  have hDC : s.heap.objs.size ≠ H2.objs.size := by rw [hC]; exact Nat.ne_of_lt (Nat.lt_succ_self _)
  have fresh : ∀ a, s.heap.objs.size ≤ a → s.heap.get? a = none := fun a ha => by
    cases e : s.heap.get? a with
    | none => rfl
    | some o' => exact absurd (Heap.lt_size e) (Nat.not_lt.mpr ha)
  have hD0 := fresh _ (Nat.le_refl _)
  have hC0 : s.heap.get? H2.objs.size = none := fresh _ (by rw [hC]; exact Nat.le_succ _)
  have ext3 : Ext s.heap h₃ := fun b o e => hsb₃.extBut b o (fun q => by rw [q, hC0] at e; cases e) (Heap.get?_push_of_some _ (hH2 ▸ Heap.get?_push_of_some _ e))
  have hacc : h₃.PlainList s.heap.objs.size #[] := ⟨_, hsb₃.extBut _ _ hDC (Heap.get?_push_of_some _ (hH2 ▸ Heap.get?_push_size _ rfl))⟩
  have none1 : ∀ a, s.heap.get? a = none → h₁.get? a = none := fun a q => by
    cases e : h₁.get? a with
    | none => rfl
    | some o => rw [ext _ _ e] at q; cases q
  have Fc := comp_frame F sees (none1 _ hC0) (by simpa using hns₃) (ext.trans ext3) (hkc H2.objs.size) hkind
  have cellsJ : ∀ (a : Addr) y, h₁.get? a = none → (compEnvC scope cl H2.objs.size env).cells.lookup y ≠ some a := fun a y ha e => by
    obtain ⟨v, ⟨o, ho, _⟩, _⟩ := F.cells y a (sees.cl y a e)
    rw [ha] at ho; cases ho
  have oJ : Out ⟨h₁, S, fun _ => false⟩ S (compEnvC scope cl H2.objs.size env) noOwn J := ⟨(F.out hJ).s, hJ, (fun q => by have := it.al; rw [q] at this; rw [show (compEnvC scope cl H2.objs.size env).locals = H2.objs.size from rfl, hC0] at this; cases this), fun y => cellsJ _ y hJ, rfl⟩
  have oD : Out ⟨h₁, S, fun _ => false⟩ S (compEnvC scope cl H2.objs.size env) noOwn s.heap.objs.size := ⟨(F.out (none1 _ hD0)).s, none1 _ hD0, hDC, fun y => cellsJ _ y (none1 _ hD0), rfl⟩
  have hJD : J ≠ s.heap.objs.size := fun q => by have := it.al; rw [q, hD0] at this; cases this
  have it3 : ItAt X A S h₃ J xs fp P St := ⟨it.W, it.W.frame _ _ _ it.st fun b _ o e => ext3 b o e, it.fp, by obtain ⟨o, q⟩ := Option.isSome_iff_exists.mp it.al; rw [ext3 _ _ q]; rfl, it.stal, it.rd⟩
  have loop : ∀ s₃ : Shared, s₃ = { s with heap := h₃, toks := s.toks + ([] : List (Str × Value)).length } →
      codeAny X.M A (.compLoop (.ListComp elt [⟨.Name x px, iter, ifs, 0⟩] scope pos) 0 (.ref J) (.ref s.heap.objs.size) (compEnvC scope cl H2.objs.size env)) (RR (.ref s.heap.objs.size) H2.objs.size) s₃ := by
    rintro s₃ rfl
    refine comp_loop (B := ⟨h₁, S, fun _ => false⟩) (ds₀ := []) .one ok Fc it3 oJ oD hJD hacc .nil (.loc (lookup_relabel_local hx)) (by simp [compEnvC, relabel, hkind]) sees.x (by simpa using hsz) (htest H2.objs.size _) (helt H2.objs.size _) fun h' tk S' vs ev hext F' oD' hpl hrd => ?_
    obtain ⟨m, hm, _⟩ := F'.ns
    exact hR _ _ h' tk S' vs m ⟨ev.le, F'.sub, F'.keep, F'.old⟩ hD0 hC0 F'.loc oD'.s hDC hm hpl (by simpa using hrd)
  exact codeAny_compStart_list (loop _ rfl) (it3.W.self 0 _ _ _ it3.st (loop _ rfl))

/-- the new list, frozen when the block is done -/
theorem comp_done {S S' : PM} {h₁ h' h'' : Heap} {Da C : Addr} {vs : Array Value} {ds : List D} (a : Adv S h₁ S' h') (hD : h₁.get? Da = none) (hC : h₁.get? C = none) (hsC : S' C = none) (hsD : S' Da = none) (hDC : Da ≠ C) (hpl : h'.PlainList Da vs)
    (hr : RdL S' vs.toList ds) (hs : Heap.SameBut C h' h'') : ∃ S'', Adv S h₁ S'' h'' ∧ Rd S'' (.ref Da) (.list ds) ∧ S'' C = none := by
  obtain ⟨k, hq⟩ := hpl
  have hq' := (hs.2 Da hDC).trans hq
  have le : Le S' (addS S' Da { cls := .type "list", data := .seq vs k }) := fun b o e => by
    have : b ≠ Da := by rintro rfl; rw [hsD] at e; cases e
    simp only [addS, this, if_false]; exact e
  refine ⟨addS S' Da { cls := .type "list", data := .seq vs k }, ⟨a.le.trans le, fun b o e => ?_, fun b o e => (hs.2 b (fun q => by rw [q, hC] at e; cases e)).trans (a.ext b o e), fun b o e e' => ?_⟩, .list (vs := vs.toList) (addS_self _ _ _) rfl rfl (hr.mono le), by simp only [addS, Ne.symm hDC, if_false]; exact hsC⟩
  · unfold addS at e
    by_cases q : b = Da
    · subst q; rw [if_pos rfl] at e; cases e; exact hq'
    · rw [if_neg q] at e
      exact (hs.2 b (fun q => by rw [q, hsC] at e; cases e)).trans (a.sub b o e)
  · have : b ≠ Da := by rintro rfl; rw [hD] at e; cases e
    simp only [addS, this, if_false] at e'
    exact a.new b o e e'

theorem Ev.comp {elt iter : Expr} {x : Str} {px pos : Pos} {ifs : List Expr} {scope : Scope} {cl : List (Str × Addr)} {Γc : Gam} {xs : List D} (p : Nat → Bool) (f : Nat → D) (hit : EvIt X n B env O Γ iter xs) (sees : Sees env scope cl Γ Γc x)
    (hkc : ∀ C y d, Γc.lookup y = some d → (compEnvC scope cl C env).kindOf y ≠ some .local) (hsz : xs.length ≤ sizeLine)
    (htest : ∀ C B' i d, xs[i]? = some d → TrS X n B' (compEnvC scope cl C env) noOwn ((x, d) :: Γc) ifs (p i)) (helt : ∀ C B' i d, xs[i]? = some d → p i = true → Ev X n B' (compEnvC scope cl C env) noOwn ((x, d) :: Γc) elt (f i))
    (hclos : closureFor scope env = pure cl := by rfl) (hcell : ∀ y ∈ scope.names, y.2 ≠ .cell := by decide) (hkind : scope.kind = .function := by rfl) (hx : scope.names.lookup x = some .local := by rfl)
    (hnames : ∀ y ∈ scope.names, y.2 = .local → scope.names.lookup y.1 = some .local := by decide) (hs : ∀ x, foldedSetIterable iter env x = pure x := by intro _; rfl) :
    Ev X n B env O Γ (.ListComp elt [⟨.Name x px, iter, ifs, 0⟩] scope pos) (.list (resOf p f xs.length)) := by
  intro A s S Q E ok F k
  rw [eval_ListComp]
  refine wpAny_comprehension_free (use := none) rfl hs hclos hkind hnames (hit A s S _ _ ok F fun S₁ h₁ J h' tk fp P St a₁ ext hJ it => ?_)
  refine comp_block (RR := fun acc C => compPost X.M A E none Q acc C) ok (F.adv a₁) hJ ext it sees hcell hkind hx hkc hsz htest helt fun Da C h₂ t₂ S₂ vs m a₂ hD hC hsC hsD hDC hm hpl hr => ?_
  have none1 : ∀ a, h'.get? a = none → h₁.get? a = none := fun a q => by
    cases e : h₁.get? a with
    | none => rfl
    | some o => rw [ext _ _ e] at q; cases q
  refine ⟨m, hm, fun h₃ hs₃ => ?_⟩
  obtain ⟨S₃, a₃, r₃, _⟩ := comp_done a₂ (none1 _ hD) (none1 _ hC) hsC hsD hDC hpl hr hs₃
  exact k S₃ _ h₃ t₂ (a₁.trans a₃) r₃
end
end Mine

end
section
open PySem PySem.Calls PyProof.Rows PySem.W
set_option linter.unusedVariables false
set_option maxRecDepth 100000
namespace Mine
section
variable {X : Cx} {n : Nat} {B : Base} {env : Env} {O : Own} {Γ : Gam}

/-- a comprehension, told in plain data: the list that it makes -/
def CompD (X : Cx) (n : Nat) (B : Base) (env : Env) (O : Own) (Γ : Gam) (e : Expr) (scope : Scope) (cl : List (Str × Addr)) (iter : Expr) (ds : List D) : Prop :=
  ∀ (A : Around) (s : Shared) (S : PM) (RR : Value → Addr → Result → Shared → Prop) (E : Value → Shared → Prop), Ok n A → Frm X B S env O s.heap Γ →
    (∀ Da C h' tk S' vs m, Adv S s.heap S' h' → s.heap.get? Da = none → s.heap.get? C = none → S' C = none → S' Da = none → Da ≠ C → h'.Ns C m → h'.PlainList Da vs → RdL S' vs.toList ds → RR (.ref Da) C (.ok .next) { s with heap := h', toks := tk }) →
    wpAny X.M A (eval iter env) (fun x s₁ => wpAny X.M A (pyIter x) (fun it s₂ => wpAny X.M A (newList []) (fun acc s₃ => wpAny X.M A (newFunctionEnv scope env.globals cl [] env.qual none .none (some env)) (fun cenv s₄ =>
      codeAny X.M A (.compStart e 0 it acc { cenv with scope := relabel scope env }) (RR acc cenv.locals) s₄) E s₃) E s₂) E s₁) E s

theorem none_of_ext {h h' : Heap} (ext : Ext h h') {a : Addr} (q : h'.get? a = none) : h.get? a = none := by
  cases e : h.get? a with
  | none => rfl
  | some o => rw [ext _ _ e] at q; cases q

theorem Ev.ofComp {elt iter : Expr} {g : Comprehension} {gs : List Comprehension} {scope : Scope} {pos : Pos} {cl : List (Str × Addr)} {ds : List D} (h : CompD X n B env O Γ (.ListComp elt (g :: gs) scope pos) scope cl iter ds)
    (hg : g.iter = iter := by rfl) (ha : g.is_async = 0 := by rfl) (hclos : closureFor scope env = pure cl := by rfl) (hkind : scope.kind = .function := by rfl)
    (hnames : ∀ y ∈ scope.names, y.2 = .local → scope.names.lookup y.1 = some .local := by decide) (hs : ∀ x, foldedSetIterable iter env x = pure x := by intro _; rfl) :
    Ev X n B env O Γ (.ListComp elt (g :: gs) scope pos) (.list ds) := by
  intro A s S Q E ok F k
  obtain ⟨t, i, fs, a⟩ := g
  simp only at hg ha
  subst hg ha
  rw [eval_ListComp]
  refine wpAny_comprehension_free (use := none) rfl hs hclos hkind hnames (h A s S (fun acc C => compPost X.M A E none Q acc C) E ok F fun Da C h₂ t₂ S₂ vs m a₂ hD hC hsC hsD hDC hm hpl hr => ?_)
  refine ⟨m, hm, fun h₃ hs₃ => ?_⟩
  obtain ⟨S₃, a₃, r₃, _⟩ := comp_done a₂ hD hC hsC hsD hDC hpl hr hs₃
  exact k S₃ _ h₃ t₂ a₃ r₃

theorem Ex1.ofComp {elt iter : Expr} {g : Comprehension} {gs : List Comprehension} {scope : Scope} {y : Str} {py pos spos : Pos} {cl : List (Str × Addr)} {ds : List D} (h : CompD X n B env O Γ (.ListComp elt (g :: gs) scope pos) scope cl iter ds)
    (hsw : swapsWith (.ListComp elt (g :: gs) scope pos) (some (.Name y py)) spos.line env = pure true := by rfl) (hl : env.kindOf y = some .local := by rfl) (hk : kindOk env = true := by rfl)
    (hg : g.iter = iter := by rfl) (ha : g.is_async = 0 := by rfl) (hclos : closureFor scope env = pure cl := by rfl) (hkind : scope.kind = .function := by rfl)
    (hnames : ∀ y ∈ scope.names, y.2 = .local → scope.names.lookup y.1 = some .local := by decide) (hs : ∀ x, foldedSetIterable iter env x = pure x := by intro _; rfl) :
    Ex1 X n B env O Γ (.Assign [.Name y py] (.ListComp elt (g :: gs) scope pos) spos) fun f O' Γ' => f = .next ∧ O' = O ∧ Γ' = (y, .list ds) :: Γ := by
  intro A s S Q E ok F k
  obtain ⟨t, i, fs, a⟩ := g
  simp only at hg ha
  subst hg ha
  rw [exec_Assign_Name_used _ _ _ _ hsw]
  refine wpAny_bind (wpAny_standAt (wpAny_bind ?_))
  show wpAny _ A (do let _ ← comprehension (.ListComp elt (⟨t, i, fs, 0⟩ :: gs) scope pos) scope env _ (newList []) false (eval i env) (some (PySem.assign (.Name y py) env))) _ _ s
  refine wpAny_bind (wpAny_mono (wpAny_comprehension_free (use := some (PySem.assign (.Name y py) env)) (Q := fun _ s' => Q .next s') rfl hs hclos hkind hnames
    (h A s S (fun acc C => compPost X.M A E (some (PySem.assign (.Name y py) env)) (fun _ s' => Q .next s') acc C) E ok F fun Da C h₂ t₂ S₂ vs m a₂ hD hC hsC hsD hDC hm hpl hr => ?_)) (fun _ s' hq => wpAny_pure (wpAny_pure hq)) fun _ _ e => e)
  obtain ⟨S₃, a₃, r₃, hsC₃⟩ := comp_done a₂ hD hC hsC hsD hDC hpl hr (Heap.SameBut.refl C h₂)
  have oC := F.out hC
  have alC : (h₂.get? C).isSome = true := by obtain ⟨o, _, _, ho, _⟩ := hm; rw [ho]; rfl
  show wpAny _ A (PySem.assign (.Name y py) env (.ref Da)) _ _ _
  refine wpAny_assign_Name (storeName_F (F.adv a₃) (.loc hl) r₃ hk fun h₄ t₄ ev₄ F₄ => ?_)
  refine ⟨m, ?_, fun h₅ hs₅ => ?_⟩
  · obtain ⟨o, es, ep, ho, r⟩ := hm
    exact ⟨o, es, ep, ev₄.ext _ _ ho oC.l oC.c oC.o, r⟩
  · refine k S₃ _ _ O _ h₅ _ ?_ (F₄.extBut { oC with s := hsC₃ } fun b o q e => hs₅.extBut b o q e) .next ⟨rfl, rfl, rfl⟩
    have ev := a₃.evo (env := env) (O := O) |>.trans ev₄
    refine ⟨ev.le, ev.new, fun a o e n1 n2 n3 => (hs₅.2 a (fun q => by rw [q, hC] at e; cases e)).trans (ev.ext a o e n1 n2 n3), fun a e => ?_, ev.own⟩
    rw [hs₅.2 a (fun q => by rw [q, hC] at e; cases e)]; exact ev.alv a e

theorem CompD.one {elt iter : Expr} {x : Str} {px pos : Pos} {ifs : List Expr} {scope : Scope} {cl : List (Str × Addr)} {Γc : Gam} {xs : List D} (p : Nat → Bool) (f : Nat → D) (hit : EvIt X n B env O Γ iter xs) (sees : Sees env scope cl Γ Γc x)
    (hkc : ∀ C y d, Γc.lookup y = some d → (compEnvC scope cl C env).kindOf y ≠ some .local) (hsz : xs.length ≤ sizeLine)
    (htest : ∀ C B' i d, xs[i]? = some d → TrS X n B' (compEnvC scope cl C env) noOwn ((x, d) :: Γc) ifs (p i)) (helt : ∀ C B' i d, xs[i]? = some d → p i = true → Ev X n B' (compEnvC scope cl C env) noOwn ((x, d) :: Γc) elt (f i))
    (hcell : ∀ y ∈ scope.names, y.2 ≠ .cell := by decide) (hkind : scope.kind = .function := by rfl) (hx : scope.names.lookup x = some .local := by rfl) :
    CompD X n B env O Γ (.ListComp elt [⟨.Name x px, iter, ifs, 0⟩] scope pos) scope cl iter (resOf p f xs.length) := by
  intro A s S RR E ok F k
  refine hit A s S _ _ ok F fun S₁ h₁ J h' tk fp P St a₁ ext hJ it => ?_
  refine comp_block (RR := RR) ok (F.adv a₁) hJ ext it sees hcell hkind hx hkc hsz htest helt fun Da C h₂ t₂ S₂ vs m a₂ hD hC hsC hsD hDC hm hpl hr => ?_
  exact k Da C h₂ t₂ S₂ vs m (a₁.trans a₂) (none_of_ext (a₁.ext.trans ext) hD) (none_of_ext (a₁.ext.trans ext) hC) hsC hsD hDC hm hpl hr

/-! a comprehension whose own name is a cell (an inner one captures it) -/
theorem newEnv_comp {A : Around} {s : Shared} {scope : Scope} {g : Addr} {cl : List (Str × Addr)} {qual : Str} {Q : Env → Shared → Prop} {E : Value → Shared → Prop}
    (h : Q (newEnv scope s.heap.objs.size g (cellsFrom (s.heap.objs.size + 1) scope.names cl) qual none .none (some env) builtinsNs) { s with heap := pushCells (s.heap.push { cls := .type "dict", data := .dict #[] }) scope.names }) :
    wpAny X.M A (newFunctionEnv scope g cl [] qual none .none (some env)) Q E s := by
  simp only [newFunctionEnv, Option.isSome_some, if_true]
  refine wpAny_bind (wpAny_alloc ?_)
  refine wpAny_bind (wpAny_layCells _ (fun name kind cells => by cases hkc : kind == NameKind.cell <;> simp) _ _ _ _ ?_)
  rw [show ({ s with heap := s.heap.push { cls := .type "dict", data := .dict #[] } } : Shared).heap.objs.size = s.heap.objs.size + 1 from Heap.size_push ..]
  rw [List.forIn_nil]
  exact wpAny_bind (wpAny_pure (wpAny_pure h))

theorem CompD.cellx {elt iter : Expr} {x : Str} {px pos : Pos} {ifs : List Expr} {scope : Scope} {cl : List (Str × Addr)} {Γc : Gam} {xs : List D} (p : Nat → Bool) (f : Nat → D) (hit : EvIt X n B env O Γ iter xs) (sees : Sees env scope cl Γ Γc x)
    (hkc : ∀ C y d, Γc.lookup y = some d → (compEnvC scope ((x, C + 1) :: cl) C env).kindOf y ≠ some .local) (hsz : xs.length ≤ sizeLine)
    (htest : ∀ C B' i d, xs[i]? = some d → TrS X n B' (compEnvC scope ((x, C + 1) :: cl) C env) noOwn ((x, d) :: Γc) ifs (p i))
    (helt : ∀ C B' i d, xs[i]? = some d → p i = true → Ev X n B' (compEnvC scope ((x, C + 1) :: cl) C env) noOwn ((x, d) :: Γc) elt (f i))
    (hxk : ∀ C, (compEnvC scope ((x, C + 1) :: cl) C env).kindOf x = some .cell := by intro _; rfl) (hclx : cl.lookup x = none := by rfl)
    (hcells : ∀ C, cellsFrom (C + 1) scope.names cl = (x, C + 1) :: cl := by intro _; rfl) (hpush : ∀ h, pushCells h scope.names = h.push { cls := .type "cell", data := .cell none } := by intro _; rfl) (hkind : scope.kind = .function := by rfl) :
    CompD X n B env O Γ (.ListComp elt [⟨.Name x px, iter, ifs, 0⟩] scope pos) scope cl iter (resOf p f xs.length) := by
  intro A s S RR E ok F k
  refine hit A s S _ _ ok F fun S₁ h₁ J h' tk fp P St a₁ ext hJ it => ?_
  have F₁ := F.adv a₁
  refine wpAny_newObj_type (newEnv_comp ?_)
  dsimp only
  generalize hH2 : h'.push { cls := .type "list", dict := none, data := .seq ([] : List Value).toArray } = H2
  rw [hcells, hpush]
  have hC : H2.objs.size = h'.objs.size + 1 := by rw [← hH2, Heap.size_push]
  generalize hh3 : (H2.push { cls := .type "dict", data := .dict #[] }).push { cls := .type "cell", data := .cell none } = h₃
  have hDC : h'.objs.size ≠ H2.objs.size := by rw [hC]; exact Nat.ne_of_lt (Nat.lt_succ_self _)
  have fresh : ∀ a, h'.objs.size ≤ a → h'.get? a = none := fun a ha => by
    cases e : h'.get? a with
    | none => rfl
    | some o' => exact absurd (Heap.lt_size e) (Nat.not_lt.mpr ha)
  have hD0 := fresh _ (Nat.le_refl _)
  have hC0 : h'.get? H2.objs.size = none := fresh _ (by rw [hC]; exact Nat.le_succ _)
  have hK0 : h'.get? (H2.objs.size + 1) = none := fresh _ (by rw [hC]; omega)
  have ext3 : Ext h' h₃ := fun b o e => by
    rw [← hh3, ← hH2]; exact Heap.get?_push_of_some _ (Heap.get?_push_of_some _ (Heap.get?_push_of_some _ e))
  have hacc : h₃.PlainList h'.objs.size #[] := ⟨0, by rw [← hh3, ← hH2]; exact Heap.get?_push_of_some _ (Heap.get?_push_of_some _ (Heap.get?_push_size _ rfl))⟩
  have hns₃ : h₃.Ns H2.objs.size fun _ => none := by rw [← hh3]; exact (Heap.Ns.new H2 (.type "dict")).push _
  have hcell : h₃.IsCell (H2.objs.size + 1) none := by
    refine ⟨{ cls := .type "cell", data := .cell none }, ?_, rfl⟩
    rw [← hh3]
    have := Heap.get?_push_size (H2.push { cls := .type "dict", data := .dict #[] }) (o := { cls := .type "cell", data := .cell none }) rfl
    rwa [Heap.size_push] at this
  have none1 : ∀ {a}, h'.get? a = none → h₁.get? a = none := fun q => none_of_ext ext q
  have lk : ∀ y c, ((x, H2.objs.size + 1) :: cl).lookup y = some c → (y = x ∧ c = H2.objs.size + 1) ∨ (y ≠ x ∧ env.cells.lookup y = some c) := fun y c e => by
    rw [List.lookup_cons] at e
    by_cases q : y = x
    · subst q; rw [beq_self_eq_true] at e; cases e; exact .inl ⟨rfl, rfl⟩
    · rw [beq_eq_false_iff_ne.mpr q] at e; exact .inr ⟨q, sees.cl y c e⟩
  have alive : ∀ y c, env.cells.lookup y = some c → h₁.get? c ≠ none := fun y c e q => by
    obtain ⟨v, ⟨o, ho, _⟩, _⟩ := F₁.cells y c e
    rw [q] at ho; cases ho
  have Fc : Frm X ⟨h₁, S₁, fun y => y == x⟩ S₁ (compEnvC scope ((x, H2.objs.size + 1) :: cl) H2.objs.size env) noOwn h₃ Γc :=
    { base := F₁.base
      sub := F₁.sub.ext (ext.trans ext3)
      keep := ext.trans ext3
      old := fun _ _ _ e => e
      loc := (F₁.out (none1 hC0)).s
      locH := none1 hC0
      ns := ⟨_, hns₃, fun y d e k => absurd k (hkc _ y d e)⟩
      neg := fun q => by simp [compEnvC, relabel, hkind] at q
      cells := fun y c e => by
        rcases lk y c e with ⟨rfl, rfl⟩ | ⟨hne, e'⟩
        · exact ⟨none, hcell, fun d e' _ => by rw [sees.x] at e'; cases e'⟩
        · obtain ⟨v, hc, hv⟩ := F₁.cells y c e'
          exact ⟨v, hc.keeps (ext.trans ext3), fun d e' _ => hv d (sees.look y d e').1 (sees.look y d e').2⟩
      wr := fun y c e q => by
        rcases lk y c e with ⟨rfl, rfl⟩ | ⟨hne, e'⟩
        · exact ⟨(F₁.out (none1 hK0)).s, none1 hK0⟩
        · exact absurd (beq_iff_eq.mp q) hne
      apart := fun y z c e e' => by
        rcases lk y c e with ⟨rfl, rfl⟩ | ⟨hne, e1⟩ <;> rcases lk z _ e' with ⟨rfl, h2⟩ | ⟨hne', e2⟩
        · rfl
        · exact absurd (none1 hK0) (alive _ _ e2)
        · subst h2; exact absurd (none1 hK0) (alive _ _ e1)
        · exact F₁.apart y z c e1 e2
      own := fun _ _ e => by cases e }
  have cellsO : ∀ (a : Addr) y, h₁.get? a = none → a ≠ H2.objs.size + 1 → (compEnvC scope ((x, H2.objs.size + 1) :: cl) H2.objs.size env).cells.lookup y ≠ some a := fun a y ha hn e => by
    rcases lk y a e with ⟨_, h2⟩ | ⟨_, e1⟩
    · exact hn h2
    · exact alive _ _ e1 ha
  have hJn : ∀ {a}, h'.get? a = none → J ≠ a := fun q e => by have := it.al; rw [e, q] at this; cases this
  have oJ : Out ⟨h₁, S₁, fun y => y == x⟩ S₁ (compEnvC scope ((x, H2.objs.size + 1) :: cl) H2.objs.size env) noOwn J := ⟨(F₁.out hJ).s, hJ, hJn hC0, fun y => cellsO _ y hJ (hJn hK0), rfl⟩
  have oD : Out ⟨h₁, S₁, fun y => y == x⟩ S₁ (compEnvC scope ((x, H2.objs.size + 1) :: cl) H2.objs.size env) noOwn h'.objs.size := ⟨(F₁.out (none1 hD0)).s, none1 hD0, hDC, fun y => cellsO _ y (none1 hD0) (Nat.ne_of_lt (by rw [hC]; exact Nat.lt_succ_of_lt (Nat.lt_succ_self _))), rfl⟩
  have it3 : ItAt X A S₁ h₃ J xs fp P St := ⟨it.W, it.W.frame _ _ _ it.st fun b _ o e => ext3 b o e, it.fp, by obtain ⟨o, q⟩ := Option.isSome_iff_exists.mp it.al; rw [ext3 _ _ q]; rfl, it.stal, it.rd⟩
  have loop : ∀ s₃ : Shared, s₃ = { s with heap := h₃, toks := tk } →
      codeAny X.M A (.compLoop (.ListComp elt [⟨.Name x px, iter, ifs, 0⟩] scope pos) 0 (.ref J) (.ref h'.objs.size) (compEnvC scope ((x, H2.objs.size + 1) :: cl) H2.objs.size env)) (RR (.ref h'.objs.size) H2.objs.size) s₃ := by
    rintro s₃ rfl
    refine comp_loop (B := ⟨h₁, S₁, fun y => y == x⟩) (ds₀ := []) .one ok Fc it3 oJ oD (hJn hD0) hacc .nil (.cell (hxk _) (by show List.lookup x ((x, H2.objs.size + 1) :: cl) = _; rw [List.lookup_cons, beq_self_eq_true]) (beq_self_eq_true x) (by simp [compEnvC, relabel, hkind])) (by simp [compEnvC, relabel, hkind]) sees.x (by simpa using hsz) (htest H2.objs.size _) (helt H2.objs.size _) fun h₂ tk S' vs ev hext F' oD' hpl hrd => ?_
    obtain ⟨m, hm, _⟩ := F'.ns
    exact k _ _ h₂ tk S' vs m (a₁.trans ⟨ev.le, F'.sub, F'.keep, F'.old⟩) (none_of_ext (a₁.ext.trans ext) hD0) (none_of_ext (a₁.ext.trans ext) hC0) F'.loc oD'.s hDC hm hpl (by simpa using hrd)
  exact codeAny_compStart_list (loop _ rfl) (it3.W.self 0 _ _ _ it3.st (loop _ rfl))
end
end Mine

end
section
open PySem PySem.Calls PyProof.Rows PySem.W
set_option linter.unusedVariables false
set_option maxRecDepth 100000
namespace Mine

/-! ### a def of the text, entered -/
theorem zip_get {S : PM} : ∀ {ns : List Str} {ws : List Value} {ds : List D}, RdL S ws ds → ∀ {x : Str} {d : D}, (ns.zip ds).lookup x = some d → ∃ v, (ns.zip ws).lookup x = some v ∧ Rd S v d
  | [], _, _, _, _, _, e => by simp at e
  | n :: ns, _, _, .nil, _, _, e => by simp at e
  | n :: ns, _, _, .cons (v := v) (d := d') h1 h2, x, d, e => by
    rw [List.zip_cons_cons, List.lookup_cons] at e
    rw [List.zip_cons_cons]
    by_cases q : x = n
    · subst q; rw [beq_self_eq_true] at e; cases e; exact ⟨v, by rw [List.lookup_cons, beq_self_eq_true], h1⟩
    · rw [beq_eq_false_iff_ne.mpr q] at e
      obtain ⟨v', e', r⟩ := zip_get h2 e
      exact ⟨v', by rw [List.lookup_cons, beq_eq_false_iff_ne.mpr q]; exact e', r⟩
theorem bindL_none {kd : Str → Option NameKind} {x : Str} : ∀ {bs : List (Str × Value)} {m : Str → Option Value}, bs.lookup x = none → bindL kd bs m x = m x
  | [], _, _ => rfl
  | (n, v) :: r, m, e => by
    rw [List.lookup_cons] at e
    have q : x ≠ n := by rintro rfl; rw [beq_self_eq_true] at e; cases e
    rw [beq_eq_false_iff_ne.mpr q] at e
    unfold bindL
    rw [bindL_none e]
    split
    · exact if_neg q
    · rfl
theorem bindC_none {kd : Str → Option NameKind} {x : Str} : ∀ {bs : List (Str × Value)} {m : Str → Option Value}, bs.lookup x = none → bindC kd bs m x = m x
  | [], _, _ => rfl
  | (n, v) :: r, m, e => by
    rw [List.lookup_cons] at e
    have q : x ≠ n := by rintro rfl; rw [beq_self_eq_true] at e; cases e
    rw [beq_eq_false_iff_ne.mpr q] at e
    unfold bindC
    rw [bindC_none e]
    split
    · rfl
    · exact if_neg q
theorem zip_none {ns : List Str} {ws : List Value} {x : Str} (h : x ∉ ns) : (ns.zip ws).lookup x = none := by
  induction ns generalizing ws with
  | nil => rfl
  | cons n ns ih =>
    cases ws with
    | nil => rfl
    | cons w ws =>
      simp only [List.mem_cons, not_or] at h
      rw [List.zip_cons_cons, List.lookup_cons, beq_eq_false_iff_ne.mpr h.1]
      exact ih h.2
theorem bindL_get {kd : Str → Option NameKind} {x : Str} {v : Value} (hx : kd x = some .local) : ∀ {ns : List Str} {ws : List Value} {m : Str → Option Value}, ns.Nodup → (ns.zip ws).lookup x = some v → bindL kd (ns.zip ws) m x = some v
  | [], _, _, _, e => by simp at e
  | n :: ns, [], _, _, e => by simp at e
  | n :: ns, w :: ws, m, hn, e => by
    rw [List.nodup_cons] at hn
    rw [List.zip_cons_cons] at e ⊢
    rw [List.lookup_cons] at e
    unfold bindL
    by_cases q : x = n
    · subst q
      rw [beq_self_eq_true] at e; cases e
      rw [bindL_none (zip_none hn.1), if_pos hx]
      exact if_pos rfl
    · rw [beq_eq_false_iff_ne.mpr q] at e
      exact bindL_get hx hn.2 e
theorem bindC_get {kd : Str → Option NameKind} {x : Str} {v : Value} (hx : kd x ≠ some .local) : ∀ {ns : List Str} {ws : List Value} {m : Str → Option Value}, ns.Nodup → (ns.zip ws).lookup x = some v → bindC kd (ns.zip ws) m x = some v
  | [], _, _, _, e => by simp at e
  | n :: ns, [], _, _, e => by simp at e
  | n :: ns, w :: ws, m, hn, e => by
    rw [List.nodup_cons] at hn
    rw [List.zip_cons_cons] at e ⊢
    rw [List.lookup_cons] at e
    unfold bindC
    by_cases q : x = n
    · subst q
      rw [beq_self_eq_true] at e; cases e
      rw [bindC_none (zip_none hn.1), if_neg hx]
      exact if_pos rfl
    · rw [beq_eq_false_iff_ne.mpr q] at e
      exact bindC_get hx hn.2 e

/-- what is handed back, once the frame is left: an own list is frozen -/
def Told (O : Own) (d₀ d : D) : Prop := d₀ = d ∨ ∃ a ds, d₀ = .own a ∧ O a = some ds ∧ d = .list ds

section
variable {X : Cx} {n : Nat}

abbrev fenv (fd : FuncData) (f L : Addr) : Env := newEnv fd.scope L fd.globals (cellsFrom (L + 1) fd.scope.names []) (fd.qualname ++ ".<locals>.") (some f) fd.code none fd.builtins

theorem OpN.def {f : Addr} {o : Obj} {fd : FuncData} {body : List Stmt} {ds ds' : List D} {d : D} {ns : List Str} (G : X.Good) (ho : X.h₀.get? f = some o) (hd : o.data = .func fd) (hcd : X.h₀.CodeRec fd.code fd.qualname) (hbody : fd.body = .stmts body) (hcl : fd.closure = [])
    (hbind : ∀ (s : Shared) (S : PM) (vs : List Value), RdL S vs ds → Le X.h₀.get? S → Sub S s.heap → ∃ ws, BindsTo s fd ⟨vs, []⟩ (ns.zip ws) ∧ RdL S ws ds')
    (hnd : ns.Nodup) (hk : (ns.all fun x => fd.scope.names.lookup x == some .local || fd.scope.names.lookup x == some .cell) = true)
    (hb : ∀ L B, B.W = (fun _ => true) → Ex X n B (fenv fd f L) noOwn (ns.zip ds') body fun fl O Γ => ∃ d₀, fl = .ret d₀ ∧ Told O d₀ d)
    (hkf : fd.scope.kind = .function := by rfl) (hco : fd.scope.isCoroutine = false := by rfl) (hgen : fd.scope.isGenerator = false := by rfl) : OpN X (n + 1) (fun vs => PySem.call (.ref f) vs) ds d := by
  intro A s S vs Q E ok sub base rd k
  have hx : Ext X.h₀ s.heap := fun a o e => sub a o (base a o e)
  obtain ⟨ws, hbt, hws⟩ := hbind s S vs rd base sub
  refine wpAny_call (codeAny_call_function ok.room (hx _ _ ho) hd hco hgen hbody (hcd.keeps hx) (hbt _ _ _ _ ?_))
  rw [hcl]
  have hkn : ((ns.zip ws).all fun y => fd.scope.names.lookup y.1 == some .local || fd.scope.names.lookup y.1 == some .cell) = true := by
    rw [List.all_eq_true] at hk ⊢
    rintro ⟨y, w⟩ hy
    exact hk y (List.of_mem_zip hy).1
  refine wpAny_newFunctionEnv_cells hkf (kindsX hkn _) fun env he s' x => ?_
  subst he
  refine ⟨(G.lim.keeps hx).keeps x.toInCall.keep, codeAny_func ?_⟩
  obtain ⟨h₁, tk, rfl, _⟩ := x.done
  have fresh : ∀ a, s.heap.objs.size ≤ a → s.heap.get? a = none := fun a ha => by
    cases e : s.heap.get? a with
    | none => rfl
    | some o' => exact absurd (Heap.lt_size e) (Nat.not_lt.mpr ha)
  have freshS : ∀ a, s.heap.objs.size ≤ a → S a = none := fun a ha => by
    cases e : S a with
    | none => rfl
    | some o' => have := sub _ _ e; rw [fresh a ha] at this; cases this
  have F : Frm X ⟨s.heap, S, fun _ => true⟩ S (fenv fd f s.heap.objs.size) noOwn h₁ (ns.zip ds') :=
    { base := base
      sub := sub.ext x.toInCall.keep
      keep := x.toInCall.keep
      old := fun _ _ _ e => e
      loc := freshS _ (Nat.le_refl _)
      locH := fresh _ (Nat.le_refl _)
      ns := ⟨_, x.toInCall.ns, fun y d e kd => by
        obtain ⟨v, e', r⟩ := zip_get hws e
        exact ⟨v, bindL_get kd hnd e', r⟩⟩
      neg := fun q => absurd (hkf.symm.trans q) (by decide)
      cells := fun y c e => ⟨_, x.cell y c e, fun d e' kd => by
        obtain ⟨v, e'', r⟩ := zip_get hws e'
        exact ⟨v, bindC_get (by show (fenv fd f s.heap.objs.size).kindOf y ≠ some .local; rw [kd]; decide) hnd e'', r⟩⟩
      wr := fun y c e _ => by
        have := x.above y c (mem_of_lookup e)
        exact ⟨freshS _ (Nat.le_of_lt this), fresh _ (Nat.le_of_lt this)⟩
      apart := fun y z c e e' => name_of_addr x.apart (mem_of_lookup e) (mem_of_lookup e')
      own := fun _ _ e => by cases e }
  refine hb s.heap.objs.size ⟨s.heap, S, fun _ => true⟩ rfl (A.deeper _) _ S _ _ (ok.deeper _) F fun S₁ fl g O₁ Γ₁ h₂ t₂ ev F₁ r p => ?_
  obtain ⟨d₀, rfl, told⟩ := p
  cases r with
  | @ret v _ r =>
  rcases told with rfl | ⟨a, es, rfl, hO, rfl⟩
  · exact k S₁ v h₂ t₂ ⟨ev.le, F₁.sub, F₁.keep, F₁.old⟩ r
  · obtain ⟨h1, h2, oa, vs', m, hoa, hc, hdt, hrl⟩ := F₁.own a es hO
    cases r
    have le : Le S₁ (addS S₁ a oa) := fun b ob e => by
      have : b ≠ a := by rintro rfl; rw [h1] at e; cases e
      simp only [addS, this, if_false]; exact e
    refine k (addS S₁ a oa) _ h₂ t₂ ⟨ev.le.trans le, fun b ob e => ?_, F₁.keep, fun b ob e e' => ?_⟩ (.list (vs := vs'.toList) (addS_self _ _ _) hc.1 (by rw [hdt]) (hrl.mono le))
    · unfold addS at e
      by_cases q : b = a
      · subst q; rw [if_pos rfl] at e; cases e; exact hoa
      · rw [if_neg q] at e; exact F₁.sub _ _ e
    · have : b ≠ a := by rintro rfl; rw [h2] at e; cases e
      simp only [addS, this, if_false] at e'
      exact F₁.old _ _ e e'

variable {B : Base} {env : Env} {O : Own} {Γ : Gam} {Φ : Post}

/-! ### several names at once -/
theorem ext_of_but {h h' : Heap} (x : Heap.ExtBut h.objs.size h h') : Ext h h' := fun b o e => x b o (Nat.ne_of_lt (Heap.lt_size e)) e

/-- stores one after the other -/
theorem stores_F {A : Around} {S : PM} {E : Value → Shared → Prop} (hk : env.scope.kind = .function) : ∀ {xs : List Str} {vs : List Value} {ds : List D} {ts : List (Value → Sem Unit)} {s : Shared} {Γ : Gam} {Q : Unit → Shared → Prop}, Frm X B S env O s.heap Γ → RdL S vs ds → (∀ x ∈ xs, Sto B env x) → ts.length = xs.length → xs.length = ds.length →
    (∀ (i : Nat) (x : Str) (t : Value → Sem Unit), xs[i]? = some x → ts[i]? = some t → ∀ (v : Value) (s : Shared) (Q : Unit → Shared → Prop), wpAny X.M A (storeName env x v) Q E s → wpAny X.M A (t v) Q E s) →
    (∀ h' tk, Evo env O S s.heap O S h' → Frm X B S env O h' ((xs.zip ds).reverse ++ Γ) → Q () { s with heap := h', toks := tk }) → wpAny X.M A (assignInOrder ts vs) Q E s
  | [], _, _, [], s, Γ, Q, F, .nil, _, _, _, _, k => wpAny_pure (k s.heap s.toks (Adv.refl F.sub).evo F)
  | x :: xs, _, _, t :: ts, s, Γ, Q, F, .cons (v := v) (vs := vs) (d := d) (ds := ds) h1 h2, st, hl, hl', hts, k => by
    refine wpAny_assignInOrder_more (hts 0 x t rfl rfl v s _ (storeName_F F (st x (.head _)) h1 (kindOk_of hk) fun h₁ t₁ ev₁ F₁ => ?_))
    refine stores_F hk F₁ h2 (fun y hy => st y (.tail _ hy)) (by simpa using hl) (by simpa using hl') (fun i y t e e' => hts (i + 1) y t e e') fun h₂ t₂ ev₂ F₂ => k h₂ t₂ (ev₁.trans ev₂) ?_
    simpa using F₂
  | [], _, _, _ :: _, _, _, _, _, _, _, hl, _, _, _ => by simp at hl
  | x :: xs, _, _, [], _, _, _, _, _, _, hl, _, _, _ => by simp at hl
  | [], _, _, [], _, _, _, _, .cons _ _, _, _, hl', _, _ => by simp at hl'
  | x :: xs, _, _, t :: ts, _, _, _, _, .nil, _, _, hl', _, _ => by simp at hl'

theorem Ex1.assignN {elts : List Expr} {tp pos : Pos} {k : Nat} {e : Expr} {ds : List D} {xs : List Str} (h : Ev X n B env O Γ e (.tup ds)) (st : ∀ x ∈ xs, Sto B env x) (hl : xs.length = ds.length)
    (hel : ∀ (i : Nat) (x : Str), xs[i]? = some x → ∃ p, elts[i]? = some (Expr.Name x p)) (hel' : elts.length = xs.length) (hea : assignEach elts env = elts.map fun t => (false, PySem.assign t env))
    (hk : env.scope.kind = .function := by rfl) (hs : swapsWithSole [.Tuple elts k tp] e pos.line env = pure false := by rfl) (hw : swappedStores [.Tuple elts k tp] e env = pure none := by rfl) :
    Ex1 X n B env O Γ (.Assign [.Tuple elts k tp] e pos) fun f O' Γ' => f = .next ∧ O' = O ∧ Γ' = (xs.zip ds).reverse ++ Γ := by
  intro A s S Q E ok F kk
  refine Assign_Tuple (h A s S _ _ ok F fun S₁ v h₁ t₁ a₁ r₁ => ?_) hs hw
  cases r₁ with
  | @tup a o vs m _ e1 e2 e3 e4 =>
  have ht : IsTup h₁ a vs.toArray := ⟨o, a₁.sub _ _ e1, e2, m, e3⟩
  refine assign_Tuple_tuple (s := { s with heap := h₁, toks := t₁ }) ok.1 ht (by rw [hea, List.length_map, List.size_toArray, e4.length]; omega) (by rw [hea, List.findIdx?_map]; exact List.findIdx?_eq_none_iff.mpr fun _ _ => rfl) fun h₂ hx => ?_
  have a₂ := Adv.of_ext a₁.sub (ext_of_but hx)
  refine stores_F hk (F.adv (a₁.trans a₂)) (s := { s with heap := h₂, toks := t₁ }) (xs := xs) e4 st (by rw [hea]; simp [hel']) hl (fun i x t hx ht v s Q h => ?_) fun h₃ t₃ ev F₃ => kk S₁ _ _ O _ h₃ t₃ ((a₁.trans a₂).evo.trans ev) F₃ .next ⟨rfl, rfl, rfl⟩
  rw [hea, List.map_map, List.getElem?_map] at ht
  obtain ⟨p, hp⟩ := hel i x hx
  rw [hp] at ht
  cases ht
  exact PyProof.Rows.assign_Name h

theorem Ex1.assign2 {x y : Str} {px py tp pos : Pos} {k : Nat} {e : Expr} {d₁ d₂ : D} (h : Ev X n B env O Γ e (.tup [d₁, d₂])) (sx : Sto B env x) (sy : Sto B env y) (hk : env.scope.kind = .function := by rfl)
    (hs : swapsWithSole [.Tuple [.Name x px, .Name y py] k tp] e pos.line env = pure false := by rfl) (hw : swappedStores [.Tuple [.Name x px, .Name y py] k tp] e env = pure none := by rfl) :
    Ex1 X n B env O Γ (.Assign [.Tuple [.Name x px, .Name y py] k tp] e pos) fun f O' Γ' => f = .next ∧ O' = O ∧ Γ' = (y, d₂) :: (x, d₁) :: Γ :=
  Ex1.assignN (xs := [x, y]) h (by intro z hz; simp at hz; rcases hz with rfl | rfl <;> assumption) rfl (by intro i z hz; rcases i with _ | _ | i <;> simp at hz <;> subst hz <;> exact ⟨_, rfl⟩) rfl rfl hk hs hw
theorem Ex1.assign3 {x y z : Str} {px py pz tp pos : Pos} {k : Nat} {e : Expr} {d₁ d₂ d₃ : D} (h : Ev X n B env O Γ e (.tup [d₁, d₂, d₃])) (sx : Sto B env x) (sy : Sto B env y) (sz : Sto B env z) (hk : env.scope.kind = .function := by rfl)
    (hs : swapsWithSole [.Tuple [.Name x px, .Name y py, .Name z pz] k tp] e pos.line env = pure false := by rfl) (hw : swappedStores [.Tuple [.Name x px, .Name y py, .Name z pz] k tp] e env = pure none := by rfl) :
    Ex1 X n B env O Γ (.Assign [.Tuple [.Name x px, .Name y py, .Name z pz] k tp] e pos) fun f O' Γ' => f = .next ∧ O' = O ∧ Γ' = (z, d₃) :: (y, d₂) :: (x, d₁) :: Γ :=
  Ex1.assignN (xs := [x, y, z]) h (by intro w hw; simp at hw; rcases hw with rfl | rfl | rfl <;> assumption) rfl (by intro i w hw; rcases i with _ | _ | _ | i <;> simp at hw <;> subst hw <;> exact ⟨_, rfl⟩) rfl rfl hk hs hw

/-- two local names out of a written tuple: the stores go from the right -/
theorem Ex1.assign2s {x y : Str} {px py tp pos : Pos} {k : Nat} {e : Expr} {d₁ d₂ : D} (h : Ev X n B env O Γ e (.tup [d₁, d₂])) (sx : Sto B env x) (sy : Sto B env y) (hk : env.scope.kind = .function := by rfl)
    (hs : swapsWithSole [.Tuple [.Name x px, .Name y py] k tp] e pos.line env = pure false := by rfl) (hw : swappedStores [.Tuple [.Name x px, .Name y py] k tp] e env = pure (some [x, y]) := by rfl) :
    Ex1 X n B env O Γ (.Assign [.Tuple [.Name x px, .Name y py] k tp] e pos) fun f O' Γ' => f = .next ∧ O' = O ∧ Γ' = (x, d₁) :: (y, d₂) :: Γ := by
  intro A s S Q E ok F kk
  refine Assign_Tuple_swapped (h A s S _ _ ok F fun S₁ v h₁ t₁ a₁ r₁ => ?_) hs hw
  cases r₁ with
  | @tup a o vs m _ e1 e2 e3 e4 =>
  have ht : IsTup h₁ a vs.toArray := ⟨o, a₁.sub _ _ e1, e2, m, e3⟩
  have hn : [x, y].length = vs.toArray.size := by rw [List.size_toArray, e4.length]; rfl
  rw [hn]
  refine unpackItems_tuple (s := { s with heap := h₁, toks := t₁ }) ok.1 ht fun h₂ hx => ?_
  have a₂ := Adv.of_ext a₁.sub (ext_of_but hx)
  cases e4 with
  | cons r1 e4 =>
  cases e4 with
  | cons r2 e4 =>
  cases e4 with
  | nil =>
  refine stores_F hk (F.adv (a₁.trans a₂)) (s := { s with heap := h₂, toks := t₁ }) (xs := [y, x]) (ds := [d₂, d₁]) (.cons r2 (.cons r1 .nil)) (by intro z hz; simp at hz; rcases hz with rfl | rfl <;> assumption) rfl rfl (fun i z t hz ht v s Q h => ?_) fun h₃ t₃ ev F₃ => kk S₁ _ _ O _ h₃ t₃ ((a₁.trans a₂).evo.trans ev) F₃ .next ⟨rfl, rfl, rfl⟩
  rcases i with _ | _ | i <;> simp at hz ht <;> subst hz <;> subst ht <;> exact wpAny_bindName h
end
end Mine

end
section
open PySem PySem.Calls PyProof.Rows PySem.W
set_option linter.unusedVariables false
set_option maxRecDepth 100000
namespace Mine

/-- a text, by its signs' codes -/
def tx (l : List Nat) : Str := ⟨l.toArray⟩
theorem tx_len (l : List Nat) : (tx l).length = l.length := by simp [tx, Str.length]
theorem tx_append (a b : List Nat) : tx a ++ tx b = tx (a ++ b) := by
  show Str.append _ _ = _
  simp [tx, Str.append]
theorem tx_cps (l : List Nat) : (tx l).cps.toList = l := by simp [tx]

section
variable {X : Cx} {n : Nat} {B : Base} {env : Env} {O : Own} {Γ : Gam}

theorem Ev.cstr {x : Str} {k : Nat} {pos : Pos} (l : List Nat) (h : x = tx l := by rfl) : Ev X n B env O Γ (.Constant (.str x) k pos) (.str (tx l)) := by
  subst h
  intro A s S Q E ok F k
  exact Calls.Constant_str (k S _ s.heap _ (.refl F.sub) (.str _ _))
theorem Ev.cflt {x : UInt64} {k : Nat} {pos : Pos} : Ev X n B env O Γ (.Constant (.float x) k pos) (.flt x) := by
  intro A s S Q E ok F k
  exact wpAny_Constant_float (k S _ s.heap _ (.refl F.sub) (.flt _ _))
theorem Ev.cbool {b : Bool} {k : Nat} {pos : Pos} : Ev X n B env O Γ (.Constant (.bool b) k pos) (.bool b) := by
  intro A s S Q E ok F k
  exact Constant_bool (k S _ s.heap s.toks (.refl F.sub) (.bool _))

/-! ints -/
theorem Op2.addI (a b : Int) : Op2 X n (binaryOp .Add) (.int a) (.int b) (.int (a + b)) := by
  intro A s S v₁ v₂ Q E ok sub base r1 r2 k
  obtain ⟨_, rfl⟩ := r1.inv_int; obtain ⟨_, rfl⟩ := r2.inv_int
  with_reducible refine PyProof.Rows.add_int ?_
  exact k S _ s.heap _ (.refl sub) (.int _ _)
theorem Op2.subI (a b : Int) : Op2 X n (binaryOp .Sub) (.int a) (.int b) (.int (a - b)) := by
  intro A s S v₁ v₂ Q E ok sub base r1 r2 k
  obtain ⟨_, rfl⟩ := r1.inv_int; obtain ⟨_, rfl⟩ := r2.inv_int
  with_reducible refine sub_int' ?_
  exact k S _ s.heap _ (.refl sub) (.int _ _)
theorem Op2.mulI (a b : Int) (h : IntMulOk a b) : Op2 X n (binaryOp .Mult) (.int a) (.int b) (.int (a * b)) := by
  intro A s S v₁ v₂ Q E ok sub base r1 r2 k
  obtain ⟨_, rfl⟩ := r1.inv_int; obtain ⟨_, rfl⟩ := r2.inv_int
  with_reducible refine PySem.P.mul_int ?_ h
  exact k S _ s.heap _ (.refl sub) (.int _ _)
theorem Op2.divI (a b : Int) (h : b ≠ 0) (hb : b.natAbs < 1073741824) : Op2 X n (binaryOp .FloorDiv) (.int a) (.int b) (.int (a.fdiv b)) := by
  intro A s S v₁ v₂ Q E ok sub base r1 r2 k
  obtain ⟨_, rfl⟩ := r1.inv_int; obtain ⟨_, rfl⟩ := r2.inv_int
  with_reducible refine floordiv_int h ?_ (Or.inl (PyProof.noPylong_small hb))
  exact k S _ s.heap _ (.refl sub) (.int _ _)
theorem Op2.modI (a b : Int) (h : b ≠ 0) : Op2 X n (binaryOp .Mod) (.int a) (.int b) (.int (a.fmod b)) := by
  intro A s S v₁ v₂ Q E ok sub base r1 r2 k
  obtain ⟨_, rfl⟩ := r1.inv_int; obtain ⟨_, rfl⟩ := r2.inv_int
  with_reducible refine mod_int' h ?_
  exact k S _ s.heap _ (.refl sub) (.int _ _)
theorem Op2.eqI (a b : Int) : Op2 X n (compareOp .Eq) (.int a) (.int b) (.bool (a == b)) := by
  intro A s S v₁ v₂ Q E ok sub base r1 r2 k
  obtain ⟨_, rfl⟩ := r1.inv_int; obtain ⟨_, rfl⟩ := r2.inv_int
  with_reducible refine PySem.P.eq_int ?_
  exact k S _ s.heap s.toks (.refl sub) (.bool _)
theorem Op2.neI (a b : Int) : Op2 X n (compareOp .NotEq) (.int a) (.int b) (.bool (a != b)) := by
  intro A s S v₁ v₂ Q E ok sub base r1 r2 k
  obtain ⟨_, rfl⟩ := r1.inv_int; obtain ⟨_, rfl⟩ := r2.inv_int
  with_reducible refine PySem.P.ne_int ?_
  exact k S _ s.heap s.toks (.refl sub) (.bool _)
theorem Op2.ltI (a b : Int) : Op2 X n (compareOp .Lt) (.int a) (.int b) (.bool (decide (a < b))) := by
  intro A s S v₁ v₂ Q E ok sub base r1 r2 k
  obtain ⟨_, rfl⟩ := r1.inv_int; obtain ⟨_, rfl⟩ := r2.inv_int
  with_reducible refine PySem.P.lt_int ?_
  exact k S _ s.heap s.toks (.refl sub) (.bool _)
theorem Op2.leI (a b : Int) : Op2 X n (compareOp .LtE) (.int a) (.int b) (.bool (decide (a ≤ b))) := by
  intro A s S v₁ v₂ Q E ok sub base r1 r2 k
  obtain ⟨_, rfl⟩ := r1.inv_int; obtain ⟨_, rfl⟩ := r2.inv_int
  with_reducible refine PySem.P.le_int ?_
  exact k S _ s.heap s.toks (.refl sub) (.bool _)
theorem Op2.geI (a b : Int) : Op2 X n (compareOp .GtE) (.int a) (.int b) (.bool (decide (a ≥ b))) := by
  intro A s S v₁ v₂ Q E ok sub base r1 r2 k
  obtain ⟨_, rfl⟩ := r1.inv_int; obtain ⟨_, rfl⟩ := r2.inv_int
  with_reducible refine PySem.P.ge_int ?_
  exact k S _ s.heap s.toks (.refl sub) (.bool _)

/-! texts -/
theorem Op2.addS (a b : List Nat) (h : a.length + b.length ≤ sizeLine) : Op2 X n (binaryOp .Add) (.str (tx a)) (.str (tx b)) (.str (tx (a ++ b))) := by
  intro A s S v₁ v₂ Q E ok sub base r1 r2 k
  obtain ⟨_, rfl⟩ := r1.inv_str; obtain ⟨_, rfl⟩ := r2.inv_str
  with_reducible refine PySem.P.add_str ?_
  rw [tx_len, tx_len, tx_append]
  by_cases ha : a.length == 0
  · rw [if_pos ha]
    have : a = [] := by simpa using ha
    subst this
    exact k S _ s.heap s.toks (.refl sub) (.str _ _)
  · rw [if_neg ha]
    by_cases hb : b.length == 0
    · rw [if_pos hb]
      have : b = [] := by simpa using hb
      subst this
      rw [List.append_nil] at k
      exact k S _ s.heap s.toks (.refl sub) (.str _ _)
    · rw [if_neg hb]
      exact ⟨by rw [tx_len, List.length_append]; exact h, k S _ s.heap _ (.refl sub) (.str _ _)⟩
theorem Op2.eqS (a b : List Nat) : Op2 X n (compareOp .Eq) (.str (tx a)) (.str (tx b)) (.bool (a == b)) := by
  intro A s S v₁ v₂ Q E ok sub base r1 r2 k
  obtain ⟨_, rfl⟩ := r1.inv_str; obtain ⟨_, rfl⟩ := r2.inv_str
  with_reducible refine PySem.P.eq_str ?_
  rw [tx_cps, tx_cps]
  exact k S _ s.heap s.toks (.refl sub) (.bool _)
theorem Op2.inS (a b : List Nat) : Op2 X n (compareOp .In) (.str (tx a)) (.str (tx b)) (.bool (!(Builtin.Str.occurrences (tx b) (tx a) 0 (tx b).length 1).isEmpty)) := by
  intro A s S v₁ v₂ Q E ok sub base r1 r2 k
  obtain ⟨_, rfl⟩ := r1.inv_str; obtain ⟨_, rfl⟩ := r2.inv_str
  with_reducible refine PySem.P.in_str ?_
  exact k S _ s.heap s.toks (.refl sub) (.bool _)

/-! places -/
theorem subTail {A : Around} {s : Shared} {value slice : Expr} {o i : Value} {T id : String} {Q : Value → Shared → Prop} {E : Value → Shared → Prop} (hT : s.TypeIs o T) (hl : typeLookup (.type T) "__getitem__" = pure (some (.builtin id)))
    (h : wpAny X.M A (getItem o i) Q E s) : wpAny X.M A (subscriptTail value slice o i) Q E s := by
  unfold subscriptTail
  refine wpAny_bind ?_
  rw [getitemInPython_of_ne hT.not_modules]
  refine wpAny_bind (wpAny_specialOf hT hl ?_)
  have fin : ∀ ops : List Value, wpAny X.M A (operate ops (getItem o i)) (fun r s₃ => wpAny X.M A (letTemporaryGo value o r >>= fun _ => pure r) Q E s₃) E s := fun ops =>
    wpAny_operating (wpAny_mono h (fun r s₃ h₃ => wpAny_bind (wpAny_letTemporaryGo (wpAny_pure h₃))) fun _ _ x => x)
  have fin' : wpAny X.M A (subscripted slice false o i) (fun r s₃ => wpAny X.M A (letTemporaryGo value o r >>= fun _ => pure r) Q E s₃) E s := by
    unfold subscripted
    split
    · exact fin _
    · rename_i h; cases h
    · exact fin _
  exact wpAny_pure (wpAny_bind fin')

theorem Ev.sub {value slice : Expr} {pos : Pos} {d₁ d₂ d : D} (h1 : Ev X n B env O Γ value d₁) (h2 : Ev X n B env O Γ slice d₂) (h : ∀ v sl, Op2 X n (subscriptTail v sl) d₁ d₂ d) : Ev X n B env O Γ (.Subscript value slice pos) d := by
  intro A s S Q E ok F k
  refine Subscript_ (h1 A s S _ _ ok F fun S₁ v₁ h₁ t₁ a₁ r₁ => ?_)
  refine h2 A _ S₁ _ _ ok (F.adv a₁) fun S₂ v₂ h₂ t₂ a₂ r₂ => ?_
  refine h value slice A _ S₂ v₁ v₂ _ _ ok a₂.sub (F.base.trans (a₁.le.trans a₂.le)) (r₁.mono a₂.le) r₂ fun S₃ v h₃ t₃ a₃ r => ?_
  exact k S₃ v h₃ t₃ (a₁.trans (a₂.trans a₃)) r

theorem Op2.itemL {ds : List D} {i : Int} {d : D} (h0 : 0 ≤ i) (hd : ds[i.toNat]? = some d) (hz : ds.length ≤ sizeLine) : ∀ v sl, Op2 X n (subscriptTail v sl) (.list ds) (.int i) d := by
  intro v sl A s S v₁ v₂ Q E ok sub base r1 r2 k
  obtain ⟨_, rfl⟩ := r2.inv_int
  cases r1 with
  | @list a o vs m _ e1 e2 e3 e4 =>
  have hl : s.heap.IsList a vs.toArray := ⟨o, sub _ _ e1, e2, m, e3⟩
  obtain ⟨x, ex, rx⟩ := e4.get hd
  have hlt : i.toNat < ds.length := by
    by_cases q : i.toNat < ds.length
    · exact q
    · rw [List.getElem?_eq_none (by omega)] at hd; cases hd
  have := sizeLine_eq
  exact subTail hl.typeIs slot_list_getitem.lookup (wpAny_getItem_list hl h0 (by omega) (by simpa using ex) (k S x s.heap s.toks (.refl sub) rx))
theorem Op2.itemLneg {ds : List D} {i : Int} {d : D} (h0 : i < 0) (h1 : -(ds.length : Int) ≤ i) (hd : ds[(i + ds.length).toNat]? = some d) (hz : ds.length ≤ sizeLine) : ∀ v sl, Op2 X n (subscriptTail v sl) (.list ds) (.int i) d := by
  intro v sl A s S v₁ v₂ Q E ok sub base r1 r2 k
  obtain ⟨_, rfl⟩ := r2.inv_int
  cases r1 with
  | @list a o vs m _ e1 e2 e3 e4 =>
  have hl : s.heap.IsList a vs.toArray := ⟨o, sub _ _ e1, e2, m, e3⟩
  obtain ⟨x, ex, rx⟩ := e4.get hd
  have := sizeLine_eq
  have hlen : vs.toArray.size = ds.length := by rw [List.size_toArray]; exact e4.length
  exact subTail hl.typeIs slot_list_getitem.lookup (wpAny_getItem_list_neg hl h0 (by rw [hlen]; exact h1) (by omega) (by rw [hlen]; simpa using ex) (k S x s.heap s.toks (.refl sub) rx))
theorem Op2.itemS {l : List Nat} {i : Int} {c : Nat} (h0 : 0 ≤ i) (hd : l[i.toNat]? = some c) (hz : l.length ≤ sizeLine) : ∀ v sl, Op2 X n (subscriptTail v sl) (.str (tx l)) (.int i) (.str (tx [c])) := by
  intro v sl A s S v₁ v₂ Q E ok sub base r1 r2 k
  obtain ⟨_, rfl⟩ := r2.inv_int
  obtain ⟨t, rfl⟩ := r1.inv_str
  have hlt : i.toNat < l.length := by
    by_cases q : i.toNat < l.length
    · exact q
    · rw [List.getElem?_eq_none (by omega)] at hd; cases hd
  have := sizeLine_eq
  refine subTail (typeIs_str s _ t) F.slot_str_getitem.lookup ?_
  with_reducible refine PySem.P.getItem_str (c := c) ?_ ?_ ?_
  rotate_left 2
  · exact k S _ s.heap _ (.refl sub) (.str _ _)
  · rw [Bool.or_eq_false_iff]; exact ⟨decide_eq_false (by omega), decide_eq_false (by omega)⟩
  · rw [tx_len]
    unfold seqIndex?
    have h1 : ¬ i < 0 := by omega
    simp only [h1, if_false]
    have h2 : i < (l.length : Int) := by omega
    simp only [h0, h2, decide_true, Bool.and_self, if_true, Option.bind_some, tx]
    rw [List.getElem?_toArray]; exact hd
theorem Op2.itemSneg {l : List Nat} {i : Int} {c : Nat} (h0 : i < 0) (h1 : -(l.length : Int) ≤ i) (hd : l[(i + l.length).toNat]? = some c) (hz : l.length ≤ sizeLine) : ∀ v sl, Op2 X n (subscriptTail v sl) (.str (tx l)) (.int i) (.str (tx [c])) := by
  intro v sl A s S v₁ v₂ Q E ok sub base r1 r2 k
  obtain ⟨_, rfl⟩ := r2.inv_int
  obtain ⟨t, rfl⟩ := r1.inv_str
  have := sizeLine_eq
  refine subTail (typeIs_str s _ t) F.slot_str_getitem.lookup ?_
  with_reducible refine PySem.P.getItem_str (c := c) ?_ ?_ ?_
  rotate_left 2
  · exact k S _ s.heap _ (.refl sub) (.str _ _)
  · rw [Bool.or_eq_false_iff]; exact ⟨decide_eq_false (by omega), decide_eq_false (by omega)⟩
  · rw [tx_len]
    unfold seqIndex?
    have h2 : 0 ≤ i + (l.length : Int) := by omega
    have h3 : i + (l.length : Int) < (l.length : Int) := by omega
    simp only [h0, h2, h3, decide_true, Bool.and_self, if_true, Option.bind_some, tx]
    rw [List.getElem?_toArray]; exact hd
end
end Mine

end
section
open PySem PySem.Calls PyProof.Rows PySem.W
set_option linter.unusedVariables false
set_option maxRecDepth 100000
namespace Mine

theorem Rd.isList {S : PM} {h : Heap} {v : Value} {ds : List D} (r : Rd S v (.list ds)) (sub : Sub S h) : ∃ a vs, v = .ref a ∧ h.IsList a (List.toArray vs) ∧ RdL S vs ds := by
  cases r with
  | @list a o vs m _ e1 e2 e3 e4 => exact ⟨a, vs, rfl, ⟨o, sub _ _ e1, e2, m, e3⟩, e4⟩

/-! ### slices -/
def pickL {α : Type} (xs : List α) (lo hi st : Option Int) : List α :=
  (sliceRange (sliceBounds lo hi st xs.length).1 (sliceBounds lo hi st xs.length).2.1 (sliceBounds lo hi st xs.length).2.2).filterMap (xs[·]?)

theorem RdL.filterMap {S : PM} {vs : List Value} {ds : List D} (h : RdL S vs ds) : ∀ is : List Nat, RdL S (is.filterMap (vs[·]?)) (is.filterMap (ds[·]?))
  | [] => .nil
  | i :: is => by
    rw [List.filterMap_cons, List.filterMap_cons]
    by_cases q : i < ds.length
    · obtain ⟨v, e, r⟩ := h.get (i := i) (d := ds[i]) (by simp [q])
      rw [e, show ds[i]? = some ds[i] by simp [q]]
      exact .cons r (h.filterMap is)
    · rw [List.getElem?_eq_none (l := ds) (by omega), List.getElem?_eq_none (l := vs) (by rw [h.length]; omega)]
      exact h.filterMap is

/-- a part of a slice: written or none -/
inductive EvP (X : Cx) (n : Nat) (B : Base) (env : Env) (O : Own) (Γ : Gam) : Option Expr → Option Int → Prop
  | none : EvP X n B env O Γ none none
  | some {e : Expr} {i : Int} : Ev X n B env O Γ e (.int i) → EvP X n B env O Γ (some e) (some i)

section
variable {X : Cx} {n : Nat} {B : Base} {env : Env} {O : Own} {Γ : Gam}

theorem evalPart_F {A : Around} {s : Shared} {S : PM} {e : Option Expr} {i : Option Int} {Q : Value → Shared → Prop} {E : Value → Shared → Prop} (h : EvP X n B env O Γ e i) (ok : Ok n A) (F : Frm X B S env O s.heap Γ)
    (k : ∀ S' v h' tk, Adv S s.heap S' h' → IsPart v i → Q v { s with heap := h', toks := tk }) : wpAny X.M A (evalPart e env) Q E s := by
  cases h with
  | none => exact evalPart_none_step (k S _ s.heap s.toks (.refl F.sub) .none)
  | some h =>
    refine evalPart_some_step (h A s S _ _ ok F fun S₁ v h₁ t₁ a₁ r₁ => ?_)
    cases r₁
    exact k S₁ _ h₁ t₁ a₁ (.int _ _)

theorem Ev.sliceL {value : Expr} {lo hi st : Option Expr} {p pos : Pos} {ds : List D} {a b c : Option Int} (h : Ev X n B env O Γ value (.list ds)) (ha : EvP X n B env O Γ lo a) (hb : EvP X n B env O Γ hi b) (hc : EvP X n B env O Γ st c)
    (h0 : c ≠ some 0) (hz : ds.length ≤ sizeLine) : Ev X n B env O Γ (.Subscript value (.Slice lo hi st p) pos) (.list (pickL ds a b c)) := by
  intro A s S Q E ok F k
  refine Subscript_ (h A s S _ _ ok F fun S₁ v₁ h₁ t₁ a₁ r₁ => ?_)
  refine wpAny_Slice (evalPart_F ha ok (F.adv a₁) fun S₂ va h₂ t₂ a₂ p₂ => ?_)
  refine evalPart_F hb ok ((F.adv a₁).adv a₂) fun S₃ vb h₃ t₃ a₃ p₃ => ?_
  refine evalPart_F hc ok (((F.adv a₁).adv a₂).adv a₃) fun S₄ vc h₄ t₄ a₄ p₄ => ?_
  have r₄ := r₁.mono (a₂.le.trans (a₃.le.trans a₄.le))
  obtain ⟨l, vs, rfl, hl, hr⟩ := r₄.isList a₄.sub
  have a5 : Adv S₄ h₄ S₄ (h₄.push { cls := .type "slice", data := .fields #[va, vb, vc] }) := Adv.of_ext a₄.sub (Ext.push _ _)
  have hl' : (h₄.push { cls := .type "slice", data := .fields #[va, vb, vc] }).IsList l vs.toArray := hl.push _
  refine subTail (s := { s with heap := h₄.push { cls := .type "slice", data := .fields #[va, vb, vc] }, toks := t₄ }) hl'.typeIs slot_list_getitem.lookup
    (wpAny_getItem_list_slice (s := { s with heap := h₄.push { cls := .type "slice", data := .fields #[va, vb, vc] }, toks := t₄ }) hl' (Heap.IsSliceOf.new ..) p₂ p₃ p₄ h0 ?_ (by rw [List.size_toArray, hr.length]; exact hz))
  have a6 := Adv.push a5.sub ({ cls := .type "list", data := .seq (slicePick vs.toArray a b c) } : Obj) rfl
  refine k _ _ _ t₄ (a₁.trans (a₂.trans (a₃.trans (a₄.trans (a5.trans a6))))) (.list (vs := pickL vs a b c) (n := 0) (addS_self _ _ _) rfl ?_ ?_)
  · show Data.seq (slicePick vs.toArray a b c) 0 = Data.seq (pickL vs a b c).toArray 0
    unfold slicePick pickL
    simp
  · unfold pickL
    rw [hr.length]
    exact (hr.filterMap _).mono a6.le

theorem sliceRange_one (a b : Nat) (h : a ≤ b) : sliceRange (a : Int) (b : Int) 1 = (List.range (b - a)).map (a + ·) := by
  unfold sliceRange
  simp only [show (1 : Int) > 0 by decide, if_true]
  by_cases q : (a : Int) < b
  · rw [if_pos q]
    rw [show (((b : Int) - a + 1 - 1) / 1).toNat = b - a by rw [Int.ediv_one]; omega]
    apply List.map_congr_left
    intro k _
    omega
  · rw [if_neg q]
    have : b - a = 0 := by omega
    simp [this]
theorem filterMap_run {α : Type} (xs : List α) (a b : Nat) (h : a ≤ b) (hb : b ≤ xs.length) : ((List.range (b - a)).map (a + ·)).filterMap (xs[·]?) = (xs.drop a).take (b - a) := by
  apply List.ext_getElem?
  intro i
  rw [List.filterMap_map]
  have e : (List.range (b - a)).filterMap ((fun x => xs[x]?) ∘ fun x => a + x) = (List.range (b - a)).attach.map fun i => xs[a + i.1]'(by have := List.mem_range.mp i.2; omega) := by
    rw [show (List.range (b - a)).filterMap ((fun x => xs[x]?) ∘ fun x => a + x) = ((List.range (b - a)).attach.map (·.1)).filterMap ((fun x => xs[x]?) ∘ fun x => a + x) by rw [List.attach_map_subtype_val]]
    rw [List.filterMap_map, ← List.filterMap_eq_map]
    congr 1
    funext ⟨j, hj⟩
    have := List.mem_range.mp hj
    simp only [Function.comp]
    exact List.getElem?_eq_getElem (by omega)
  rw [e]
  by_cases q : i < b - a
  · rw [List.getElem?_map, List.getElem?_attach]
    rw [List.getElem?_take_of_lt q, List.getElem?_drop]
    simp [q, show a + i < xs.length by omega]
  · rw [List.getElem?_eq_none (by simp; omega), List.getElem?_eq_none (by simp; omega)]
theorem pickL_run {α : Type} (xs : List α) (a b : Nat) (h : a ≤ b) (hb : b ≤ xs.length) : pickL xs (some (a : Int)) (some (b : Int)) none = (xs.drop a).take (b - a) := by
  unfold pickL sliceBounds
  simp only [Option.getD_none, show (1 : Int) > 0 by decide, if_true, show ¬ ((a : Int) < 0) by omega, show ¬ ((b : Int) < 0) by omega, if_false]
  rw [show max (0 : Int) (min (a : Int) xs.length) = (a : Int) by omega, show max (0 : Int) (min (b : Int) xs.length) = (b : Int) by omega, sliceRange_one a b h, filterMap_run xs a b h hb]
theorem pickL_from {α : Type} (xs : List α) (a : Nat) (h : a ≤ xs.length) : pickL xs (some (a : Int)) none none = xs.drop a := by
  unfold pickL sliceBounds
  simp only [Option.getD_none, show (1 : Int) > 0 by decide, if_true, show ¬ ((a : Int) < 0) by omega, if_false]
  rw [show max (0 : Int) (min (a : Int) xs.length) = (a : Int) by omega, sliceRange_one a _ h, filterMap_run xs a _ h (Nat.le_refl _)]
  rw [List.take_of_length_le (by simp)]
theorem pickL_to {α : Type} (xs : List α) (b : Nat) : pickL xs none (some (b : Int)) none = xs.take b := by
  unfold pickL sliceBounds
  simp only [Option.getD_none, show (1 : Int) > 0 by decide, if_true, show ¬ ((b : Int) < 0) by omega, if_false]
  rw [show max (0 : Int) (min (b : Int) xs.length) = ((min b xs.length : Nat) : Int) by omega, show (0 : Int) = ((0 : Nat) : Int) by rfl, sliceRange_one 0 _ (Nat.zero_le _), filterMap_run xs 0 _ (Nat.zero_le _) (Nat.min_le_right _ _)]
  rw [List.drop_zero, Nat.sub_zero, ← List.take_eq_take_min]

theorem strSlice_eq (l : List Nat) (a b : Option Int) : (Builtin.Str.strSliceIndices a b 1 l.length).filterMap ((tx l).cps[·]?) = pickL l a b none := by
  unfold pickL Builtin.Str.strSliceIndices sliceBounds tx
  cases a <;> cases b <;> simp
theorem bounds_nat (a b : Option Int) (n : Nat) : ∃ x y : Nat, x ≤ n ∧ y ≤ n ∧ (sliceBounds a b none n) = ((x : Int), (y : Int), 1) := by
  unfold sliceBounds
  have c : ∀ i : Int, ∃ x : Nat, x ≤ n ∧ max (0 : Int) (min (if i < 0 then i + n else i) n) = (x : Int) := fun i =>
    ⟨(max (0 : Int) (min (if i < 0 then i + n else i) n)).toNat, by omega, by omega⟩
  cases a with
  | none => cases b with
    | none => exact ⟨0, n, by omega, by omega, by simp⟩
    | some j => obtain ⟨y, hy, e⟩ := c j; exact ⟨0, y, by omega, hy, by simp [e]⟩
  | some i => obtain ⟨x, hx, e⟩ := c i; cases b with
    | none => exact ⟨x, n, hx, by omega, by simp [e]⟩
    | some j => obtain ⟨y, hy, e'⟩ := c j; exact ⟨x, y, hx, hy, by simp [e, e']⟩
theorem pickL_whole (l : List Nat) (a b : Option Int) (h : (Builtin.Str.strSliceIndices a b 1 l.length).length = l.length) : tx l = tx (pickL l a b none) := by
  have e : Builtin.Str.strSliceIndices a b 1 l.length = sliceRange (sliceBounds a b none l.length).1 (sliceBounds a b none l.length).2.1 (sliceBounds a b none l.length).2.2 := by
    unfold Builtin.Str.strSliceIndices sliceBounds
    cases a <;> cases b <;> simp
  obtain ⟨x, y, hx, hy, eb⟩ := bounds_nat a b l.length
  unfold pickL
  rw [e] at h
  rw [eb] at h ⊢
  by_cases q : x ≤ y
  · simp only at h ⊢
    rw [sliceRange_one x y q] at h ⊢
    rw [filterMap_run l x y q hy]
    simp only [List.length_map, List.length_range] at h
    have hx0 : x = 0 := by omega
    subst hx0
    rw [List.drop_zero, List.take_of_length_le (by omega)]
  · have hz : sliceRange (x : Int) (y : Int) 1 = [] := by
      unfold sliceRange
      simp only [show (1 : Int) > 0 by decide, if_true]
      rw [if_neg (by omega)]
      rfl
    simp only at h ⊢
    rw [hz] at h ⊢
    have : l = [] := List.length_eq_zero_iff.mp h.symm
    subst this
    rfl

theorem Ev.sliceS {value : Expr} {lo hi : Option Expr} {p pos : Pos} {l : List Nat} {a b : Option Int} (h : Ev X n B env O Γ value (.str (tx l))) (ha : EvP X n B env O Γ lo a) (hb : EvP X n B env O Γ hi b) (hz : l.length ≤ sizeLine) :
    Ev X n B env O Γ (.Subscript value (.Slice lo hi none p) pos) (.str (tx (pickL l a b none))) := by
  intro A s S Q E ok F k
  refine Subscript_ (h A s S _ _ ok F fun S₁ v₁ h₁ t₁ a₁ r₁ => ?_)
  refine wpAny_Slice (evalPart_F ha ok (F.adv a₁) fun S₂ va h₂ t₂ a₂ p₂ => ?_)
  refine evalPart_F hb ok ((F.adv a₁).adv a₂) fun S₃ vb h₃ t₃ a₃ p₃ => ?_
  refine evalPart_none_step ?_
  obtain ⟨t, rfl⟩ := r₁.inv_str
  have a5 : Adv S₃ h₃ S₃ (h₃.push { cls := .type "slice", data := .fields #[va, vb, .none] }) := Adv.of_ext a₃.sub (Ext.push _ _)
  have key : ∀ (l' u' : Option (Int × Tok)), va = partValue l' → vb = partValue u' → a = l'.map (·.1) → b = u'.map (·.1) →
      wpAny X.M A (getItem (.str (tx l) t) (.ref h₃.objs.size)) Q E { s with heap := h₃.push { cls := .type "slice", data := .fields #[va, vb, .none] }, toks := t₃ } := fun l' u' e1 e2 e3 e4 => by
    refine wpAny_getItem_str_slice (l := l') (u := u') (st := none) ⟨_, Heap.get?_push_size _ rfl, rfl, by rw [e1, e2]; rfl⟩ rfl ?_
    have e5 : ((Builtin.Str.strSliceIndices (l'.map (·.1)) (u'.map (·.1)) 1 (tx l).length).filterMap ((tx l).cps[·]?)) = pickL l a b none := by
      rw [e3, e4, tx_len]
      exact strSlice_eq l _ _
    have e6 : (Txt.slice (tx l) (l'.map (·.1)) (u'.map (·.1))) = tx (pickL l a b none) := by
      unfold Txt.slice
      rw [e5]
      split
      · rename_i hc
        rw [beq_self_eq_true, Bool.true_and, beq_iff_eq, tx_len] at hc
        rw [e3, e4, pickL_whole l _ _ hc]
      · rfl
    have := post_val_or_str (s := { s with heap := h₃.push { cls := .type "slice", data := .fields #[va, vb, .none] }, toks := t₃ }) (c := ((1 : Int) == 1 && (Builtin.Str.strSliceIndices (l'.map (·.1)) (u'.map (·.1)) 1 (tx l).length).length == (tx l).length) = true) (y := tx l)
      (z := ⟨((Builtin.Str.strSliceIndices (l'.map (·.1)) (u'.map (·.1)) 1 (tx l).length).filterMap ((tx l).cps[·]?)).toArray⟩) (t := t) (Q := Q) ⟨?_, fun t' k' => ?_⟩
    · exact this
    · show (Txt.slice (tx l) (l'.map (·.1)) (u'.map (·.1))).length ≤ _
      exact Nat.le_trans (Txt.slice_le _ _ _) (by rw [tx_len]; exact hz)
    · show Q (.str (Txt.slice (tx l) (l'.map (·.1)) (u'.map (·.1))) t') _
      rw [e6]
      exact k S₃ _ _ k' (a₁.trans (a₂.trans (a₃.trans a5))) (.str _ _)
  refine subTail (s := { s with heap := h₃.push { cls := .type "slice", data := .fields #[va, vb, .none] }, toks := t₃ }) (typeIs_str _ _ t) PySem.F.slot_str_getitem.lookup ?_
  cases p₂ with
  | none => cases p₃ with
    | none => exact key none none rfl rfl rfl rfl
    | int j u => exact key none (some (j, u)) rfl rfl rfl rfl
  | int i u => cases p₃ with
    | none => exact key (some (i, u)) none rfl rfl rfl rfl
    | int j u' => exact key (some (i, u)) (some (j, u')) rfl rfl rfl rfl
end
end Mine

end
section
open PySem PySem.Calls PyProof.Rows PySem.W
set_option linter.unusedVariables false
set_option maxRecDepth 100000
namespace Mine
section
variable {X : Cx} {n : Nat} {B : Base} {env : Env} {O : Own} {Γ : Gam}

theorem Op2.addL (xs ys : List D) (hz : xs.length + ys.length ≤ sizeLine) : Op2 X n (binaryOp .Add) (.list xs) (.list ys) (.list (xs ++ ys)) := by
  intro A s S v₁ v₂ Q E ok sub base r1 r2 k
  cases r1 with
  | @list a o vs m _ e1 e2 e3 e4 =>
  cases r2 with
  | @list b o' ws m' _ f1 f2 f3 f4 =>
  have hT : s.TypeIs (.ref a) "list" := ⟨o, sub _ _ e1, e2⟩
  have hT' : s.TypeIs (.ref b) "list" := ⟨o', sub _ _ f1, f2⟩
  have ho := sub _ _ e1
  have ho' := sub _ _ f1
  obtain ⟨c, dd, dt, sl⟩ := o
  obtain ⟨c', dd', dt', sl'⟩ := o'
  simp only at e2 e3 f2 f3
  subst e2 e3 f2 f3
  refine concat_meets hT hT' noFill_list_add seq_list_add PySem.F.slot_list_add PySem.F.entry_list_add (PySem.F.args_list_add_2 _ _) (list_addW a b vs.toArray ws.toArray m m' dd dd' sl sl' (by rw [List.size_toArray, List.size_toArray, e4.length, f4.length]; exact hz)) ⟨ho, ho', ?_⟩
  have ad := Adv.push sub ({ cls := .type "list", data := .seq (vs.toArray ++ ws.toArray) } : Obj) rfl
  exact k _ _ _ s.toks ad (.list (vs := vs ++ ws) (n := 0) (addS_self _ _ _) rfl (by simp) ((e4.append f4).mono ad.le))

theorem OpN.lenL {xs : List D} (hz : xs.length ≤ sizeLine) : OpN X n (fun vs => PySem.call (.builtin "len") vs) [.list xs] (.int xs.length) := by
  intro A s S vs Q E ok sub base r k
  obtain ⟨_, rfl, ra⟩ := r.inv_one; have r := ra
  obtain ⟨a, ws, rfl, hl, hr⟩ := r.isList sub
  have := sizeLine_eq
  refine call_len_list hl (by rw [List.size_toArray, hr.length]; omega) ?_
  rw [List.size_toArray, hr.length]
  exact k S _ s.heap _ (.refl sub) (.int _ _)
theorem OpN.lenS {l : List Nat} (hz : l.length ≤ sizeLine) : OpN X n (fun vs => PySem.call (.builtin "len") vs) [.str (tx l)] (.int l.length) := by
  intro A s S vs Q E ok sub base r k
  obtain ⟨_, rfl, ra⟩ := r.inv_one; have r := ra
  cases r
  have := sizeLine_eq
  refine PySem.P.len_str (by rw [tx_len]; omega) ?_
  rw [tx_len]
  exact k S _ s.heap _ (.refl sub) (.int _ _)
theorem OpN.range {m : Int} : OpN X n (fun vs => PySem.call (.type "range") vs) [.int m] (.range m) := by
  intro A s S vs Q E ok sub base r k
  obtain ⟨_, rfl, ra⟩ := r.inv_one; have r := ra
  obtain ⟨t, rfl⟩ := r.inv_int
  refine call_range_1 ?_
  have a := Adv.push sub ({ cls := .type "range", data := .fields #[.int 0 s.toks, .int m t, .int 1 (s.toks + 1)] } : Obj) rfl
  exact k _ _ _ _ a (.range (addS_self _ _ _))

theorem RdL.strs {S : PM} : ∀ {vs : List Value} {ts : List (List Nat)}, RdL S vs (ts.map fun l => .str (tx l)) → ∃ l : List (Str × Tok), vs = strValues l ∧ l.map (·.1) = ts.map tx
  | _, [], h => by cases h; exact ⟨[], rfl, rfl⟩
  | _, t :: ts, h => by
    cases h with
    | cons r h =>
    obtain ⟨u, rfl⟩ := r.inv_str
    obtain ⟨l, rfl, e⟩ := RdL.strs h
    exact ⟨(tx t, u) :: l, rfl, by simp [e]⟩

/-- texts glued -/
def joinT (sep : List Nat) : List (List Nat) → List Nat
  | [] => []
  | [a] => a
  | a :: r => a ++ sep ++ joinT sep r
theorem join_tx (sep : List Nat) : ∀ ts : List (List Nat), Str.join (tx sep) (ts.map tx) = tx (joinT sep ts)
  | [] => rfl
  | [a] => rfl
  | a :: b :: r => by
    have := join_tx sep (b :: r)
    simp only [List.map_cons] at this ⊢
    show tx a ++ tx sep ++ Str.join (tx sep) (tx b :: List.map tx r) = _
    rw [this, tx_append, tx_append]
    rfl
theorem joinT_len (sep : List Nat) : ∀ ts : List (List Nat), (joinT sep ts).length ≤ (ts.map List.length).sum + ts.length * sep.length
  | [] => Nat.zero_le _
  | [a] => by simp [joinT]
  | a :: b :: r => by
    have := joinT_len sep (b :: r)
    simp only [joinT, List.length_append, List.map_cons, List.sum_cons, List.length_cons] at this ⊢
    have e : (r.length + 1 + 1) * sep.length = (r.length + 1) * sep.length + sep.length := by rw [Nat.add_mul, Nat.one_mul]
    rw [e]; omega
theorem OpN.join {sep : List Nat} {ts : List (List Nat)} (hz : (ts.map List.length).sum + ts.length * sep.length ≤ sizeLine) :
    OpN X n (fun vs => PySem.call (.builtin "str.join") vs) [.str (tx sep), .list (ts.map fun l => .str (tx l))] (.str (tx (joinT sep ts))) := by
  intro A s S vs Q E ok sub base r k
  obtain ⟨_, _, rfl, ra, rb⟩ := r.inv_two; have r := ra; have r2 := rb
  obtain ⟨t, rfl⟩ := r.inv_str
  obtain ⟨a, ws, rfl, hl, hr⟩ := r2.isList sub
  obtain ⟨l, rfl, e⟩ := hr.strs
  refine SC.join (texts := ts.map tx) hl e ?_ fun t' k' => ?_
  · unfold JoinOk
    rw [StrLaws.joinTotal, List.map_map]
    unfold Builtin.Str.tooLong
    have : (List.map ((fun x => x.length) ∘ tx) ts) = ts.map List.length := by
      apply List.map_congr_left; intro x _; exact tx_len x
    rw [this, List.length_map, tx_len]
    simp; omega
  · have e2 : Txt.join (tx sep) (ts.map tx) = tx (joinT sep ts) := (StrLaws.glued_eq_join _ _).trans (join_tx sep ts)
    rw [e2]
    exact k S _ s.heap _ (.refl sub) (.str _ _)

/-! sums, least, greatest -/
theorem RdL.ints {S : PM} {vs : List Value} {ns : List Int} (h : RdL S vs (ns.map .int)) {i : Nat} {v : Value} (e : vs[i]? = some v) : ∃ t, v = .int (ns.getD i 0) t := by
  have hl := h.length
  rw [List.length_map] at hl
  have hi : i < ns.length := by
    by_cases q : i < vs.length
    · omega
    · rw [List.getElem?_eq_none (by omega)] at e; cases e
  obtain ⟨v', e', r⟩ := h.get (i := i) (d := .int ns[i]) (by simp [hi])
  rw [e] at e'; cases e'
  cases r with
  | int _ t => exact ⟨t, by rw [List.getD_eq_getElem?_getD]; simp [hi]⟩

theorem iterList {A : Around} {s : Shared} {a : Addr} {vs : List Value} {Q : Value → Shared → Prop} {E : Value → Shared → Prop} (hh : A.handled = none) (hl : s.heap.IsList a vs.toArray)
    (k : ∀ J, s.heap.get? J = none → J = s.heap.objs.size → Walks X.prog X.w A J [J, a] [J] vs.toArray.size (fun i v => vs.toArray[i]? = some v) (fun i h => h.IsListIter J a i ∧ h.IsList a vs.toArray) →
      (fun i h => h.IsListIter J a i ∧ h.IsList a vs.toArray) 0 (s.heap.push { cls := .type "list_iterator", data := .fields #[.ref a, .int 0 0] }) → Q (.ref J) { s with heap := s.heap.push { cls := .type "list_iterator", data := .fields #[.ref a, .int 0 0] } }) : wpAny X.M A (pyIter (.ref a)) Q E s := by
  obtain ⟨o, ho, r⟩ := id hl
  have hne : a ≠ s.heap.objs.size := Nat.ne_of_lt (Heap.lt_size ho)
  exact wpAny_pyIter_list hl (k s.heap.objs.size (none_size _) rfl (Walks.list hh _ a hne vs.toArray) ⟨⟨_, Heap.get?_push_size _ rfl, rfl, rfl⟩, o, Heap.get?_push_of_some _ ho, r⟩)

theorem preSum_list (ns : List Int) : ∀ j, preSum (fun i => ns.getD i 0) j = (ns.take j).sum := preSum_getD ns

theorem OpN.sum {ns : List Int} : OpN X n (fun vs => PySem.call (.builtin "sum") vs) [.list (ns.map .int)] (.int ns.sum) := by
  intro A s S vs Q E ok sub base r k
  obtain ⟨_, rfl, ra⟩ := r.inv_one; have r := ra
  obtain ⟨a, ws, rfl, hl, hr⟩ := r.isList sub
  refine call_sum_walkG (iterList (A := A.in1) ok.1 hl fun J hJ hJs W st => ?_)
  have alv : ∀ b, b ∈ [J, a] → b < (s.heap.push { cls := .type "list_iterator", data := .fields #[.ref a, .int 0 0] }).objs.size := fun b hb => by
    rw [Heap.size_push]
    obtain ⟨o, ho, _⟩ := hl
    have := Heap.lt_size ho
    simp at hb
    rcases hb with rfl | rfl
    · rw [hJs]; exact Nat.lt_succ_self _
    · exact Nat.lt_succ_of_lt this
  refine ⟨J, [J, a], [J], _, _, _, fun i => ns.getD i 0, rfl, W, st, alv, fun i v hv => hr.ints (by simpa using hv), fun h' tk t' hk => ?_⟩
  rw [preSum_list, List.take_of_length_le (by rw [List.size_toArray, hr.length]; simp)]
  exact k S _ h' tk (.of_ext sub fun b o e => hk b o (fun q => by simp at q; rw [q, hJ] at e; cases e) (Heap.get?_push_of_some _ e)) (.int _ _)

theorem OpN.max2 {a b : Int} : OpN X n (fun vs => PySem.call (.builtin "max") vs) [.int a, .int b] (.int (if b > a then b else a)) := by
  intro A s S vs Q E ok sub base r k
  obtain ⟨_, _, rfl, ra, rb⟩ := r.inv_two; have r := ra; have r2 := rb; obtain ⟨_, rfl⟩ := r.inv_int; obtain ⟨_, rfl⟩ := r2.inv_int
  refine max_two_ints ok.1 fun h' tk hk => ?_
  split
  · rename_i q; rw [if_pos q] at k; exact k S _ h' tk (.of_ext sub hk) (.int _ _)
  · rename_i q; rw [if_neg q] at k; exact k S _ h' tk (.of_ext sub hk) (.int _ _)
theorem OpN.min2 {a b : Int} : OpN X n (fun vs => PySem.call (.builtin "min") vs) [.int a, .int b] (.int (if b < a then b else a)) := by
  intro A s S vs Q E ok sub base r k
  obtain ⟨_, _, rfl, ra, rb⟩ := r.inv_two; have r := ra; have r2 := rb; obtain ⟨_, rfl⟩ := r.inv_int; obtain ⟨_, rfl⟩ := r2.inv_int
  refine min_two_ints ok.1 fun h' tk hk => ?_
  split
  · rename_i q; rw [if_pos q] at k; exact k S _ h' tk (.of_ext sub hk) (.int _ _)
  · rename_i q; rw [if_neg q] at k; exact k S _ h' tk (.of_ext sub hk) (.int _ _)

theorem RdL.nums {S : PM} {vs : List Value} {ns : List Int} (h : RdL S vs (ns.map .int)) : ∀ v ∈ vs.toArray, Flt.NumV v := fun v hv => by
  obtain ⟨i, hi, e⟩ := List.mem_iff_getElem.mp (by simpa using hv)
  obtain ⟨t, rfl⟩ := h.ints (i := i) (v := v) (by rw [← e]; simp)
  exact .int _ _
theorem RdL.sameInt {S : PM} {vs : List Value} {m : Nat} {a : Int} (h : RdL S vs ((List.replicate m a).map .int)) {i : Nat} {v : Value} (e : vs[i]? = some v) : ∃ t, v = .int a t := by
  obtain ⟨t, rfl⟩ := h.ints e
  have hl := h.length
  rw [List.length_map, List.length_replicate] at hl
  have hi : i < m := by
    by_cases q : i < vs.length
    · omega
    · rw [List.getElem?_eq_none (by omega)] at e; cases e
  exact ⟨t, by rw [List.getD_eq_getElem?_getD, List.getElem?_replicate, if_pos hi]; rfl⟩
/-- all the same: the least is it, the greatest too -/
theorem OpN.minSame {m : Nat} {a : Int} : OpN X n (fun vs => PySem.call (.builtin "min") vs) [.list ((List.replicate (m + 1) a).map .int)] (.int a) := by
  intro A s S vs Q E ok sub base r k
  obtain ⟨_, rfl, ra⟩ := r.inv_one; have r := ra
  obtain ⟨l, ws, rfl, hl, hr⟩ := r.isList sub
  refine call_min_walk (iterList (A := A.in1) ok.1 hl fun J hJ hJs W st => ?_)
  have alv : ∀ b, b ∈ [J, l] → b < (s.heap.push { cls := .type "list_iterator", data := .fields #[.ref l, .int 0 0] }).objs.size := fun b hb => by
    rw [Heap.size_push]
    obtain ⟨o, ho, _⟩ := hl
    have := Heap.lt_size ho
    simp at hb
    rcases hb with rfl | rfl
    · rw [hJs]; exact Nat.lt_succ_self _
    · exact Nat.lt_succ_of_lt this
  refine ⟨J, [J, l], [J], _, _, _, _, rfl, W, st, alv, by rw [List.size_toArray, hr.length]; simp, Flt.cmpOf_lt ws.toArray hr.nums, fun v h' tk hv hk => ?_⟩
  obtain ⟨t, rfl⟩ := hr.sameInt (by simpa using hv)
  exact k S _ h' tk (.of_ext sub fun b o e => hk b o (fun q => by simp at q; rw [q, hJ] at e; cases e) (Heap.get?_push_of_some _ e)) (.int _ _)
theorem OpN.maxSame {m : Nat} {a : Int} : OpN X n (fun vs => PySem.call (.builtin "max") vs) [.list ((List.replicate (m + 1) a).map .int)] (.int a) := by
  intro A s S vs Q E ok sub base r k
  obtain ⟨_, rfl, ra⟩ := r.inv_one; have r := ra
  obtain ⟨l, ws, rfl, hl, hr⟩ := r.isList sub
  refine call_max_walk (iterList (A := A.in1) ok.1 hl fun J hJ hJs W st => ?_)
  have alv : ∀ b, b ∈ [J, l] → b < (s.heap.push { cls := .type "list_iterator", data := .fields #[.ref l, .int 0 0] }).objs.size := fun b hb => by
    rw [Heap.size_push]
    obtain ⟨o, ho, _⟩ := hl
    have := Heap.lt_size ho
    simp at hb
    rcases hb with rfl | rfl
    · rw [hJs]; exact Nat.lt_succ_self _
    · exact Nat.lt_succ_of_lt this
  refine ⟨J, [J, l], [J], _, _, _, _, rfl, W, st, alv, by rw [List.size_toArray, hr.length]; simp, Flt.cmpOf_gt ws.toArray hr.nums, fun v h' tk hv hk => ?_⟩
  obtain ⟨t, rfl⟩ := hr.sameInt (by simpa using hv)
  exact k S _ h' tk (.of_ext sub fun b o e => hk b o (fun q => by simp at q; rw [q, hJ] at e; cases e) (Heap.get?_push_of_some _ e)) (.int _ _)

/-! three floats: the greatest, the least -/
def fltLt (x y : UInt64) : Bool := Float64.cmp x y == some .lt
def fmax3 (x y z : UInt64) : UInt64 := let m := if fltLt x y then y else x; if fltLt m z then z else m
def fmin3 (x y z : UInt64) : UInt64 := let m := if fltLt y x then y else x; if fltLt z m then z else m
theorem tup3 {A : Around} {s : Shared} {E : Value → Shared → Prop} {a b c : Value} {op : CmpOp} {bt : Nat → Nat → Bool} {Q : Value → Shared → Prop} (hh : A.handled = none) (hc : CmpOf X.prog X.w A.in1 op (fun i v => #[a, b, c][i]? = some v) bt)
    (k : ∀ v h' tk, #[a, b, c][argBest bt 2]? = some v → Ext s.heap h' → Q v { s with heap := h', toks := tk }) :
    wpAny X.M A.in1 (pyIter (.ref s.heap.objs.size)) (fun it s₂ => ∃ I fp wr n P St bt, it = .ref I ∧ Walks X.prog X.w A.in1 I fp wr n P St ∧ St 0 s₂.heap ∧ (∀ b ∈ fp, b < s₂.heap.objs.size) ∧ 0 < n ∧ CmpOf X.prog X.w A.in1 op P bt ∧
      ∀ v h' tk, P (argBest bt (n - 1)) v → (∀ b o, b ∉ wr → s₂.heap.get? b = some o → h'.get? b = some o) → Q v { s₂ with heap := h', toks := tk }) E
      { s with heap := s.heap.push { cls := .type "tuple", data := .seq #[a, b, c] } } := by
  have hT : (s.heap.push { cls := .type "tuple", data := .seq #[a, b, c] }).IsTuple s.heap.objs.size #[a, b, c] := ⟨_, Heap.get?_push_size _ rfl, rfl, 0, rfl⟩
  have hsz : (s.heap.push { cls := .type "tuple", data := .seq #[a, b, c] }).objs.size = s.heap.objs.size + 1 := Heap.size_push ..
  refine wpAny_pyIter_tuple (s := { s with heap := s.heap.push { cls := .type "tuple", data := .seq #[a, b, c] } }) hT ?_
  refine ⟨_, [_, s.heap.objs.size], [_], _, _, _, bt, rfl, Walks.tuple (A := A.in1) hh _ s.heap.objs.size (by rw [hsz]; exact Nat.ne_of_lt (Nat.lt_succ_self _)) #[a, b, c],
    ⟨⟨_, Heap.get?_push_size _ rfl, rfl, rfl⟩, hT.push _⟩, fun c' hc' => ?_, by simp, hc, fun v h' tk hP hk => ?_⟩
  · show c' < ((s.heap.push _).push _).objs.size
    rw [Heap.size_push, hsz]
    rcases List.mem_cons.mp hc' with rfl | hc'
    · rw [hsz]; exact Nat.lt_succ_self _
    · rcases List.mem_cons.mp hc' with rfl | hc'
      · exact Nat.lt_succ_of_lt (Nat.lt_succ_self _)
      · cases hc'
  · refine k v h' tk hP fun c' o e => ?_
    refine hk c' o (fun hm => ?_) (Heap.get?_push_of_some _ (Heap.get?_push_of_some _ e))
    rcases List.mem_cons.mp hm with e1 | hm
    · have := Heap.lt_size e; rw [e1, hsz] at this; exact Nat.lt_irrefl _ (Nat.lt_of_succ_lt this)
    · cases hm
theorem OpN.max3 {x y z : UInt64} : OpN X n (fun vs => PySem.call (.builtin "max") vs) [.flt x, .flt y, .flt z] (.flt (fmax3 x y z)) := by
  intro A s S vs Q E ok sub base r k
  cases r with
  | cons r r' =>
  cases r' with
  | cons r2 r' =>
  cases r' with
  | cons r3 r' =>
  cases r'
  obtain ⟨t1, rfl⟩ := r.inv_flt
  obtain ⟨t2, rfl⟩ := r2.inv_flt
  obtain ⟨t3, rfl⟩ := r3.inv_flt
  refine call_max_three (tup3 ok.1 (Flt.cmpOf_gt #[.float x t1, .float y t2, .float z t3] (by intro v hv; simp at hv; rcases hv with rfl | rfl | rfl <;> exact .float _ _)) fun v h' tk hv hx => ?_)
  have : ∃ t, v = .float (fmax3 x y z) t := by
    simp only [argBest, fmax3] at hv ⊢
    by_cases q : fltLt x y = true
    · have q' : Flt.ltV (.float x t1) (.float y t2) = true := q
      by_cases q2 : fltLt y z = true
      · have q2' : Flt.ltV (.float y t2) (.float z t3) = true := q2
        simp [q', q2'] at hv; simp [q, q2, ← hv]
      · have q2' : Flt.ltV (.float y t2) (.float z t3) = false := by simpa [Flt.ltV, fltLt] using q2
        simp [q', q2'] at hv; simp [q, q2, ← hv]
    · have q' : Flt.ltV (.float x t1) (.float y t2) = false := by simpa [Flt.ltV, fltLt] using q
      by_cases q2 : fltLt x z = true
      · have q2' : Flt.ltV (.float x t1) (.float z t3) = true := q2
        simp [q', q2'] at hv; simp [q, q2, ← hv]
      · have q2' : Flt.ltV (.float x t1) (.float z t3) = false := by simpa [Flt.ltV, fltLt] using q2
        simp [q', q2'] at hv; simp [q, q2, ← hv]
  obtain ⟨t, rfl⟩ := this
  exact k S _ h' tk (.of_ext sub hx) (.flt _ _)
theorem OpN.min3 {x y z : UInt64} : OpN X n (fun vs => PySem.call (.builtin "min") vs) [.flt x, .flt y, .flt z] (.flt (fmin3 x y z)) := by
  intro A s S vs Q E ok sub base r k
  cases r with
  | cons r r' =>
  cases r' with
  | cons r2 r' =>
  cases r' with
  | cons r3 r' =>
  cases r'
  obtain ⟨t1, rfl⟩ := r.inv_flt
  obtain ⟨t2, rfl⟩ := r2.inv_flt
  obtain ⟨t3, rfl⟩ := r3.inv_flt
  refine call_min_three (tup3 ok.1 (Flt.cmpOf_lt #[.float x t1, .float y t2, .float z t3] (by intro v hv; simp at hv; rcases hv with rfl | rfl | rfl <;> exact .float _ _)) fun v h' tk hv hx => ?_)
  have : ∃ t, v = .float (fmin3 x y z) t := by
    simp only [argBest, fmin3] at hv ⊢
    by_cases q : fltLt y x = true
    · have q' : Flt.ltV (.float y t2) (.float x t1) = true := q
      by_cases q2 : fltLt z y = true
      · have q2' : Flt.ltV (.float z t3) (.float y t2) = true := q2
        simp [q', q2'] at hv; simp [q, q2, ← hv]
      · have q2' : Flt.ltV (.float z t3) (.float y t2) = false := by simpa [Flt.ltV, fltLt] using q2
        simp [q', q2'] at hv; simp [q, q2, ← hv]
    · have q' : Flt.ltV (.float y t2) (.float x t1) = false := by simpa [Flt.ltV, fltLt] using q
      by_cases q2 : fltLt z x = true
      · have q2' : Flt.ltV (.float z t3) (.float x t1) = true := q2
        simp [q', q2'] at hv; simp [q, q2, ← hv]
      · have q2' : Flt.ltV (.float z t3) (.float x t1) = false := by simpa [Flt.ltV, fltLt] using q2
        simp [q', q2'] at hv; simp [q, q2, ← hv]
  obtain ⟨t, rfl⟩ := this
  exact k S _ h' tk (.of_ext sub hx) (.flt _ _)
end
end Mine

end
section
open PySem PySem.Calls PyProof.Rows PySem.W
set_option linter.unusedVariables false
set_option maxRecDepth 100000
namespace Mine
section
variable {X : Cx} {n : Nat} {B : Base} {env : Env} {O : Own} {Γ : Gam}

/-! all -/
theorem RdL.bools {S : PM} {vs : List Value} {bs : List Bool} (h : RdL S vs (bs.map .bool)) {i : Nat} {v : Value} (e : vs[i]? = some v) : v = .bool (bs.getD i true) := by
  have hl := h.length
  rw [List.length_map] at hl
  have hi : i < bs.length := by
    by_cases q : i < vs.length
    · omega
    · rw [List.getElem?_eq_none (by omega)] at e; cases e
  obtain ⟨v', e', r⟩ := h.get (i := i) (d := .bool bs[i]) (by simp [hi])
  rw [e] at e'; cases e'
  cases r
  rw [List.getD_eq_getElem?_getD]; simp [hi]
theorem all_range (bs : List Bool) : (List.range bs.length).all (fun i => bs.getD i true) = bs.all id := by
  rw [Bool.eq_iff_iff, List.all_eq_true, List.all_eq_true]
  constructor
  · intro h b hb
    obtain ⟨i, hi, e⟩ := List.mem_iff_getElem.mp hb
    have := h i (List.mem_range.mpr hi)
    rw [List.getD_eq_getElem?_getD, List.getElem?_eq_getElem hi] at this
    rw [← e]; exact this
  · intro h i hi
    have hi := List.mem_range.mp hi
    rw [List.getD_eq_getElem?_getD, List.getElem?_eq_getElem hi]
    exact h _ (List.getElem_mem hi)
theorem OpN.all {bs : List Bool} : OpN X n (fun vs => PySem.call (.builtin "all") vs) [.list (bs.map .bool)] (.bool (bs.all id)) := by
  intro A s S vs Q E ok sub base r k
  obtain ⟨_, rfl, ra⟩ := r.inv_one; have r := ra
  obtain ⟨a, ws, rfl, hl, hr⟩ := r.isList sub
  refine call_all_walk (iterList (A := A.in1) ok.1 hl fun J hJ hJs W st => ?_)
  refine ⟨J, [J, a], [J], _, _, _, fun i => bs.getD i true, rfl, W, st, fun i v s Q E hv hq => ?_, fun h' tk hk => ?_⟩
  · have e := hr.bools (i := i) (v := v) (by simpa using hv)
    subst e
    exact wpAny_truthy_bool hq
  · rw [show ws.toArray.size = bs.length by rw [List.size_toArray, hr.length]; simp, all_range]
    exact k S _ h' tk (.of_ext sub fun b o e => hk b o (fun q => by simp at q; rw [q, hJ] at e; cases e) (Heap.get?_push_of_some _ e)) (.bool _)

/-! equality -/
/-- two things that are compared at once -/
inductive Eqs : D → D → Bool → Prop
  | int (a b : Int) : Eqs (.int a) (.int b) (a == b)
  | bool (a b : Bool) : Eqs (.bool a) (.bool b) (a == b)
  | str (a b : List Nat) : Eqs (.str (tx a)) (.str (tx b)) (a == b)
  | lens {xs ys : List D} : xs.length ≠ ys.length → Eqs (.list xs) (.list ys) false
theorem tx_inj {a b : List Nat} : (tx a == tx b) = (a == b) := by
  rw [Bool.eq_iff_iff, beq_iff_eq, beq_iff_eq]
  constructor
  · intro h; have := congrArg (fun s : Str => s.cps.toList) h; simpa [tx] using this
  · rintro rfl; rfl
theorem Eqs.at {A : Around} {s : Shared} {S : PM} {d₁ d₂ : D} {b : Bool} (h : Eqs d₁ d₂ b) (hu : A.units < cLine) (sub : Sub S s.heap) {v₁ v₂ : Value} (r1 : Rd S v₁ d₁) (r2 : Rd S v₂ d₂) : SeqAt.EqAt A s v₁ v₂ b := by
  cases h with
  | int a b => cases r1; cases r2; exact SeqAt.EqAt.int_int _ _ _ _
  | bool a b => cases r1; cases r2; exact SeqAt.EqAt.bool_bool _ _
  | str a b =>
    cases r1; cases r2
    rw [← tx_inj]
    exact (eqGives_str _ _ _ _).at A s
  | lens hne =>
    obtain ⟨a, vs, rfl, hl, hr⟩ := r1.isList sub
    obtain ⟨b, ws, rfl, hl', hr'⟩ := r2.isList sub
    refine SeqAt.EqAt.of_refs ?_ (SeqAt.RcAt.lists_lengths hl hl' ?_ hu)
    · rintro rfl
      obtain ⟨o, ho, _, m, hd⟩ := hl
      obtain ⟨o', ho', _, m', hd'⟩ := hl'
      rw [ho] at ho'; cases ho'; rw [hd] at hd'
      injection hd' with e _
      have := congrArg Array.size e
      simp only [List.size_toArray, hr.length, hr'.length] at this
      exact hne this
    · simp only [List.size_toArray, hr.length, hr'.length, bne_iff_ne]; exact hne

theorem Ok.units1 {n : Nat} {A : Around} (h : Ok n A) : A.in1.units < cLine := by have := h.2.2; show A.units + 1 < cLine; omega

theorem RdL.zipEq {S : PM} {s : Shared} {A : Around} {vs ws : List Value} {ds es : List D} (h1 : RdL S vs ds) (h2 : RdL S ws es) (bs : List Bool) (hb : ∀ i d e, ds[i]? = some d → es[i]? = some e → Eqs d e (bs.getD i true)) (hu : A.units < cLine) (sub : Sub S s.heap) :
    ∀ j (q1 : j < vs.toArray.size) (q2 : j < ws.toArray.size), SeqAt.EqAt A s vs.toArray[j] ws.toArray[j] (bs.getD j true) := fun j q1 q2 => by
  rw [List.size_toArray] at q1 q2
  have q1' : j < ds.length := by rw [← h1.length]; exact q1
  have q2' : j < es.length := by rw [← h2.length]; exact q2
  obtain ⟨v, e1, r1⟩ := h1.get (i := j) (d := ds[j]) (by simp [q1'])
  obtain ⟨w, e2, r2⟩ := h2.get (i := j) (d := es[j]) (by simp [q2'])
  have e1' : vs.toArray[j]'(by rw [List.size_toArray]; exact q1) = v := by simpa [q1] using e1
  have e2' : ws.toArray[j]'(by rw [List.size_toArray]; exact q2) = w := by simpa [q2] using e2
  rw [e1', e2']
  exact (hb j _ _ (by simp [q1']) (by simp [q2'])).at hu sub r1 r2

theorem Op2.eqL {xs ys : List D} (bs : List Bool) (hl : xs.length = ys.length) (hb : ∀ i d e, xs[i]? = some d → ys[i]? = some e → Eqs d e (bs.getD i true)) (hbl : bs.length = xs.length) : Op2 X n (compareOp .Eq) (.list xs) (.list ys) (.bool (bs.all id)) := by
  intro A s S v₁ v₂ Q E ok sub base r1 r2 k
  obtain ⟨a, vs, rfl, hl1, hr1⟩ := r1.isList sub
  obtain ⟨b, ws, rfl, hl2, hr2⟩ := r2.isList sub
  refine SeqAt.eq_listAt hl1 hl2 (by rw [List.size_toArray, List.size_toArray, hr1.length, hr2.length]; exact hl) ok.units (hr1.zipEq hr2 bs hb ok.units1 sub) ?_
  rw [show vs.toArray.size = bs.length by rw [List.size_toArray, hr1.length]; exact hbl.symm, all_range]
  exact k S _ s.heap s.toks (.refl sub) (.bool _)
theorem Op2.neL {xs ys : List D} (bs : List Bool) (hl : xs.length = ys.length) (hb : ∀ i d e, xs[i]? = some d → ys[i]? = some e → Eqs d e (bs.getD i true)) (hbl : bs.length = xs.length) : Op2 X n (compareOp .NotEq) (.list xs) (.list ys) (.bool (!bs.all id)) := by
  intro A s S v₁ v₂ Q E ok sub base r1 r2 k
  obtain ⟨a, vs, rfl, hl1, hr1⟩ := r1.isList sub
  obtain ⟨b, ws, rfl, hl2, hr2⟩ := r2.isList sub
  refine (SeqAt.RcNeAt.lists hl1 hl2 (by rw [List.size_toArray, List.size_toArray, hr1.length, hr2.length]; exact hl) ok.units (hr1.zipEq hr2 bs hb ok.units1 sub)) _ _ _ _ ?_
  rw [show vs.toArray.size = bs.length by rw [List.size_toArray, hr1.length]; exact hbl.symm, all_range]
  exact k S _ s.heap s.toks (.refl sub) (.bool _)
theorem Op2.eqLens {xs ys : List D} (hl : xs.length ≠ ys.length) : Op2 X n (compareOp .Eq) (.list xs) (.list ys) (.bool false) := by
  intro A s S v₁ v₂ Q E ok sub base r1 r2 k
  obtain ⟨a, vs, rfl, hl1, hr1⟩ := r1.isList sub
  obtain ⟨b, ws, rfl, hl2, hr2⟩ := r2.isList sub
  exact SeqAt.eq_list_lengthsAt hl1 hl2 (by simp only [List.size_toArray, hr1.length, hr2.length, bne_iff_ne]; exact hl) ok.units (k S _ s.heap s.toks (.refl sub) (.bool _))
theorem Op2.neLens {xs ys : List D} (hl : xs.length ≠ ys.length) : Op2 X n (compareOp .NotEq) (.list xs) (.list ys) (.bool true) := by
  intro A s S v₁ v₂ Q E ok sub base r1 r2 k
  obtain ⟨a, vs, rfl, hl1, hr1⟩ := r1.isList sub
  obtain ⟨b, ws, rfl, hl2, hr2⟩ := r2.isList sub
  exact (SeqAt.RcNeAt.lists_lengths hl1 hl2 (by simp only [List.size_toArray, hr1.length, hr2.length, bne_iff_ne]; exact hl) ok.units) _ _ _ _ (k S _ s.heap s.toks (.refl sub) (.bool _))

theorem anyRd {S : PM} : ∀ {vs : List Value} {ys : List D}, RdL S vs ys → ∀ (e : Value → Bool) (t : D → Bool), (∀ (S : PM) v y, y ∈ ys → Rd S v y → e v = t y) → vs.any e = ys.any t
  | _, _, .nil, _, _, _ => rfl
  | _, _, .cons r rs, e, t, het => by
    rw [List.any_cons, List.any_cons, het S _ _ List.mem_cons_self r, anyRd rs e t fun S v y hy => het S v y (List.mem_cons_of_mem _ hy)]
/-- «x in a list», item by item: e tells of a value, t of the thing that it is -/
theorem Op2.inL {x : D} {ys : List D} (e : Value → Bool) (t : D → Bool) (het : ∀ (S : PM) v y, y ∈ ys → Rd S v y → e v = t y) (hb : ∀ y, y ∈ ys → Eqs y x (t y)) : Op2 X n (compareOp .In) x (.list ys) (.bool (ys.any t)) := by
  intro A s S v₁ v₂ Q E ok sub base r1 r2 k
  obtain ⟨a, vs, rfl, hl, hr⟩ := r2.isList sub
  have hmem : ∀ v, v ∈ vs → ∃ y, y ∈ ys ∧ Rd S v y := fun v hv => by
    obtain ⟨i, hi, ei⟩ := List.mem_iff_getElem.mp hv
    have hi' : i < ys.length := by rw [← hr.length]; exact hi
    obtain ⟨w, ew, rw⟩ := hr.get (i := i) (d := ys[i]) (by simp [hi'])
    rw [List.getElem?_eq_getElem hi, ei] at ew; cases ew
    exact ⟨_, List.getElem_mem _, rw⟩
  refine SeqAt.in_listAt e hl (fun v hv => ?_) ?_
  · obtain ⟨y, hy, ry⟩ := hmem v (by simpa using hv)
    rw [het S v y hy ry]
    exact (hb y hy).at (ok.units1) sub ry r1
  · rw [show vs.toArray.any e = ys.any t from ?_]
    · exact k S _ s.heap s.toks (.refl sub) (.bool _)
    · rw [List.any_toArray]
      exact anyRd hr e t het
theorem Op2.inI {x : Int} {ns : List Int} : Op2 X n (compareOp .In) (.int x) (.list (ns.map .int)) (.bool (ns.any (· == x))) := by
  have h := Op2.inL (X := X) (n := n) (x := .int x) (ys := ns.map .int) (fun v => match v with | .int a _ => a == x | _ => false) (fun d => match d with | .int a => a == x | _ => false)
    (fun S v y hy r => by obtain ⟨a, _, rfl⟩ := List.mem_map.mp hy; cases r; rfl) (fun y hy => by obtain ⟨a, _, rfl⟩ := List.mem_map.mp hy; exact .int a x)
  rw [List.any_map] at h
  exact h
theorem Op2.inB {x : Bool} {ns : List Bool} : Op2 X n (compareOp .In) (.bool x) (.list (ns.map .bool)) (.bool (ns.any (· == x))) := by
  have h := Op2.inL (X := X) (n := n) (x := .bool x) (ys := ns.map .bool) (fun v => match v with | .bool a => a == x | _ => false) (fun d => match d with | .bool a => a == x | _ => false)
    (fun S v y hy r => by obtain ⟨a, _, rfl⟩ := List.mem_map.mp hy; cases r; rfl) (fun y hy => by obtain ⟨a, _, rfl⟩ := List.mem_map.mp hy; exact .bool a x)
  rw [List.any_map] at h
  exact h
theorem Op2.inNil {ns : List (List D)} (h0 : ∀ l, l ∈ ns → l.length ≠ 0) : Op2 X n (compareOp .In) (.list []) (.list (ns.map .list)) (.bool false) := by
  have h := Op2.inL (X := X) (n := n) (x := .list []) (ys := ns.map .list) (fun _ => false) (fun _ => false)
    (fun S v y hy r => rfl) (fun y hy => by obtain ⟨a, ha, rfl⟩ := List.mem_map.mp hy; exact .lens (h0 a ha))
  rw [show (ns.map D.list).any (fun _ => false) = false by simp] at h
  exact h
end
end Mine

end
section
open PySem PySem.Calls PyProof.Rows PySem.W
set_option linter.unusedVariables false
set_option maxRecDepth 100000
namespace Mine
section
variable {X : Cx} {n : Nat} {B : Base} {env : Env} {O : Own} {Γ : Gam}

/-! tests -/
theorem Tr.val {e : Expr} {d : D} {b : Bool} (h : Ev X n B env O Γ e d) (t : Tru X n d b) (hp : ∀ whole, isTrue e env whole = (do let v ← whole; standAt e.pos; holding [v] (truthy v)) := by intro _; rfl) : Tr X n B env O Γ e b := by
  intro A s S Q E ok F k
  rw [hp]
  refine wpAny_bind (h A s S _ _ ok F fun S₁ v h₁ t₁ a₁ r₁ => ?_)
  refine wpAny_bind (wpAny_standAt (wpAny_holding ?_))
  exact t A _ S₁ v _ _ ok a₁.sub (F.base.trans a₁.le) r₁ fun S₂ h₂ t₂ a₂ => k S₂ h₂ t₂ (a₁.trans a₂)
theorem Tru.bool (b : Bool) : Tru X n (.bool b) b := by
  intro A s S v Q E ok sub base r k
  cases r
  exact wpAny_truthy_bool (k S s.heap s.toks (.refl sub))
theorem Tru.str (l : List Nat) (hz : l.length ≤ sizeLine) : Tru X n (.str (tx l)) (!l.isEmpty) := by
  intro A s S v Q E ok sub base r k
  cases r
  refine PySem.P.truthy_str ?_ ?_
  · rw [tx_len]; simp only [sizeLine] at hz; omega
  · rw [tx_len, show ((l.length : Int) != 0) = !l.isEmpty by cases l <;> simp [bne] <;> omega]
    exact k S s.heap _ (.refl sub)

/-- and, or -/
def TrA (X : Cx) (n : Nat) (B : Base) (env : Env) (O : Own) (Γ : Gam) (op : BoolOp) (es : List Expr) (b : Bool) : Prop :=
  ∀ (A : Around) (s : Shared) (S : PM) (Q : Bool → Shared → Prop) (E : Value → Shared → Prop), Ok n A → Frm X B S env O s.heap Γ →
    (∀ S' h' tk, Adv S s.heap S' h' → Q b { s with heap := h', toks := tk }) → wpAny X.M A (allTrue op es env) Q E s
theorem TrA.orNil : TrA X n B env O Γ .Or [] false := fun A s S Q E ok F k => wpAny_pure (a := false) (k S s.heap s.toks (.refl F.sub))
theorem TrA.andNil : TrA X n B env O Γ .And [] true := fun A s S Q E ok F k => wpAny_pure (a := true) (k S s.heap s.toks (.refl F.sub))
theorem TrA.or {e : Expr} {es : List Expr} {b₁ b₂ : Bool} (h1 : Tr X n B env O Γ e b₁) (h2 : b₁ = false → TrA X n B env O Γ .Or es b₂) : TrA X n B env O Γ .Or (e :: es) (b₁ || b₂) := by
  intro A s S Q E ok F k
  refine isTrue_or (pos := e.pos) (whole := eval e env) (h1 A s S _ _ ok F fun S₁ h₁ t₁ a₁ => ?_)
  cases b₁ with
  | true => exact k S₁ h₁ t₁ a₁
  | false => exact h2 rfl A _ S₁ _ _ ok (F.adv a₁) fun S₂ h₂ t₂ a₂ => k S₂ h₂ t₂ (a₁.trans a₂)
theorem TrA.and {e : Expr} {es : List Expr} {b₁ b₂ : Bool} (h1 : Tr X n B env O Γ e b₁) (h2 : b₁ = true → TrA X n B env O Γ .And es b₂) : TrA X n B env O Γ .And (e :: es) (b₁ && b₂) := by
  intro A s S Q E ok F k
  refine isTrue_and (pos := e.pos) (whole := eval e env) (h1 A s S _ _ ok F fun S₁ h₁ t₁ a₁ => ?_)
  cases b₁ with
  | false => exact k S₁ h₁ t₁ a₁
  | true => exact h2 rfl A _ S₁ _ _ ok (F.adv a₁) fun S₂ h₂ t₂ a₂ => k S₂ h₂ t₂ (a₁.trans a₂)
theorem Tr.boolop {op : BoolOp} {es : List Expr} {pos : Pos} {b : Bool} (h : TrA X n B env O Γ op es b) : Tr X n B env O Γ (.BoolOp op es pos) b :=
  fun A s S Q E ok F k => h A s S Q E ok F k
theorem Tr.chain {l r₁ r₂ : Expr} {op₁ op₂ : CmpOp} {pos : Pos} {d d₁ d₂ : D} {b₁ b₂ : Bool} (h0 : Ev X n B env O Γ l d) (h1 : Ev X n B env O Γ r₁ d₁) (c1 : Op2 X n (compareOp op₁) d d₁ (.bool b₁))
    (h2 : Ev X n B env O Γ r₂ d₂) (c2 : Op2 X n (compareOp op₂) d₁ d₂ (.bool b₂)) (hm : lastMarks [op₁, op₂] [r₁, r₂] = false := by with_unfolding_all rfl) :
    Tr X n B env O Γ (.Compare l [op₁, op₂] [r₁, r₂] pos) (b₁ && b₂) := by
  intro A s S Q E ok F k
  refine isTrue_chain (h0 A s S _ _ ok F fun S₁ v h₁ t₁ a₁ r₁ => ?_) hm
  refine test_link (h1 A _ S₁ _ _ ok (F.adv a₁) fun S₂ v₁ h₂' t₂ a₂ r₂ => ?_)
  refine c1 A _ S₂ v v₁ _ _ ok a₂.sub (F.base.trans (a₁.le.trans a₂.le)) (r₁.mono a₂.le) r₂ fun S₃ c h₃ t₃ a₃ r₃ => ?_
  cases r₃
  refine wpAny_truthy_bool ?_
  cases b₁ with
  | false => exact k S₃ h₃ t₃ (a₁.trans (a₂.trans a₃))
  | true =>
    refine PyProof.Rows.test_last (h2 A _ S₃ _ _ ok (F.adv (a₁.trans (a₂.trans a₃))) fun S₄ v₂ h₄ t₄ a₄ r₄ => ?_)
    refine c2 A _ S₄ v₁ v₂ _ _ ok a₄.sub (F.base.trans (a₁.le.trans (a₂.le.trans (a₃.le.trans a₄.le)))) (r₂.mono (a₃.le.trans a₄.le)) r₄ fun S₅ c h₅ t₅ a₅ r₅ => ?_
    cases r₅
    exact wpAny_truthy_bool (k S₅ h₅ t₅ (a₁.trans (a₂.trans (a₃.trans (a₄.trans a₅)))))
theorem Ev.not {e : Expr} {pos : Pos} {b : Bool} (h : Tr X n B env O Γ e b) (he : ∀ env, eval (.UnaryOp .Not e pos) env = (do return .bool !(← isTrue e env (eval e env))) := by intro _; rfl) : Ev X n B env O Γ (.UnaryOp .Not e pos) (.bool !b) := by
  intro A s S Q E ok F k
  rw [he]
  exact wpAny_bind (h A s S _ _ ok F fun S₁ h₁ t₁ a₁ => wpAny_pure (k S₁ _ h₁ t₁ a₁ (.bool _)))

/-! floats -/
theorem Op2.addF (a b : UInt64) : Op2 X n (binaryOp .Add) (.flt a) (.flt b) (.flt (Float64.add a b)) := by
  intro A s S v₁ v₂ Q E ok sub base r1 r2 k
  obtain ⟨_, rfl⟩ := r1.inv_flt; obtain ⟨_, rfl⟩ := r2.inv_flt
  exact AutoFloatOps.add_0 (k S _ s.heap _ (.refl sub) (.flt _ _))
theorem Op2.subF (a b : UInt64) : Op2 X n (binaryOp .Sub) (.flt a) (.flt b) (.flt (Float64.sub a b)) := by
  intro A s S v₁ v₂ Q E ok sub base r1 r2 k
  obtain ⟨_, rfl⟩ := r1.inv_flt; obtain ⟨_, rfl⟩ := r2.inv_flt
  exact AutoFloatOps.sub_0 (k S _ s.heap _ (.refl sub) (.flt _ _))
theorem Op2.mulF (a b : UInt64) : Op2 X n (binaryOp .Mult) (.flt a) (.flt b) (.flt (Float64.mul a b)) := by
  intro A s S v₁ v₂ Q E ok sub base r1 r2 k
  obtain ⟨_, rfl⟩ := r1.inv_flt; obtain ⟨_, rfl⟩ := r2.inv_flt
  exact AutoFloatOps.mul_0 (k S _ s.heap _ (.refl sub) (.flt _ _))
theorem Op2.divF (a b : UInt64) (hb : Float64.isZero b = false) : Op2 X n (binaryOp .Div) (.flt a) (.flt b) (.flt (Float64.div a b)) := by
  intro A s S v₁ v₂ Q E ok sub base r1 r2 k
  obtain ⟨_, rfl⟩ := r1.inv_flt; obtain ⟨_, rfl⟩ := r2.inv_flt
  exact AutoFloatOps.truediv_1 (by rw [hb]; decide) (k S _ s.heap _ (.refl sub) (.flt _ _))
theorem Op2.modF (a b : UInt64) (hb : Float64.isZero b = false) : Op2 X n (binaryOp .Mod) (.flt a) (.flt b) (.flt (Float64.divmod a b).snd) := by
  intro A s S v₁ v₂ Q E ok sub base r1 r2 k
  obtain ⟨_, rfl⟩ := r1.inv_flt; obtain ⟨_, rfl⟩ := r2.inv_flt
  exact AutoFloatOps.mod_1 (by rw [hb]; decide) (k S _ s.heap _ (.refl sub) (.flt _ _))
theorem Op2.mulIF (a : Int) (b : UInt64) (ha : a.natAbs < 2 ^ 1023) : Op2 X n (binaryOp .Mult) (.int a) (.flt b) (.flt (Float64.mul (Float64.ofInt a) b)) := by
  intro A s S v₁ v₂ Q E ok sub base r1 r2 k
  obtain ⟨_, rfl⟩ := r1.inv_int; obtain ⟨_, rfl⟩ := r2.inv_flt
  exact mul_if_fits ha (k S _ s.heap _ (.refl sub) (.flt _ _))
theorem Op2.subFI (a : UInt64) (b : Int) (ha : b.natAbs < 2 ^ 1023) : Op2 X n (binaryOp .Sub) (.flt a) (.int b) (.flt (Float64.sub a (Float64.ofInt b))) := by
  intro A s S v₁ v₂ Q E ok sub base r1 r2 k
  obtain ⟨_, rfl⟩ := r1.inv_flt; obtain ⟨_, rfl⟩ := r2.inv_int
  exact sub_fi_fits ha (k S _ s.heap _ (.refl sub) (.flt _ _))
/-- a fraction of two ints that are not below nought -/
def frac (a b : Nat) : UInt64 := Float64.ofFrac false a b
theorem Op2.divII (a b : Nat) (hb : b ≠ 0) (hi : Float64.isInf (frac a b) = false) : Op2 X n (binaryOp .Div) (.int a) (.int b) (.flt (frac a b)) := by
  intro A s S v₁ v₂ Q E ok sub base r1 r2 k
  obtain ⟨_, rfl⟩ := r1.inv_int; obtain ⟨_, rfl⟩ := r2.inv_int
  have e : Float64.ofFrac (decide ((a : Int) < 0) != decide ((b : Int) < 0)) (a : Int).natAbs (b : Int).natAbs = frac a b := by
    rw [decide_eq_false (by omega), decide_eq_false (by omega)]; rfl
  refine AutoIntOps.truediv_2 (by simpa using hb) (by rw [e, hi]; decide) ?_
  rw [e]
  exact k S _ s.heap _ (.refl sub) (.flt _ _)
theorem Op2.eqF (a b : UInt64) : Op2 X n (compareOp .Eq) (.flt a) (.flt b) (.bool (Float64.cmp a b == some .eq)) := by
  intro A s S v₁ v₂ Q E ok sub base r1 r2 k
  obtain ⟨_, rfl⟩ := r1.inv_flt; obtain ⟨_, rfl⟩ := r2.inv_flt
  exact AutoFloatOps.eq_0 (k S _ s.heap s.toks (.refl sub) (.bool _))
theorem Op2.neF (a b : UInt64) : Op2 X n (compareOp .NotEq) (.flt a) (.flt b) (.bool (Float64.cmp a b != some .eq)) := by
  intro A s S v₁ v₂ Q E ok sub base r1 r2 k
  obtain ⟨_, rfl⟩ := r1.inv_flt; obtain ⟨_, rfl⟩ := r2.inv_flt
  exact AutoFloatOps.ne_0 (k S _ s.heap s.toks (.refl sub) (.bool _))
theorem Op2.ltF (a b : UInt64) : Op2 X n (compareOp .Lt) (.flt a) (.flt b) (.bool (Float64.cmp a b == some .lt)) := by
  intro A s S v₁ v₂ Q E ok sub base r1 r2 k
  obtain ⟨_, rfl⟩ := r1.inv_flt; obtain ⟨_, rfl⟩ := r2.inv_flt
  exact AutoFloatOps.lt_0 (k S _ s.heap s.toks (.refl sub) (.bool _))
theorem Op2.leF (a b : UInt64) : Op2 X n (compareOp .LtE) (.flt a) (.flt b) (.bool (Float64.cmp a b == some .lt || Float64.cmp a b == some .eq)) := by
  intro A s S v₁ v₂ Q E ok sub base r1 r2 k
  obtain ⟨_, rfl⟩ := r1.inv_flt; obtain ⟨_, rfl⟩ := r2.inv_flt
  exact AutoFloatOps.le_0 (k S _ s.heap s.toks (.refl sub) (.bool _))
theorem Op2.gtF (a b : UInt64) : Op2 X n (compareOp .Gt) (.flt a) (.flt b) (.bool (Float64.cmp a b == some .gt)) := by
  intro A s S v₁ v₂ Q E ok sub base r1 r2 k
  obtain ⟨_, rfl⟩ := r1.inv_flt; obtain ⟨_, rfl⟩ := r2.inv_flt
  exact AutoFloatOps.gt_0 (k S _ s.heap s.toks (.refl sub) (.bool _))
theorem Op2.gtFI (a : UInt64) (b : Int) : Op2 X n (compareOp .Gt) (.flt a) (.int b) (.bool (Float64.cmpInt a b == some .gt)) := by
  intro A s S v₁ v₂ Q E ok sub base r1 r2 k
  obtain ⟨_, rfl⟩ := r1.inv_flt; obtain ⟨_, rfl⟩ := r2.inv_int
  exact gt_fi (k S _ s.heap s.toks (.refl sub) (.bool _))
theorem OpN.intF {x : UInt64} {m : Int} (hf : Float64.isFinite x = true) (hm : Flt.toInt Float64.truncOf x = m) : OpN X n (fun vs => PySem.call (.type "int") vs) [.flt x] (.int m) := by
  intro A s S vs Q E ok sub base r k
  obtain ⟨_, rfl, ra⟩ := r.inv_one; have r := ra; obtain ⟨_, rfl⟩ := r.inv_flt
  subst hm
  refine Flt.call_int_float3 ok.1 (fun c => ?_) (fun c => ?_) fun _ => k S _ s.heap _ (.refl sub) (.int _ _)
  · exfalso; unfold Float64.isFinite at hf; unfold Float64.isNaN at c; revert hf c; cases Float64.decode x <;> simp
  · exfalso; unfold Float64.isFinite at hf; unfold Float64.isInf at c; revert hf c; cases Float64.decode x <;> simp
theorem OpN.absF {x : UInt64} : OpN X n (fun vs => PySem.call (.builtin "abs") vs) [.flt x] (.flt (Float64.abs x)) := by
  intro A s S vs Q E ok sub base r k
  obtain ⟨_, rfl, ra⟩ := r.inv_one; have r := ra; obtain ⟨_, rfl⟩ := r.inv_flt
  exact Flt.call_abs_float (k S _ s.heap _ (.refl sub) (.flt _ _))
end
end Mine

end
section
open PySem PySem.Calls PyProof.Rows PySem.W
set_option linter.unusedVariables false
set_option maxRecDepth 100000
namespace Mine
open PySem Builtin
/-! a list's method, kept by a name -/
theorem md_slot : Slot "method_descriptor" "__get__" "method_descriptor.__get__" :=
  .of (owner := "method_descriptor") (n := "__get__") (by rw [typeLookup_type, builtinLookup_eq_fast]; kernel_rfl) (by decide +kernel) (by decide +kernel) (by decide +kernel)
    (by first | exact .inl (by decide +kernel) | exact .inr (by decide +kernel)) (by rw [isSubtype_type]; kernel_rfl)
theorem md_entry : entryFor table "method_descriptor.__get__" = some Builtin.«method_descriptor.__get__» := entryFor_of_tree (by kernel_rfl)
theorem md_args (a b c : Value) : argsOk "method_descriptor.__get__" ⟨[a, b, c], []⟩ := by unfold argsOk; kernel_rfl
theorem md_set : typeLookup (.type "method_descriptor") "__set__" = pure none := by rw [typeLookup_type, builtinLookup_eq_fast]; kernel_rfl
theorem md_del : typeLookup (.type "method_descriptor") "__delete__" = pure none := by rw [typeLookup_type, builtinLookup_eq_fast]; kernel_rfl
theorem told_append : (Manifest.toldItsClass.contains "list.append") = false := by decide +kernel
theorem owner_append : (".".intercalate ("list.append".cutAt '.').dropLast) = "list" := by
  have e0 : "list.append".cutAt '.' = ["list", "append"] := by first | rfl | decide +kernel
  rw [e0]; decide +kernel
theorem sub_list_append : isSubtype (.type "list") (.type (".".intercalate ("list.append".cutAt '.').dropLast)) = pure true := by
  rw [owner_append, isSubtype_type]; kernel_rfl
section
variable {prog : Program} {w : World} {A : Around} {E : Value → Shared → Prop} {h : Heap} {g : Array GenState} {d : Drawn} {t : Nat} {os : OsState} {a : Addr} {o : Obj}
theorem append_get {R : Result → Shared → Prop} (hx : h.get? a = some o) (hc : o.cls = .type "list")
  (hq : R (.ok (.ret (.ref h.objs.size))) ⟨h.push { cls := .type "builtin_function_or_method", data := .fields #[.builtin "list.append", .ref a] }, g, d, t, os⟩) :
    codeAny (model prog w) A (.call (.builtin "method_descriptor.__get__") ⟨[.builtin "list.append", .ref a, .type "list"], []⟩) R ⟨h, g, d, t, os⟩ := by
  have hT : (⟨h, g, d, t, os⟩ : Shared).TypeIs (.ref a) "list" := ⟨_, hx, hc⟩
  have hT5 : (⟨h, g, d, t, os⟩ : Shared).TypeIs (.builtin "list.append") "method_descriptor" := F.type_list_append
  have f8 := sub_list_append
  have f9 := told_append
  refine codeAny_call_builtin md_slot.plain md_entry (md_slot.check _ _ _ _ _ _ _ _ hT5 (md_args _ _ _) ?_)
  unfold Builtin.«method_descriptor.__get__»
  iterate 6 (any_goals (first | assumption | wp_step))
  refine wpAny_pure ?_
  have e1 : (Value.ref a == Value.none) = false := rfl
  have e2 : (Value.type "list" == Value.none) = false := rfl
  simp only [e1, e2, told_append, Bool.false_eq_true, if_false]
  iterate 12 (any_goals (first | assumption | wp_step))
  exact wpAny_newObj_type (wpAny_pure hq) (by show 2 ≤ sizeLine + 2; decide)
theorem append_entry {tk : Tok} {Q : Fin → Shared → Prop} (hx : h.get? a = some o) (hc : o.cls = .type "list") (hdd : o.dict = none) {xs : Array Value} {k : Nat} (hdt : o.data = .seq xs k)
  (hq : Q (.done (.ret (.ref h.objs.size))) ⟨h.push { cls := .type "builtin_function_or_method", data := .fields #[.builtin "list.append", .ref a] }, g, d, t, os⟩) :
    wpAny (model prog w) A (Builtin.«object.__getattribute__» ⟨[.ref a, .str "append" tk], []⟩) Q E ⟨h, g, d, t, os⟩ := by
  have hT : (⟨h, g, d, t, os⟩ : Shared).TypeIs (.ref a) "list" := ⟨_, hx, hc⟩
  have f4 := F.slot_list_append.lookup
  have f5 := F.type_list_append
  have hT5 : (⟨h, g, d, t, os⟩ : Shared).TypeIs (.builtin "list.append") "method_descriptor" := F.type_list_append
  have f6 := md_slot.lookup
  have f7 := md_set
  have f8 := md_del
  obtain ⟨c, dct, dat, sl⟩ := o
  simp only at hc hdd hdt
  subst hc hdd hdt
  repeat (any_goals (first | assumption | wp_step))
  refine append_get hx rfl ?_
  repeat (any_goals (first | assumption | wp_step))
theorem append_attr {Q : Value → Shared → Prop} (hx : h.get? a = some o) (hc : o.cls = .type "list") (hdd : o.dict = none) {xs : Array Value} {k : Nat} (hdt : o.data = .seq xs k)
  (hq : ∀ tk, Q (.ref h.objs.size) ⟨h.push { cls := .type "builtin_function_or_method", data := .fields #[.builtin "list.append", .ref a] }, g, d, tk, os⟩) :
    wpAny (model prog w) A (getAttr (.ref a) "append" true) Q E ⟨h, g, d, t, os⟩ := by
  obtain ⟨c, dct, dat, sl⟩ := o
  simp only at hc hdd hdt
  subst hc hdd hdt
  have hT : ∀ tk', (⟨h, g, d, tk', os⟩ : Shared).TypeIs (.ref a) "list" := fun _ => ⟨_, hx, rfl⟩
  have f3 := F.slot_list_getattribute.lookup
  have f4 := F.slot_list_getattribute.bind (.ref a)
  unfold getAttr getAttrBy
  repeat (any_goals (first | assumption | exact hT _ | wp_step))
  refine codeAny_call_builtin F.slot_list_getattribute.plain F.entry_list_ga (F.slot_list_getattribute.check _ _ _ _ _ _ _ _ (hT _) (F.args_list_getattribute_2 _ _) (append_entry hx rfl rfl rfl ?_))
  repeat (any_goals (first | assumption | wp_step))
  exact hq _

theorem sig_append : Manifest.signature? "list.append" = some ⟨.oneArg, "list.append", "append", .self, [⟨"object", .posOnly, true⟩]⟩ := by
  rw [signature?_of (id := "list.append") (n := ['d', 'n', 'e', 'p', 'p', 'a']) (o := ['t', 's', 'i', 'l']) (by kernel_rfl) F.owner_list]; kernel_rfl
theorem kind_append : builtinKind "list.append" = some .method := by
  have hs : splitId "list.append" = some ("list", "append") := by decide +kernel
  simp only [builtinKind, hs]
  decide +kernel
theorem var_append : Manifest.varargsMethods.contains "list.append" = false := by decide +kernel
theorem last_append : Bind.lastOf "list.append" = "append" := by decide +kernel
theorem last_list : Bind.lastOf "list" = "list" := by decide +kernel
theorem sub_list_module : isSubtype (.type "list") (.type "module") = pure false := by rw [isSubtype_type]; kernel_rfl
theorem bound_check {Q : Unit → Shared → Prop} {v : Value} (hx : h.get? a = some o) (hc : o.cls = .type "list") {xs : Array Value} {k : Nat} (hdt : o.data = .seq xs k) (hq : Q () ⟨h, g, d, t, os⟩) :
    wpAny (model prog w) A (checkBoundCall "list.append" ⟨[.ref a, v], []⟩) Q E ⟨h, g, d, t, os⟩ := by
  obtain ⟨c, dct, dat, sl⟩ := o
  simp only at hc hdt
  subst hc hdt
  have hT : (⟨h, g, d, t, os⟩ : Shared).TypeIs (.ref a) "list" := ⟨_, hx, rfl⟩
  have f8 := sub_list_module
  unfold checkBoundCall
  rw [sig_append, kind_append]
  simp only [last_append, var_append, Bool.false_or]
  repeat (any_goals (first | assumption | wp_step))
end
end Mine

end
section
open PySem PySem.Calls PyProof.Rows PySem.W
set_option linter.unusedVariables false
set_option maxRecDepth 100000
namespace Mine
section
variable {prog : Program} {w : World} {A : Around} {E : Value → Shared → Prop} {s : Shared}
theorem bound_call {q a : Addr} {oq : Obj} {v : Value} {items : Array Value} {Q : Value → Shared → Prop} (hq : s.heap.get? q = some oq) (hqc : oq.cls = .type "builtin_function_or_method") (hqd : oq.data = .fields #[.builtin "list.append", .ref a]) (hl : s.heap.PlainList a items)
    (hQ : ∀ h', h'.PlainList a (items.push v) → Heap.SameBut a s.heap h' → Q .none { s with heap := h' }) (hsz : items.size ≤ sizeLine) :
    wpAny (model prog w) A (call (.ref q) [v]) Q E s := by
  obtain ⟨c, dct, dat, sl⟩ := oq
  simp only at hqc hqd
  subst hqc hqd
  obtain ⟨n, ho⟩ := hl
  refine wpAny_call (codeAny_of_tree ?_)
  show wpAny _ A.in1 (callAny (.ref q) ⟨[v], []⟩) _ _ s
  unfold callAny
  refine wpAny_bind (wpAny_load hq ?_)
  show wpAny _ A.in1 (do checkBoundCall "list.append" ⟨[.ref a, v], []⟩; again (.builtin "list.append" ⟨[.ref a, v], []⟩)) _ _ s
  obtain ⟨h, g, d, t, os⟩ := s
  refine wpAny_bind (bound_check ho rfl rfl (wpAny_pure ⟨Code.quiet_builtin _ (by decide +kernel), codeAny_builtin F.entry_list_append ?_⟩))
  show wpAny _ _ (updateSeq a (·.push v) >>= fun _ => ret .none) _ _ _
  refine wpAny_bind (wpAny_updateSeq ho rfl (wpAny_pure (hQ _ ⟨n + 1, ?_⟩ (Heap.SameBut.update ..))))
  rw [Heap.get?_update_self _ ho (by rw [Obj.mapSeq_push_plain]; rfl), Obj.mapSeq_push_plain]
end

def updO (O : Own) (a : Addr) (l : List D) : Own := fun b => if b = a then some l else O b
theorem updO_self (O : Own) (a : Addr) (l : List D) : updO O a l a = some l := by simp [updO]
section
variable {X : Cx} {n : Nat} {B : Base} {env : Env} {O : Own} {Γ : Gam} {Φ : Post}

theorem Frm.plain {S : PM} {h : Heap} {a : Addr} {ds : List D} (F : Frm X B S env O h Γ) (e : O a = some ds) : ∃ vs, h.PlainList a vs ∧ RdL S vs.toList ds := by
  obtain ⟨h1, h2, o, vs, n, ho, ⟨hc, hdd, hsl⟩, hd, r⟩ := F.own a ds e
  obtain ⟨c, dct, dat, sl⟩ := o
  simp only at hc hdd hsl hd
  subst hc hdd hsl hd
  exact ⟨vs, ⟨n, ho⟩, r⟩
theorem Frm.ownNe {S : PM} {h : Heap} {a : Addr} {ds : List D} (F : Frm X B S env O h Γ) (e : O a = some ds) : env.locals ≠ a ∧ ∀ x, env.cells.lookup x ≠ some a := by
  obtain ⟨vs, ⟨n, ho⟩, r⟩ := F.plain e
  constructor
  · rintro rfl
    obtain ⟨m, ⟨o', es, ep, ho', hd', _⟩, _⟩ := F.ns
    rw [ho] at ho'; cases ho'; cases hd'
  · intro x hx
    obtain ⟨_, ⟨o', ho', hd'⟩, _⟩ := F.cells x _ hx
    rw [ho] at ho'; cases ho'; cases hd'
theorem Frm.append {S : PM} {h h' : Heap} {a : Addr} {ds : List D} {vs : Array Value} {v : Value} {d : D} (F : Frm X B S env O h Γ) (e : O a = some ds) (hv : RdL S vs.toList ds) (r : Rd S v d) (hl : h'.PlainList a (vs.push v)) (hs : Heap.SameBut a h h') :
    Frm X B S env (updO O a (ds ++ [d])) h' Γ where
  base := F.base
  sub := fun b o e' => (hs.2 b (fun q => by rw [q, (F.own a ds e).1] at e'; cases e')).trans (F.sub b o e')
  keep := fun b o e' => (hs.2 b (fun q => by rw [q, (F.own a ds e).2.1] at e'; cases e')).trans (F.keep b o e')
  old := F.old
  loc := F.loc
  locH := F.locH
  ns := by
    obtain ⟨m, hm, hv⟩ := F.ns
    exact ⟨m, hm.sameBut hs (F.ownNe e).1, hv⟩
  neg := fun q => let ⟨m, hm, hv⟩ := F.neg q; ⟨m, hm.sameBut hs (F.ownNe e).1, hv⟩
  cells := fun x c hx => by
    obtain ⟨v, hc, hv⟩ := F.cells x c hx
    exact ⟨v, hc.sameBut hs (fun q => (F.ownNe e).2 x (q ▸ hx)), hv⟩
  wr := F.wr
  apart := F.apart
  own := fun b es hb => by
    by_cases q : b = a
    · subst q
      rw [updO_self] at hb; cases hb
      obtain ⟨n, ho⟩ := hl
      refine ⟨(F.own _ ds e).1, (F.own _ ds e).2.1, _, vs.push v, n, ho, ⟨rfl, rfl, rfl⟩, rfl, ?_⟩
      simpa using hv.snoc r
    · have hb' : O b = some es := by simpa [updO, q] using hb
      obtain ⟨h1, h2, o, vs, n, ho, hc, hd, r⟩ := F.own b es hb'
      exact ⟨h1, h2, o, vs, n, (hs.2 b q).trans ho, hc, hd, r⟩
theorem Evo.append {S : PM} {h h' : Heap} {a : Addr} {ds l : List D} {vs : Array Value} (e : O a = some ds) (hl : h'.PlainList a vs) (hs : Heap.SameBut a h h') : Evo env O S h (updO O a l) S h' where
  le := .refl S
  new := fun _ _ _ e _ => e
  ext := fun b o e' _ _ n3 => (hs.2 b (fun q => by subst q; rw [e] at n3; cases n3)).trans e'
  alv := fun b e' => by
    by_cases q : b = a
    · subst q; obtain ⟨n, ho⟩ := hl; rw [ho]; rfl
    · rw [hs.2 b q]; exact e'
  own := fun b _ n => by
    by_cases q : b = a
    · subst q; rw [e] at n; cases n
    · simpa [updO, q] using n

/-- x.append(e) -/
theorem Ex1.append {x : Str} {px ap cp pos : Pos} {e : Expr} {a : Addr} {ds : List D} {d : D} (hx : Γ.lookup x = some (.own a)) (hO : O a = some ds) (he : Ev X n B env O Γ e d) (hz : ds.length ≤ sizeLine)
    (hl : env.kindOf x = some .local := by rfl) (hk : env.scope.kind = .function := by rfl) (hb : (x == ("__debug__" : Str)) = false := by rfl)
    (hcall : ∃ pl, eval (.Call (.Attribute (.Name x px) "append" ap) [e] [] cp) env = (do
      let ov ← eval (.Name x px) env
      standAt ap.atName
      let (f, first) ← holding [ov] (getMethod ov "append" pl)
      callWith cp f first (backTo cp (starEach [e] env)) []) := by exact ⟨_, rfl⟩) (hst : starEach [e] env = [(false, eval e env)] := by rfl)
    (hi : interactive env = false := by rfl) :
    Ex1 X n B env O Γ (.Expr (.Call (.Attribute (.Name x px) "append" ap) [e] [] cp) pos) fun f O' Γ' => f = .next ∧ O' = updO O a (ds ++ [d]) ∧ Γ' = Γ := by
  intro A s S Q E ok F k
  obtain ⟨pl, hcall⟩ := hcall
  refine wpAny_Expr ?_ hi rfl
  refine MethodCall_ ((Ev.local hx hl hk hb) A s S _ _ ok F fun S₁ v h₁ t₁ a₁ r₁ => ?_) hcall
  cases r₁
  obtain ⟨vs, ⟨m, ho⟩, hr⟩ := (F.adv a₁).plain hO
  refine getMethod_list_append ho rfl rfl ?_
  refine PySem.W.callWith_of (P := fun h => True) (by rw [hst]; rfl) (fun h _ => ⟨.machine, .inr (.inl rfl), .now⟩) ?_
  refine evalArgs_EvL (EvL.cons he EvL.nil hst) ok (F.adv a₁) (fun S₂ ws h₂ t₂ a₂ r₂ => ⟨trivial, ?_⟩) (by rw [hst]; rfl)
  cases r₂ with
  | @cons v _ _ _ r₂ r' =>
  cases r'
  obtain ⟨vs₂, hp₂, hr₂⟩ := (F.adv (a₁.trans a₂)).plain hO
  show wpAny _ A (PySem.call (.builtin "list.append") [.ref a, v]) _ _ _
  refine wpAny_list_append_plain (s := { s with heap := h₂, toks := t₂ }) hp₂ (fun h₃ hl₃ hs₃ => ?_) ?_
  · exact k S₂ .next .next _ _ h₃ t₂ ((a₁.trans a₂).evo.trans (Evo.append hO hl₃ hs₃)) ((F.adv (a₁.trans a₂)).append hO hr₂ r₂ hl₃ hs₃) .next ⟨rfl, rfl, rfl⟩
  · have := hr₂.length; simp at this; omega

/-- append = x.append -/
theorem Ev.appendAttr {x : Str} {px ap : Pos} {a : Addr} {ds : List D} (hx : Γ.lookup x = some (.own a)) (hO : O a = some ds)
    (hl : env.kindOf x = some .local := by rfl) (hk : env.scope.kind = .function := by rfl) (hb : (x == ("__debug__" : Str)) = false := by rfl) : Ev X n B env O Γ (.Attribute (.Name x px) "append" ap) (.bm a) := by
  intro A s S Q E ok F k
  refine Attribute_name ((Ev.local hx hl hk hb) A s S _ _ ok F fun S₁ v h₁ t₁ a₁ r₁ => ?_)
  cases r₁
  obtain ⟨vs, ⟨m, ho⟩, hr⟩ := (F.adv a₁).plain hO
  refine append_attr (h := h₁) ho rfl rfl rfl fun tk => ?_
  have a₂ := Adv.push a₁.sub ({ cls := .type "builtin_function_or_method", data := .fields #[.builtin "list.append", .ref a] } : Obj) rfl
  exact k _ _ _ tk (a₁.trans a₂) (.bm (addS_self _ _ _) rfl rfl)

/-- append(e), append kept by a name -/
theorem Ex1.appendB {y : Str} {py cp pos : Pos} {e : Expr} {a : Addr} {ds : List D} {d : D} (hy : Γ.lookup y = some (.bm a)) (hO : O a = some ds) (he : Ev X n B env O Γ e d) (hz : ds.length ≤ sizeLine)
    (hl : env.kindOf y = some .local := by rfl) (hk : env.scope.kind = .function := by rfl) (hb : (y == ("__debug__" : Str)) = false := by rfl)
    (hcall : eval (.Call (.Name y py) [e] [] cp) env = (do callWith cp (← eval (.Name y py) env) [] (backTo cp (starEach [e] env)) (backToKw cp (keywordEach [] env))) := by rfl) (hst : starEach [e] env = [(false, eval e env)] := by rfl)
    (hi : interactive env = false := by rfl) :
    Ex1 X n B env O Γ (.Expr (.Call (.Name y py) [e] [] cp) pos) fun f O' Γ' => f = .next ∧ O' = updO O a (ds ++ [d]) ∧ Γ' = Γ := by
  intro A s S Q E ok F k
  refine wpAny_Expr ?_ hi rfl
  refine Call_ ((Ev.local hy hl hk hb) A s S _ _ ok F fun S₁ v h₁ t₁ a₁ r₁ => ?_) hcall
  cases r₁ with
  | @bm q _ oq hS hqc hqd =>
  refine PySem.W.callWith_of (P := fun h => h.get? q = some oq) (by rw [hst]; rfl) (fun h hh => ⟨.machine, .inr (.inl rfl), (Looks.ld (part := none) hh).andThen ?_⟩) ?_
  · obtain ⟨c, dct, dat, sl⟩ := oq
    simp only at hqc hqd
    subst hqc hqd
    exact .now
  refine evalArgs_EvL (EvL.cons he EvL.nil hst) ok (F.adv a₁) (fun S₂ ws h₂ t₂ a₂ r₂ => ⟨a₂.sub _ _ (a₂.le _ _ hS), ?_⟩) (by rw [hst]; rfl)
  cases r₂ with
  | @cons v _ _ _ r₂ r' =>
  cases r'
  obtain ⟨vs₂, hp₂, hr₂⟩ := (F.adv (a₁.trans a₂)).plain hO
  show wpAny _ A (PySem.call (.ref q) [v]) _ _ _
  refine bound_call (s := { s with heap := h₂, toks := t₂ }) (a₂.sub _ _ (a₂.le _ _ hS)) hqc hqd hp₂ (fun h₃ hl₃ hs₃ => ?_) ?_
  · exact k S₂ .next .next _ _ h₃ t₂ ((a₁.trans a₂).evo.trans (Evo.append hO hl₃ hs₃)) ((F.adv (a₁.trans a₂)).append hO hr₂ r₂ hl₃ hs₃) .next ⟨rfl, rfl, rfl⟩
  · have := hr₂.length; simp at this; omega

/-- x = [] -/
theorem Ex1.ownNew {x : Str} {px lp pos : Pos} (st : Sto B env x) (hk : kindOk env = true := by rfl) :
    Ex1 X n B env O Γ (.Assign [.Name x px] (.List [] lp) pos) fun f O' Γ' => f = .next ∧ ∃ a, O a = none ∧ O' = updO O a [] ∧ Γ' = (x, .own a) :: Γ := by
  intro A s S Q E ok F k
  refine wpAny_Assign_Name ?_ rfl
  refine List_ (args_nil ?_)
  refine wpAny_newObj_type ?_ (by show 0 ≤ sizeLine; decide)
  have ext := Ext.push s.heap ({ cls := .type "list", data := .seq #[] } : Obj)
  have hn : s.heap.get? s.heap.objs.size = none := by
    cases e : s.heap.get? s.heap.objs.size with
    | none => rfl
    | some o => exact absurd (Heap.lt_size e) (Nat.lt_irrefl _)
  have a₁ := Adv.of_ext F.sub ext
  have hO : O s.heap.objs.size = none := by
    cases e : O s.heap.objs.size with
    | none => rfl
    | some ds => obtain ⟨_, _, o, _, _, ho, _⟩ := F.own _ _ e; rw [hn] at ho; cases ho
  have F₁ : Frm X B S env (updO O s.heap.objs.size []) (s.heap.push { cls := .type "list", data := .seq #[] }) Γ :=
    { F.adv a₁ with
      own := fun b es hb => by
        by_cases q : b = s.heap.objs.size
        · subst q
          rw [updO_self] at hb; cases hb
          refine ⟨?_, ?_, _, #[], 0, Heap.get?_push_size _ rfl, ⟨rfl, rfl, rfl⟩, rfl, .nil⟩
          · cases e : S s.heap.objs.size with
            | none => rfl
            | some o => have := F.sub _ _ e; rw [hn] at this; cases this
          · cases e : B.H.get? s.heap.objs.size with
            | none => rfl
            | some o => have := F.keep _ _ e; rw [hn] at this; cases this
        · exact (F.adv a₁).own b es (by simpa [updO, q] using hb) }
  refine storeName_F (s := { s with heap := s.heap.push { cls := .type "list", data := .seq #[] } }) F₁ st (.own _) hk fun h' tk ev F' => ?_
  refine k S .next .next _ _ h' tk (Evo.trans ?_ ev) F' .next ⟨rfl, _, hO, rfl, rfl⟩
  refine ⟨.refl S, fun _ _ _ e _ => e, fun b o e _ _ _ => ext b o e, fun b e => ?_, fun b e q => ?_⟩
  · obtain ⟨o, e⟩ := Option.isSome_iff_exists.mp e
    rw [ext _ _ e]; rfl
  · have : b ≠ s.heap.objs.size := by rintro rfl; rw [hn] at e; cases e
    simpa [updO, this] using q

/-- an own list is no longer written: from here on it is read -/
theorem Ex.freeze {x : Str} {a : Addr} {ds : List D} {ss : List Stmt} (hx : Γ.lookup x = some (.own a)) (hO : O a = some ds)
    (h : Ex X n B env (fun b => if b = a then none else O b) ((x, .list ds) :: Γ) ss Φ) : Ex X n B env O Γ ss Φ := by
  intro A s S Q E ok F k
  obtain ⟨h1, h2, o, vs, m, ho, hc, hd, r⟩ := F.own a ds hO
  have le : Le S (addS S a o) := fun b ob e => by
    have : b ≠ a := by rintro rfl; rw [h1] at e; cases e
    simp only [addS, this, if_false]; exact e
  have hlist : Rd (addS S a o) (.ref a) (.list ds) := .list (vs := vs.toList) (addS_self _ _ _) hc.1 (by rw [hd]) (r.mono le)
  have F₁ : Frm X B (addS S a o) env (fun b => if b = a then none else O b) s.heap ((x, .list ds) :: Γ) :=
    { base := F.base.trans le
      sub := fun b ob e => by
        unfold addS at e
        by_cases q : b = a
        · subst q; rw [if_pos rfl] at e; cases e; exact ho
        · rw [if_neg q] at e; exact F.sub _ _ e
      keep := F.keep
      old := fun b ob e e' => by
        have : b ≠ a := by rintro rfl; rw [h2] at e; cases e
        simp only [addS, this, if_false] at e'
        exact F.old _ _ e e'
      loc := by simp only [addS, (F.ownNe hO).1, if_false]; exact F.loc
      locH := F.locH
      ns := by
        obtain ⟨mm, hm, hv⟩ := F.ns
        refine ⟨mm, hm, fun y d e kd => ?_⟩
        rw [List.lookup_cons] at e
        by_cases q : y = x
        · subst q
          rw [beq_self_eq_true] at e; cases e
          obtain ⟨v, ev, rv⟩ := hv y _ hx kd
          cases rv
          exact ⟨_, ev, hlist⟩
        · rw [beq_eq_false_iff_ne.mpr q] at e
          obtain ⟨v, ev, rv⟩ := hv y d e kd
          exact ⟨v, ev, rv.mono le⟩
      neg := F.neg
      cells := fun y c e => by
        obtain ⟨v, hc, hv⟩ := F.cells y c e
        refine ⟨v, hc, fun d e' kd => ?_⟩
        rw [List.lookup_cons] at e'
        by_cases q : y = x
        · subst q
          rw [beq_self_eq_true] at e'; cases e'
          obtain ⟨v', ev, rv⟩ := hv _ hx kd
          cases rv
          exact ⟨_, ev, hlist⟩
        · rw [beq_eq_false_iff_ne.mpr q] at e'
          obtain ⟨v', ev, rv⟩ := hv d e' kd
          exact ⟨v', ev, rv.mono le⟩
      wr := fun y c e kd => by
        have := F.wr y c e kd
        refine ⟨?_, this.2⟩
        have q : c ≠ a := fun q => (F.ownNe hO).2 y (q ▸ e)
        simp only [addS, q, if_false]; exact this.1
      apart := F.apart
      own := fun b es hb => by
        by_cases q : b = a
        · simp [q] at hb
        · simp only [q, if_false] at hb
          obtain ⟨g1, g2, o', vs', n', ho', hc', hd', r'⟩ := F.own b es hb
          refine ⟨by simp only [addS, q, if_false]; exact g1, g2, o', vs', n', ho', hc', hd', r'.mono le⟩ }
  refine h A s (addS S a o) Q E ok F₁ fun S' fl f O' Γ' h' tk ev F' rf p => k S' fl f O' Γ' h' tk (Evo.trans ?_ ev) F' rf p
  refine ⟨le, fun b ob e e' q => ?_, fun b ob e _ _ _ => e, fun b e => e, fun b e q => ?_⟩
  · have : b ≠ a := by rintro rfl; rw [hO] at q; cases q
    simpa [addS, this] using e'
  · by_cases q' : b = a
    · simp [q']
    · simpa [q'] using q
end
end Mine

end
section
open PySem PySem.Calls PyProof.Rows PySem.W
set_option linter.unusedVariables false
set_option maxRecDepth 100000
namespace Mine
open PySem Builtin
theorem look_table {prog : Program} {w : World} {A : Around} {E : Value → Shared → Prop} {s : Shared} {a : Addr} {items : Array Value} {c : Nat} {x : Str} {u : Tok} {Q : Str.Mapped → Shared → Prop}
   (hl : s.heap.IsList a items) (hx : items[c]? = some (.str x u)) (hc : c < 2 ^ 63) (hq : ∀ tk, Q (.text x) { s with toks := tk }) : wpAny (model prog w) A (Str.tableLookup (.ref a) c) Q E s := by
  unfold Str.tableLookup
  refine wpAny_bind (wpAny_attempt (wpAny_bind (wpAny_mkInt ?_)))
  refine wpAny_getItem_list (s := { s with toks := s.toks + 1 }) (x := .str x u) hl (by omega) (by omega) (by simpa using hx) ?_
  have ei : asInt? (.str x u) = pure none := rfl
  have es : asStr? (.str x u) = pure (some x) := rfl
  simp only
  rw [ei]
  refine wpAny_bind (wpAny_pure ?_)
  simp only
  rw [es]
  exact wpAny_bind (wpAny_pure (wpAny_pure (hq _)))
theorem wp_forIn {β : Type} {M : Model} {A : Around} {E : Value → Shared → Prop} {f : Nat → β → Sem (ForInStep β)} {Q : β → Shared → Prop} (I : List Nat → β → Shared → Prop)
    (step : ∀ c rest st s, I (c :: rest) st s → wpAny M A (f c st) (fun r s' => ∃ st', r = .yield st' ∧ I rest st' s') E s) (fin : ∀ st s, I [] st s → Q st s) :
    ∀ (xs : List Nat) (st : β) (s : Shared), I xs st s → wpAny M A (forIn xs st f) Q E s
  | [], st, s, h => by rw [List.forIn_nil]; exact wpAny_pure (fin _ _ h)
  | c :: rest, st, s, h => by
    rw [List.forIn_cons]
    refine wpAny_bind (wpAny_mono (step c rest st s h) (fun r s' h' => ?_) fun _ _ x => x)
    obtain ⟨st', rfl, h'⟩ := h'
    exact wp_forIn I step fin rest st' s' h'
theorem tr {prog : Program} {w : World} {A : Around} {E : Value → Shared → Prop} {s : Shared} {a : Addr} {items : Array Value} {l : List Nat} {enc : Nat → List Nat} {u : Tok} {Q : PySem.Fin → Shared → Prop}
   (hl : s.heap.IsList a items) (h0 : l ≠ []) (ht : ∀ c ∈ l, ∃ u, items[c]? = some (.str (tx (enc c)) u)) (hz : (l.flatMap enc).length ≤ sizeLine) (hc : ∀ c ∈ l, c < 256)
   (hq : ∀ tk t', Q (.done (.ret (.str (tx (l.flatMap enc)) t'))) { s with toks := tk }) : wpAny (model prog w) A («str.translate» ⟨[.str (tx l) u, .ref a], []⟩) Q E s := by
  unfold «str.translate»
  refine wpAny_bind ?_
  have e : Str.strOneArg "translate" ⟨[.str (tx l) u, .ref a], []⟩ = pure (.str (tx l) u, tx l, .ref a) := rfl
  rw [e]
  refine wpAny_pure ?_
  have h0' : ((tx l).length == 0) = false := by rw [tx_len]; simpa using h0
  simp only [h0', Bool.false_eq_true, if_false]
  refine wpAny_bind ?_
  rw [show (tx l).cps = l.toArray from rfl, ← Array.forIn_toList]
  refine wp_forIn (I := fun rest st s' => ∃ done, l = done ++ rest ∧ (st.1.map (·.cps.toList)).reverse.flatten = done.flatMap enc ∧ st.2.1 = (done.flatMap enc).length ∧ (∀ c b, st.2.2.2.1.lookup c = some b → ∃ d, b = some d ∧ enc c = [d]) ∧ st.2.2.2.2 = false ∧ ∃ tk, s' = { s with toks := tk }) ?_ ?_ _ _ _ ⟨[], rfl, rfl, rfl, fun c b e => by simp at e, rfl, s.toks, rfl⟩
  · rintro c rest ⟨ps, tot, fast, known, ad⟩ s' ⟨done, el, e1, e2, e3, e4, tk, rfl⟩
    simp only at e1 e2 e3 e4
    subst e4 e2
    have hcl : c ∈ l := by rw [el]; simp
    obtain ⟨u', hit⟩ := ht c hcl
    have hfl : (l.flatMap enc).length = (done.flatMap enc).length + (enc c).length + (rest.flatMap enc).length := by rw [el]; simp; omega
    have htl : Str.tooLong (done.flatMap enc).length = false := by unfold Str.tooLong; rw [decide_eq_false]; omega
    have hc' := hc c hcl
    simp only [htl, Bool.false_eq_true, if_false]
    cases fast with
    | false =>
      simp only [Bool.false_eq_true, if_false]
      refine wpAny_bind (look_table (s := { s with toks := tk }) hl hit (by omega) fun tk' => ?_)
      refine wpAny_pure ⟨_, rfl, done ++ [c], by simp [el], ?_, ?_, e3, rfl, tk', rfl⟩
      · simp [e1, tx]
      · simp [tx_len]
    | true =>
      simp only [if_true]
      cases hk : known.lookup c with
      | some b =>
        obtain ⟨d, rfl, he⟩ := e3 c b hk
        simp only
        refine wpAny_bind (wpAny_pure ?_)
        simp only
        refine wpAny_pure ⟨_, rfl, done ++ [c], by simp [el], ?_, ?_, e3, rfl, tk, rfl⟩
        · simp [e1, he]
        · simp [he]
      | none =>
        simp only
        refine wpAny_bind (look_table (s := { s with toks := tk }) hl hit (by omega) fun tk' => ?_)
        simp only
        by_cases hone : ((tx (enc c)).length == 1 && (tx (enc c)).cps.all fun x => decide (x < 128)) = true
        · simp only [hone, if_true]
          have hlen : (enc c).length = 1 := by
            rw [Bool.and_eq_true, beq_iff_eq, tx_len] at hone; exact hone.1
          obtain ⟨d, he⟩ := List.length_eq_one_iff.mp hlen
          have hd0 : (tx (enc c)).cps[0]? = some d := by rw [he]; rfl
          refine wpAny_bind (wpAny_pure ?_)
          simp only [hd0]
          refine wpAny_pure ⟨_, rfl, done ++ [c], by simp [el], ?_, ?_, ?_, rfl, tk', rfl⟩
          · simp [e1, he]
          · simp [he]
          · intro c' b hb
            rw [List.lookup_cons] at hb
            by_cases q : c' = c
            · subst q; simp at hb; exact ⟨d, hb.symm, he⟩
            · rw [beq_eq_false_iff_ne.mpr q] at hb; exact e3 c' b hb
        · simp only [hone, Bool.false_eq_true, if_false]
          refine wpAny_bind (wpAny_pure ?_)
          simp only
          refine wpAny_bind (wpAny_rule ?_)
          refine wpAny_bind (look_table (s := { s with toks := tk' }) hl hit (by omega) fun tk'' => ?_)
          refine wpAny_pure ⟨_, rfl, done ++ [c], by simp [el], ?_, ?_, e3, rfl, tk'', rfl⟩
          · simp [e1, tx]
          · simp [tx_len]
  · rintro ⟨ps, tot, fast, known, ad⟩ s' ⟨done, el, e1, e2, e3, e4, tk, rfl⟩
    simp only at e1 e2
    rw [List.append_nil] at el
    subst el e2
    have htl : Str.tooLong (l.flatMap enc).length = false := by unfold Str.tooLong; rw [decide_eq_false]; omega
    simp only [htl, Bool.false_eq_true, if_false]
    have he : (⟨ps.reverse.foldl (fun acc p => acc ++ p.cps) #[]⟩ : Str) = tx (l.flatMap enc) := by
      rw [← e1]
      have : ∀ (qs : List Str) (acc : Array Nat), qs.foldl (fun acc p => acc ++ p.cps) acc = acc ++ ((qs.map (·.cps.toList)).flatten).toArray := by
        intro qs
        induction qs with
        | nil => intro acc; simp
        | cons q qs ih => intro acc; rw [List.foldl_cons, ih]; apply Array.ext'; simp
      rw [this, List.map_reverse]; simp [tx]
    rw [he]
    exact wpAny_bind (wpAny_mkStr (wpAny_pure (hq _ _)) (by rw [tx_len]; exact hz))

section
variable {X : Cx} {n : Nat} {B : Base} {env : Env} {O : Own} {Γ : Gam}
/-- a method of a built-in type, called at once -/
theorem Ev.meth {o : Expr} {name : Str} {ap cp : Pos} {args : List Expr} {id : String} {d₀ d : D} {ds : List D} (h0 : Ev X n B env O Γ o d₀)
    (hm : ∀ (A : Around) (s : Shared) (S : PM) (v : Value) (pl : Sem Bool) (Q : Value × List Value → Shared → Prop) (E : Value → Shared → Prop), Rd S v d₀ → Q (.builtin id, [v]) s → wpAny X.M A (getMethod v name pl) Q E s)
    (ha : EvL X n B env O Γ args ds) (hc : OpN X n (fun vs => PySem.call (.builtin id) vs) (d₀ :: ds) d)
    (hcall : ∃ pl, eval (.Call (.Attribute o name ap) args [] cp) env = (do
      let ov ← eval o env
      standAt ap.atName
      let (f, first) ← holding [ov] (getMethod ov name pl)
      callWith cp f first (backTo cp (starEach args env)) []) := by exact ⟨_, rfl⟩) (hp : (starEach args env).all (!·.1) = true := by rfl) :
    Ev X n B env O Γ (.Call (.Attribute o name ap) args [] cp) d := by
  intro A s S Q E ok F k
  obtain ⟨pl, hcall⟩ := hcall
  refine MethodCall_ (h0 A s S _ _ ok F fun S₁ v h₁ t₁ a₁ r₁ => ?_) hcall
  refine hm A _ S₁ v pl _ _ r₁ ?_
  refine PySem.W.callWith_of (P := fun h => True) ?_ (fun h _ => ⟨.machine, .inr (.inl rfl), .now⟩) ?_
  · simp only [List.any_nil, Bool.or_false]
    rw [← Bool.not_eq_true, List.any_eq_true]
    rintro ⟨x, hx, hx'⟩
    unfold backTo at hx
    obtain ⟨⟨b, t⟩, hy, rfl⟩ := List.mem_map.mp hx
    have := List.all_eq_true.mp hp _ hy
    simp only [Bool.not_eq_true'] at this hx'
    rw [this] at hx'; cases hx'
  refine evalArgs_EvL ha ok (F.adv a₁) (fun S₂ ws h₂ t₂ a₂ r₂ => ⟨trivial, ?_⟩) hp
  exact hc A _ S₂ (v :: ws) _ _ ok a₂.sub (F.base.trans (a₁.le.trans a₂.le)) (.cons (r₁.mono a₂.le) r₂) fun S₃ v' h₃ t₃ a₃ r₃ => k S₃ v' h₃ t₃ (a₁.trans (a₂.trans a₃)) r₃
theorem Ev.join {o e : Expr} {ap cp : Pos} {sep : List Nat} {ts : List (List Nat)} (h0 : Ev X n B env O Γ o (.str (tx sep))) (h1 : Ev X n B env O Γ e (.list (ts.map fun l => .str (tx l)))) (hz : (ts.map List.length).sum + ts.length * sep.length ≤ sizeLine)
    (hcall : ∃ pl, eval (.Call (.Attribute o "join" ap) [e] [] cp) env = (do
      let ov ← eval o env
      standAt ap.atName
      let (f, first) ← holding [ov] (getMethod ov "join" pl)
      callWith cp f first (backTo cp (starEach [e] env)) []) := by exact ⟨_, rfl⟩) (hst : starEach [e] env = [(false, eval e env)] := by rfl) :
    Ev X n B env O Γ (.Call (.Attribute o "join" ap) [e] [] cp) (.str (tx (joinT sep ts))) :=
  Ev.meth h0 (fun A s S v pl Q E r k => by cases r; exact GM.join k) (EvL.cons h1 EvL.nil hst) (OpN.join hz) hcall (by rw [hst]; rfl)

theorem OpN.translate {l : List Nat} {tab : List (List Nat)} {enc : Nat → List Nat} (h0 : l ≠ []) (ht : ∀ c ∈ l, tab[c]? = some (enc c)) (hc : ∀ c ∈ l, c < 256) (hz : (l.flatMap enc).length ≤ sizeLine) :
    OpN X n (fun vs => PySem.call (.builtin "str.translate") vs) [.str (tx l), .list (tab.map fun l => .str (tx l))] (.str (tx (l.flatMap enc))) := by
  intro A s S vs Q E ok sub base r k
  obtain ⟨_, _, rfl, ra, rb⟩ := r.inv_two; have r := ra; have r2 := rb
  obtain ⟨t, rfl⟩ := r.inv_str
  obtain ⟨a, ws, rfl, hl, hr⟩ := r2.isList sub
  refine wpAny_call_entry F.slot_str_translate (typeIs_str _ _ _) F.entry_str_translate ?_ (F.args_str_translate_2 _ _)
  refine tr hl h0 (fun c hcl => ?_) hz hc fun tk t' => ⟨_, rfl, k S _ s.heap tk (.refl sub) (.str _ _)⟩
  obtain ⟨v, e, rv⟩ := hr.get (i := c) (d := .str (tx (enc c))) (by rw [List.getElem?_map, ht c hcl]; rfl)
  cases rv
  exact ⟨_, by simpa using e⟩

/-! splitlines -/
open StrLaws
theorem ls_skip (s : Str) : ∀ (m cur : Nat) (st : LsSt), (∀ i, cur ≤ i → i < cur + m → Unicode.isLineBreak (s.cps.getD i 0) = false) → Id.run (forIn (m := Id) (List.range' cur m) st (lsBody s)) = st
  | 0, cur, st, _ => rfl
  | m + 1, cur, st, h => by
    rw [List.range'_succ, List.forIn_cons]
    have hb : lsBody s cur st = pure (ForInStep.yield st) := by
      unfold lsBody
      rw [h cur (Nat.le_refl _) (by omega), Bool.and_false, if_neg (by decide)]
    rw [hb]
    exact ls_skip s m (cur + 1) st fun i h1 h2 => h i (by omega) (by omega)
theorem ls_app (s : Str) (m k cur : Nat) (st : LsSt) : Id.run (forIn (m := Id) (List.range' cur (m + k)) st (lsBody s)) = Id.run (forIn (m := Id) (List.range' (cur + m) k) (Id.run (forIn (m := Id) (List.range' cur m) st (lsBody s))) (lsBody s)) := by
  induction m generalizing cur st with
  | zero => simp
  | succ m ih =>
    rw [show m + 1 + k = (m + k) + 1 by omega, List.range'_succ, List.range'_succ, List.forIn_cons, List.forIn_cons]
    have hb : ∃ st', lsBody s cur st = pure (ForInStep.yield st') := by unfold lsBody; split <;> exact ⟨_, rfl⟩
    obtain ⟨st', hb⟩ := hb
    rw [hb]
    have := ih (cur + 1) st'
    rw [show cur + 1 + m = cur + (m + 1) by omega] at this
    exact this
/-- the pieces' places in the joined text -/
def spansOf (p : Nat) : List (List Nat) → List (Nat × Nat × Nat)
  | [] => []
  | [r] => [(p, p + r.length, p + r.length)]
  | r :: rs => (p, p + r.length, p + r.length + 1) :: spansOf (p + r.length + 1) rs
theorem ls_rows (pre : List Nat) : ∀ (rows : List (List Nat)) (p : Nat) (l : List Nat) (acc : Array (Nat × Nat × Nat)), rows ≠ [] → (∀ r ∈ rows, r ≠ [] ∧ ∀ c ∈ r, Unicode.isLineBreak c = false) → l = pre → ∀ (hd : l.drop p = joinT [10] rows) (hp : p ≤ l.length),
    lsEnd (tx l) (Id.run (forIn (m := Id) (List.range' p (l.length - p)) ((acc, p) : LsSt) (lsBody (tx l)))) = acc.toList ++ spansOf p rows
  | [], _, _, _, h, _, _, _, _ => absurd rfl h
  | [r], p, l, acc, _, hr, _, hd, hp => by
    have hr' := hr r (by simp)
    have hlen : l.length - p = r.length := by have := congrArg List.length hd; simpa [joinT] using this
    rw [ls_skip]
    · unfold lsEnd
      have hpos : 0 < r.length := List.length_pos_iff.mpr hr'.1
      rw [tx_len, if_pos (by show p < l.length; omega)]
      simp only [Array.toList_push, spansOf]
      rw [show l.length = p + r.length by omega]
    · intro i h1 h2
      have : (tx l).cps.getD i 0 = r.getD (i - p) 0 := by
        show l.toArray.getD i 0 = _
        have e1 : l[i]? = r[i - p]? := by
          have := congrArg (·[i - p]?) hd
          simp only [joinT, List.getElem?_drop] at this
          rw [show p + (i - p) = i by omega] at this
          exact this
        simp [Array.getD_eq_getD_getElem?, List.getD_eq_getElem?_getD, e1]
      rw [this]
      have hlt : i - p < r.length := by omega
      rw [List.getD_eq_getElem?_getD, List.getElem?_eq_getElem hlt]
      exact hr'.2 _ (List.getElem_mem hlt)
  | r :: r2 :: rs, p, l, acc, _, hr, hpre, hd, hp => by
    have hr' := hr r (by simp)
    have hdd : l.drop p = r ++ (10 :: joinT [10] (r2 :: rs)) := by rw [hd]; simp [joinT]
    have hlen : l.length - p = r.length + (1 + (joinT [10] (r2 :: rs)).length) := by have := congrArg List.length hdd; simp at this; omega
    have hget : ∀ i, p ≤ i → (tx l).cps.getD i 0 = (r ++ (10 :: joinT [10] (r2 :: rs))).getD (i - p) 0 := fun i h1 => by
      show l.toArray.getD i 0 = _
      have e1 : l[i]? = (r ++ (10 :: joinT [10] (r2 :: rs)))[i - p]? := by
        have := congrArg (·[i - p]?) hdd
        simp only [List.getElem?_drop] at this
        rw [show p + (i - p) = i by omega] at this
        exact this
      simp [Array.getD_eq_getD_getElem?, List.getD_eq_getElem?_getD, e1]
    rw [hlen, ls_app (tx l) r.length (1 + (joinT [10] (r2 :: rs)).length) p, ls_skip (tx l) r.length p ((acc, p) : LsSt), ls_app (tx l) 1 (joinT [10] (r2 :: rs)).length (p + r.length)]
    · have hb : lsBody (tx l) (p + r.length) ((acc, p) : LsSt) = pure (ForInStep.yield (acc.push (p, p + r.length, p + r.length + 1), p + r.length + 1)) := by
        unfold lsBody
        have g1 : (tx l).cps.getD (p + r.length) 0 = 10 := by
          rw [hget _ (by omega), show p + r.length - p = r.length by omega, List.getD_eq_getElem?_getD, List.getElem?_append_right (Nat.le_refl _)]
          simp
        have g2 : lsNext (tx l) (p + r.length) = p + r.length + 1 := by
          unfold lsNext; rw [g1]; rfl
        rw [g1, g2, if_pos]
        rw [Bool.and_eq_true]
        exact ⟨decide_eq_true (by show p ≤ p + r.length; omega), by decide +kernel⟩
      have hone : Id.run (forIn (m := Id) (List.range' (p + r.length) 1) ((acc, p) : LsSt) (lsBody (tx l))) = (acc.push (p, p + r.length, p + r.length + 1), p + r.length + 1) := by
        rw [List.range'_succ, List.forIn_cons, hb]; rfl
      rw [hone]
      have hdr : l.drop (p + r.length + 1) = joinT [10] (r2 :: rs) := by
        rw [show p + r.length + 1 = p + (r.length + 1) by omega, ← List.drop_drop, hdd, show r ++ (10 :: joinT [10] (r2 :: rs)) = (r ++ [10]) ++ joinT [10] (r2 :: rs) by simp, List.drop_append_of_le_length (by simp)]
        simp
      have ih := ls_rows pre (r2 :: rs) (p + r.length + 1) l (acc.push (p, p + r.length, p + r.length + 1)) (by simp) (fun q hq => hr q (List.mem_cons_of_mem _ hq)) hpre hdr (by omega)
      rw [show l.length - (p + r.length + 1) = (joinT [10] (r2 :: rs)).length by omega] at ih
      rw [ih]
      simp [spansOf]
    · intro i h1 h2
      rw [hget i h1]
      have hlt : i - p < r.length := by omega
      rw [List.getD_eq_getElem?_getD, List.getElem?_append_left hlt, List.getElem?_eq_getElem hlt]
      exact hr'.2 _ (List.getElem_mem hlt)

theorem spans_cut : ∀ (rows : List (List Nat)) (p : Nat) (l : List Nat), l.drop p = joinT [10] rows → (spansOf p rows).map (fun q => (l.drop q.1).take (q.2.1 - q.1)) = rows
  | [], _, _, _ => rfl
  | [r], p, l, hd => by simp [spansOf, hd, joinT]
  | r :: r2 :: rs, p, l, hd => by
    have hdd : l.drop p = r ++ (10 :: joinT [10] (r2 :: rs)) := by rw [hd]; simp [joinT]
    have hdr : l.drop (p + r.length + 1) = joinT [10] (r2 :: rs) := by
      rw [show p + r.length + 1 = p + (r.length + 1) by omega, ← List.drop_drop, hdd, show r ++ (10 :: joinT [10] (r2 :: rs)) = (r ++ [10]) ++ joinT [10] (r2 :: rs) by simp, List.drop_append_of_le_length (by simp)]
      simp
    have ih := spans_cut (r2 :: rs) (p + r.length + 1) l hdr
    simp only [spansOf, List.map_cons] at ih ⊢
    rw [ih, show p + r.length - p = r.length by omega, hdd]
    simp
theorem strSub_tx (l : List Nat) (i j : Nat) : Builtin.Str.strSub (tx l) i j = tx ((l.drop i).take (j - i)) := by
  unfold Builtin.Str.strSub
  show (⟨_⟩ : Str) = ⟨_⟩
  congr 1
  apply Array.ext'
  simp [tx]
theorem linesOf_rows {rows : List (List Nat)} (h0 : rows ≠ []) (hr : ∀ r ∈ rows, r ≠ [] ∧ ∀ c ∈ r, Unicode.isLineBreak c = false) : linesOf (tx (joinT [10] rows)) = rows.map tx := by
  unfold linesOf lineCuts
  have e : Builtin.Str.lineSpans (tx (joinT [10] rows)) = spansOf 0 rows := by
    rw [ls_eq, tx_len]
    have := ls_rows _ rows 0 (joinT [10] rows) #[] h0 hr rfl (by simp) (by omega)
    simpa using this
  have e2 : rows.map tx = (spansOf 0 rows).map (tx ∘ fun q => ((joinT [10] rows).drop q.1).take (q.2.1 - q.1)) := by
    rw [← List.map_map, spans_cut rows 0 (joinT [10] rows) (by simp)]
  rw [e, List.map_map, e2]
  apply List.map_congr_left
  rintro ⟨i, j, k⟩ _
  simp only [Function.comp, Bool.false_eq_true, if_false]
  exact strSub_tx _ _ _
theorem RdL.ofStrs {S : PM} (tk : Tok) : ∀ (ts : List (List Nat)), RdL S (strsFrom tk (ts.map tx)) (ts.map fun l => .str (tx l)) := by
  intro ts
  induction ts generalizing tk with
  | nil => exact .nil
  | cons t ts ih => exact .cons (.str _ _) (ih _)
theorem OpN.splitlines {rows : List (List Nat)} (h0 : rows ≠ []) (hr : ∀ r ∈ rows, r ≠ [] ∧ ∀ c ∈ r, Unicode.isLineBreak c = false) (hz : (joinT [10] rows).length ≤ sizeLine) (hz2 : rows.length ≤ sizeLine) :
    OpN X n (fun vs => PySem.call (.builtin "str.splitlines") vs) [.str (tx (joinT [10] rows))] (.list (rows.map fun l => .str (tx l))) := by
  intro A s S vs Q E ok sub base r k
  obtain ⟨_, rfl, ra⟩ := r.inv_one; have r := ra
  obtain ⟨t, rfl⟩ := r.inv_str
  have hl := linesOf_rows h0 hr
  have hcl : (lineCuts (tx (joinT [10] rows))).length = rows.length := by
    have := congrArg List.length hl; simpa [linesOf] using this
  refine call_meets F.slot_str_splitlines (typeIs_str _ _ _) F.entry_str_splitlines (F.args_str_splitlines_1 _) (meets_str_splitlines _ _ (by rw [tx_len]; exact hz) (by rw [hcl]; exact hz2)) ?_
  split
  · rename_i hq
    have hq := eq_of_beq hq
    have e1 : rows = [joinT [10] rows] := by
      have h2 : linesOf (tx (joinT [10] rows)) = [tx (joinT [10] rows)] := by
        unfold linesOf; rw [hq]
        simp only [List.map_cons, List.map_nil]
        rw [strSub_tx, tx_len]; simp
      rw [hl] at h2
      have h3 := congrArg (List.map fun s : Str => s.cps.toList) h2
      simpa [tx, Function.comp_def] using h3
    have a := Adv.push sub ({ cls := .type "list", data := .seq [Value.str (tx (joinT [10] rows)) t].toArray } : Obj) rfl
    refine k _ _ _ s.toks a (.list (vs := [Value.str (tx (joinT [10] rows)) t]) (addS_self _ _ _) rfl rfl ?_)
    conv => arg 3; rw [e1]
    exact .cons (.str _ _) .nil
  · have a := Adv.push sub ({ cls := .type "list", data := .seq (strsFrom s.toks (linesOf (tx (joinT [10] rows)))).toArray } : Obj) rfl
    refine k _ _ _ _ a (.list (vs := strsFrom s.toks (linesOf (tx (joinT [10] rows)))) (addS_self _ _ _) rfl rfl ?_)
    rw [hl]
    exact RdL.ofStrs _ _
end
end Mine

end
section
open PySem PySem.Calls PyProof.Rows PySem.W
set_option linter.unusedVariables false
set_option maxRecDepth 100000
namespace Mine

/-- the k-th statement of the program -/
def stAt (k : Nat) : Stmt := PySem.Challenge.pw_rs0065_01.main.body.getD k (.Pass ⟨0, 0, 0, 0⟩)
/-- a def of the top, as it stands behind the top -/
def DefOk (X : Cx) (k : Nat) (f : Addr) (dV : Value := .none) : Prop :=
  match stAt k with
  | .FunctionDef name args body _ _ _ scope _ _ _ => ∃ md c' doc, X.h₀.get? f = some { cls := .type "function", data := .func (defFd name name args body scope mainGlobals dV .none none md (.ref c') doc) } ∧ X.h₀.CodeRec (.ref c') name ∧ X.mg name = some (.ref f)
  | _ => False

def nameAt (k : Nat) : Str := match stAt k with
  | .FunctionDef name _ _ _ _ _ _ _ _ _ => name
  | _ => Str.empty
theorem DefOk.glob {X : Cx} {k : Nat} {f : Addr} {dV : Value} (h : DefOk X k f dV) : X.mg (nameAt k) = some (.ref f) := by
  unfold DefOk at h
  unfold nameAt
  split at h
  · obtain ⟨_, _, _, _, _, h⟩ := h; exact h
  · exact h.elim
theorem DefOk.keeps {X : Cx} {k : Nat} {f : Addr} {dV : Value} (h : DefOk X k f dV) : Keeps1 X (.ref f) := by
  unfold DefOk at h
  split at h
  · obtain ⟨_, _, _, h, _, _⟩ := h; exact Keeps1.def h rfl
  · exact h.elim
/-- the signs' codes, by the table that body_encode uses -/
def hexd (n : Nat) : Nat := if n < 10 then 48 + n else 55 + n
def encC (c : Nat) : List Nat := if c = 9 ∨ c = 10 ∨ c = 13 ∨ (32 ≤ c ∧ c ≤ 126 ∧ c ≠ 61) then [c] else [61, hexd (c / 16), hexd (c % 16)]
def encTab : List (List Nat) := (List.range 256).map encC

set_option genInjectivity false in
set_option genSizeOf false in
/-- what stands behind the top -/
structure Top (X : Cx) where
  good : X.Good
  noRange : X.mg "range" = none
  noLen : X.mg "len" = none
  noSum : X.mg "sum" = none
  noMax : X.mg "max" = none
  noMin : X.mg "min" = none
  noInt : X.mg "int" = none
  noAbs : X.mg "abs" = none
  noAll : X.mg "all" = none
  nl : ∃ v, X.mg "NL" = some v ∧ Rd X.h₀.get? v (.str (tx [10]))
  crlf : ∃ v, X.mg "CRLF" = some v ∧ Rd X.h₀.get? v (.str (tx [13, 10]))
  tab : ∃ v, X.mg "_QUOPRI_BODY_ENCODE_MAP" = some v ∧ Rd X.h₀.get? v (.list (encTab.map fun l => .str (tx l)))
  fEnc : Addr
  dEnc : ∃ a o vs m, X.h₀.get? a = some o ∧ o.data = .seq vs m ∧ (∃ v w, vs = #[v, w] ∧ Rd X.h₀.get? v (.int 76) ∧ Rd X.h₀.get? w (.str (tx [10]))) ∧ DefOk X 17 fEnc (.ref a)
  fHsv : Addr
  dHsv : DefOk X 19 fHsv
  fPiece : Addr
  dPiece : DefOk X 21 fPiece
  fSize : Addr
  dSize : DefOk X 22 fSize
  fThrough : Addr
  dThrough : DefOk X 23 fThrough
  fBroken : Addr
  dBroken : DefOk X 24 fBroken
  fSeen : Addr
  dSeen : DefOk X 25 fSeen
  fHolds : Addr
  dHolds : DefOk X 26 fHolds
  fMet : Addr
  dMet : DefOk X 27 fMet
  fOwn : Addr
  dOwn : DefOk X 28 fOwn
  fSix : Addr
  dSix : DefOk X 29 fSix
  fLaw : Addr
  dLaw : DefOk X 30 fLaw

section
variable {X : Cx} {n : Nat} {f : Addr}
/-- a call of one of the built-ins, of a name that the program leaves alone -/
theorem range_small {m : Nat} (h : m < 10) : Builtin.Range.small 0 m 1 = true :=
  (by decide +kernel : ∀ k : _root_.Fin 10, Builtin.Range.small 0 (k.val : Int) 1 = true) ⟨m, h⟩
theorem tx1 (c : Nat) : tx [c] = ⟨#[c]⟩ := rfl

/-! _law_piece -/
def sign3 (i : Nat) : Nat := if i = 0 then 97 else if i = 1 then 61 else 233
def pieceGo : Nat → Int → List Nat
  | 0, _ => []
  | k + 1, left => sign3 (left.fmod 3).toNat :: pieceGo k (left.fdiv 3)
def pieceT (x : Int) : List Nat := pieceGo (x.fmod 4).toNat (x.fdiv 4)
def leftAt (x : Int) : Nat → Int
  | 0 => x.fdiv 4
  | k + 1 => (leftAt x k).fdiv 3
def textAt (x : Int) : Nat → List Nat
  | 0 => []
  | k + 1 => textAt x k ++ [sign3 ((leftAt x k).fmod 3).toNat]
theorem piece_go (x : Int) (k j : Nat) : textAt x (k + j) = textAt x k ++ pieceGo j (leftAt x k) := by
  induction j generalizing k with
  | zero => simp [pieceGo]
  | succ j ih =>
    rw [show k + (j + 1) = (k + 1) + j by omega, ih (k + 1)]
    simp [textAt, pieceGo, leftAt]
theorem textAt_piece (x : Int) : textAt x (x.fmod 4).toNat = pieceT x := by
  have := piece_go x 0 (x.fmod 4).toNat
  simpa [textAt, leftAt, pieceT] using this
theorem textAt_len (x : Int) (k : Nat) : (textAt x k).length = k := by
  induction k with
  | zero => rfl
  | succ k ih => simp [textAt, ih]

theorem piece_ok (T : Top X) (x : Int) : OpN X (n + 1) (fun vs => PySem.call (.ref T.fPiece) vs) [.int x] (.str (tx (pieceT x))) := by
  obtain ⟨md, c', doc, ho, hcd, _⟩ := T.dPiece
  have G := T.good
  refine OpN.def (ns := ["x"]) (ds' := [.int x]) G ho rfl hcd rfl rfl ?_ (by decide) (by rfl) ?_
  · intro s S vs r _ _
    obtain ⟨_, rfl, ra⟩ := r.inv_one; have r := ra
    exact ⟨[_], BindsTo.of_eq rfl, .cons r .nil⟩
  · intro L B hB
    have hm4 : 0 ≤ x.fmod 4 ∧ x.fmod 4 < 4 := ⟨Int.fmod_nonneg_of_pos _ (by decide), Int.fmod_lt_of_pos _ (by decide)⟩
    refine Ex.step (Ex1.assign2s (Ev.tup (EvL.cons (Ev.cstr []) (EvL.cons (Ev.binop (Ev.local rfl) Ev.cint (Op2.divI x 4 (by decide) (by decide))) EvL.nil))) (.loc rfl) (.loc rfl)) ?_
    refine Ex.cons (Ex1.for (fun i O Γ => O = noOwn ∧ Γ.lookup ("text" : Str) = some (.str (tx (textAt x i))) ∧ Γ.lookup ("left" : Str) = some (.int (leftAt x i))) (EvIt.range (m := (x.fmod 4).toNat) ?_ (range_small (by omega))) ⟨rfl, rfl, rfl⟩ ?_ (.loc rfl)) ?_ ?_
    · rw [Int.toNat_of_nonneg hm4.1]
      exact Ev.call (EvV.blt G T.noRange rfl (by decide)) (EvL.cons (Ev.binop (Ev.local rfl) Ev.cint (Op2.modI x 4 (by decide))) EvL.nil) (.type _) OpN.range
    · rintro i d O Γ hd ⟨rfl, e1, e2⟩
      have hi : i < (x.fmod 4).toNat := by
        have := (List.getElem?_eq_some_iff.mp hd).1; simpa using this
      have hm3 : 0 ≤ (leftAt x i).fmod 3 ∧ (leftAt x i).fmod 3 < 3 := ⟨Int.fmod_nonneg_of_pos _ (by decide), Int.fmod_lt_of_pos _ (by decide)⟩
      refine (Ex.step (Ex1.assign2s (Ev.tup (EvL.cons (Ev.binop (Ev.local (by exact e1)) (Ev.sub (Ev.cstr [97, 61, 233]) (Ev.binop (Ev.local (by exact e2)) Ev.cint (Op2.modI (leftAt x i) 3 (by decide))) (Op2.itemS (c := sign3 ((leftAt x i).fmod 3).toNat) hm3.1 ?_ (by decide))) (Op2.addS (textAt x i) _ ?_)) (EvL.cons (Ev.binop (Ev.local (by exact e2)) Ev.cint (Op2.divI (leftAt x i) 3 (by decide) (by decide))) EvL.nil))) (.loc rfl) (.loc rfl)) (Ex.nil ⟨rfl, rfl, rfl, rfl⟩))
      · have : ((leftAt x i).fmod 3).toNat < 3 := by omega
        generalize ((leftAt x i).fmod 3).toNat = j at this
        match j, this with
        | 0, _ => rfl
        | 1, _ => rfl
        | 2, _ => rfl
      · rw [textAt_len]; simp [sizeLine]; omega
    · rintro O Γ ⟨_, rfl, e1, e2⟩
      refine Ex.ret (Ev.local e1) ⟨_, rfl, .inl ?_⟩
      simp [textAt_piece]
    · rintro f O Γ hn ⟨rfl, _⟩
      exact absurd rfl hn

/-! _law_size -/
def size1 (c : Nat) : Int := if c = 97 ∨ c = 46 then 1 else 3
def sizeT (l : List Nat) : Int := (l.map size1).sum
theorem resOf_take {α : Type} (g : α → D) (l : List α) (p : Nat → Bool) (f : Nat → D) (h : ∀ i a, l[i]? = some a → p i = true ∧ f i = g a) : ∀ k, k ≤ l.length → resOf p f k = (l.take k).map g
  | 0, _ => by simp [resOf]
  | k + 1, hk => by
    have hk' : k < l.length := hk
    obtain ⟨h1, h2⟩ := h k l[k] (by simp [hk'])
    rw [resOf, resOf_take g l p f h k (by omega), h1, h2, List.take_add_one, List.getElem?_eq_getElem hk', List.map_append]
    rfl
theorem resOf_all {α : Type} (g : α → D) (l : List α) (p : Nat → Bool) (f : Nat → D) (h : ∀ i a, l[i]? = some a → p i = true ∧ f i = g a) : resOf p f l.length = l.map g := by
  rw [resOf_take g l p f h _ (Nat.le_refl _), List.take_length]
theorem in_a : ∀ c ∈ [97, 46, 61, 233], (!(Builtin.Str.occurrences (tx [97, 46]) (tx [c]) 0 (tx [97, 46]).length 1).isEmpty) = decide (c = 97 ∨ c = 46) := by decide +kernel
/-- a text of the table: of a, ., =, é -/
def Plain (l : List Nat) : Prop := ∀ c ∈ l, c ∈ [97, 46, 61, 233]
theorem Plain.app {a b : List Nat} (h : Plain a) (h' : Plain b) : Plain (a ++ b) := fun c hc => by
  rcases List.mem_append.mp hc with q | q
  · exact h c q
  · exact h' c q
theorem size_ok (T : Top X) (l : List Nat) (hl : Plain l) (hz : l.length ≤ 1000) : OpN X (n + 1) (fun vs => PySem.call (.ref T.fSize) vs) [.str (tx l)] (.int (sizeT l)) := by
  obtain ⟨md, c', doc, ho, hcd, _⟩ := T.dSize
  have G := T.good
  refine OpN.def (ns := ["text"]) (ds' := [.str (tx l)]) G ho rfl hcd rfl rfl ?_ (by decide) (by rfl) ?_
  · intro s S vs r _ _
    obtain ⟨_, rfl, ra⟩ := r.inv_one; have r := ra
    exact ⟨[_], BindsTo.of_eq rfl, .cons r .nil⟩
  · intro L B hB
    refine Ex.ret (Ev.call (EvV.blt G T.noSum rfl (by decide)) (EvL.cons ?_ EvL.nil) (.builtin _) (OpN.sum (ns := l.map size1))) ⟨_, rfl, .inl rfl⟩
    refine Eq.mp (congrArg (Ev _ _ _ _ _ _ _) ?_) (Ev.comp (Γc := []) (cl := []) (fun i => true) (fun i => .int (size1 (l.getD i 0))) (EvIt.str (Ev.local rfl)) ⟨fun _ _ e => (by cases e), fun _ _ e => (by cases e), rfl⟩ (fun C y d e => (by cases e)) ?_ (fun C B' i d _ => TrS.nil) ?_)
    · rw [List.length_map, tx_cps, resOf_all (fun c => D.int (size1 c)) l, List.map_map]
      · rfl
      · intro i a e; exact ⟨rfl, by rw [List.getD_eq_getElem?_getD, e]; rfl⟩
    · rw [List.length_map, tx_cps]; simp [sizeLine]; omega
    · intro C B' i d hd _
      rw [tx_cps, List.getElem?_map] at hd
      cases e : l[i]? with
      | none => rw [e] at hd; cases hd
      | some c =>
        rw [e] at hd; cases hd
        have hc := hl c (List.mem_of_getElem? e)
        rw [List.getD_eq_getElem?_getD, e]
        refine Ev.ifexp (b := decide (c = 97 ∨ c = 46)) (Tr.compare (Ev.local rfl) (Ev.cstr [97, 46]) (in_a c hc ▸ Op2.inS [c] [97, 46])) (fun q => ?_) fun q => ?_
        · have : size1 c = 1 := if_pos (of_decide_eq_true q)
          show Ev _ _ _ _ _ _ _ (.int (size1 c))
          rw [this]; exact Ev.cint
        · have : size1 c = 3 := if_neg (of_decide_eq_false q)
          show Ev _ _ _ _ _ _ _ (.int (size1 c))
          rw [this]; exact Ev.cint
end
end Mine

end
section
open PySem PySem.Calls PyProof.Rows PySem.W
set_option linter.unusedVariables false
set_option maxRecDepth 100000
namespace Mine
section
variable {X : Cx} {n : Nat} {f : Addr} {B : Base} {env : Env} {O : Own} {Γ : Gam}

theorem Top.mSize (T : Top X) : X.mg "_law_size" = some (.ref T.fSize) := T.dSize.glob
theorem Top.kSize (T : Top X) : Keeps1 X (.ref T.fSize) := T.dSize.keeps
theorem Top.mPiece (T : Top X) : X.mg "_law_piece" = some (.ref T.fPiece) := T.dPiece.glob
theorem Top.kPiece (T : Top X) : Keeps1 X (.ref T.fPiece) := T.dPiece.keeps
theorem Top.mThrough (T : Top X) : X.mg "_law_through" = some (.ref T.fThrough) := T.dThrough.glob
theorem Top.kThrough (T : Top X) : Keeps1 X (.ref T.fThrough) := T.dThrough.keeps
theorem Top.mBroken (T : Top X) : X.mg "_law_broken" = some (.ref T.fBroken) := T.dBroken.glob
theorem Top.kBroken (T : Top X) : Keeps1 X (.ref T.fBroken) := T.dBroken.keeps
theorem Top.mHsv (T : Top X) : X.mg "rgb_to_hsv" = some (.ref T.fHsv) := T.dHsv.glob
theorem Top.kHsv (T : Top X) : Keeps1 X (.ref T.fHsv) := T.dHsv.keeps
theorem Top.mSeen (T : Top X) : X.mg "_law_seen" = some (.ref T.fSeen) := T.dSeen.glob
theorem Top.kSeen (T : Top X) : Keeps1 X (.ref T.fSeen) := T.dSeen.keeps
theorem Top.mHolds (T : Top X) : X.mg "_law_holds" = some (.ref T.fHolds) := T.dHolds.glob
theorem Top.kHolds (T : Top X) : Keeps1 X (.ref T.fHolds) := T.dHolds.keeps
theorem Top.mMet (T : Top X) : X.mg "_law_met" = some (.ref T.fMet) := T.dMet.glob
theorem Top.kMet (T : Top X) : Keeps1 X (.ref T.fMet) := T.dMet.keeps
theorem Top.mOwn (T : Top X) : X.mg "_law_own" = some (.ref T.fOwn) := T.dOwn.glob
theorem Top.kOwn (T : Top X) : Keeps1 X (.ref T.fOwn) := T.dOwn.keeps
theorem Top.mSix (T : Top X) : X.mg "_law_six" = some (.ref T.fSix) := T.dSix.glob
theorem Top.kSix (T : Top X) : Keeps1 X (.ref T.fSix) := T.dSix.keeps
theorem Top.mEnc (T : Top X) : X.mg "body_encode" = some (.ref T.fEnc) := by obtain ⟨a, o, vs, m, _, _, _, h⟩ := T.dEnc; exact h.glob
theorem Top.kEnc (T : Top X) : Keeps1 X (.ref T.fEnc) := by obtain ⟨a, o, vs, m, _, _, _, h⟩ := T.dEnc; exact h.keeps
theorem Top.mLaw (T : Top X) : X.mg "law" = some (.ref T.fLaw) := T.dLaw.glob

/-- an item, from the front or from the end -/
def pyAt {α : Type} (ds : List α) (i : Int) : Option α := if i < 0 then (if -(ds.length : Int) ≤ i then ds[(i + ds.length).toNat]? else none) else ds[i.toNat]?
theorem Op2.itemP {ds : List D} {i : Int} {d : D} (h : pyAt ds i = some d) (hz : ds.length ≤ sizeLine) : ∀ v sl, Op2 X n (subscriptTail v sl) (.list ds) (.int i) d := by
  unfold pyAt at h
  by_cases q : i < 0
  · rw [if_pos q] at h
    by_cases q' : -(ds.length : Int) ≤ i
    · rw [if_pos q'] at h; exact Op2.itemLneg q q' h hz
    · rw [if_neg q'] at h; cases h
  · rw [if_neg q] at h; exact Op2.itemL (by omega) h hz
theorem updO_updO (O : Own) (a : Addr) (l l' : List D) : updO (updO O a l) a l' = updO O a l' := by
  funext b; unfold updO; by_cases q : b = a <;> simp [q]

abbrev dS (l : List Nat) : D := .str (tx l)
abbrev dP (p : List (List Nat)) : D := .list (p.map dS)

/-! _law_through -/
def big (a b : List Nat) : List Nat := if sizeT a ≥ sizeT b then a else b
def lineT (a b : List (List Nat)) : List (List Nat) :=
  match a, b with
  | [a0, a1, a2], [b0, b1, b2] => [big (a1 ++ b2) (a2 ++ b1), big (a2 ++ b0) (a0 ++ b2), big (a0 ++ b1) (a1 ++ b0)]
  | _, _ => []
theorem through_ok (T : Top X) (a0 a1 a2 b0 b1 b2 : List Nat) (ha0 : Plain a0) (ha1 : Plain a1) (ha2 : Plain a2) (hb0 : Plain b0) (hb1 : Plain b1) (hb2 : Plain b2)
    (la0 : a0.length ≤ 400) (la1 : a1.length ≤ 400) (la2 : a2.length ≤ 400) (lb0 : b0.length ≤ 400) (lb1 : b1.length ≤ 400) (lb2 : b2.length ≤ 400) :
    OpN X (n + 2) (fun vs => PySem.call (.ref T.fThrough) vs) [dP [a0, a1, a2], dP [b0, b1, b2]] (dP (lineT [a0, a1, a2] [b0, b1, b2])) := by
  obtain ⟨md, c', doc, ho, hcd, _⟩ := T.dThrough
  have G := T.good
  refine OpN.def (ns := ["one", "two"]) (ds' := [dP [a0, a1, a2], dP [b0, b1, b2]]) G ho rfl hcd rfl rfl ?_ (by decide) (by rfl) ?_
  · intro s S vs r _ _
    obtain ⟨_, _, rfl, ra, rb⟩ := r.inv_two; have r := ra; have r2 := rb
    exact ⟨[_, _], BindsTo.of_eq rfl, .cons r (.cons r2 .nil)⟩
  · intro L B hB
    refine Ex.cons (Ex1.ownNew (.loc rfl)) ?_ (fun f O Γ hn h => absurd h.1 hn)
    rintro O₀ Γ₀ ⟨_, a, -, rfl, rfl⟩
    refine Ex.cons (Ex1.for (fun i O Γ => O = updO noOwn a (((lineT [a0, a1, a2] [b0, b1, b2]).take i).map dS) ∧ Γ.lookup ("one" : Str) = some (dP [a0, a1, a2]) ∧ Γ.lookup ("two" : Str) = some (dP [b0, b1, b2]) ∧ Γ.lookup ("line" : Str) = some (.own a))
      (EvIt.range (m := 3) (Ev.call (EvV.blt G T.noRange rfl (by decide)) (EvL.cons Ev.cint EvL.nil) (.type _) OpN.range) (range_small (by decide))) ⟨rfl, rfl, rfl, rfl⟩ ?_ (.loc rfl)) ?_ (fun f O Γ hn h => absurd h.1 hn)
    · rintro i d O Γ hd ⟨rfl, e1, e2, e3⟩
      have hi : i < 3 := by have := (List.getElem?_eq_some_iff.mp hd).1; simpa using this
      obtain ⟨p, q, p', q', hp, hq, hp', hq', lp, lq, lp', lq', hdi, i1, i2, i3, i4, hres⟩ : ∃ p q p' q' : List Nat, Plain p ∧ Plain q ∧ Plain p' ∧ Plain q' ∧ p.length ≤ 400 ∧ q.length ≤ 400 ∧ p'.length ≤ 400 ∧ q'.length ≤ 400 ∧ d = .int i ∧
          pyAt ([a0, a1, a2].map dS) ((i : Int) - 2) = some (dS p) ∧ pyAt ([b0, b1, b2].map dS) ((i : Int) - 1) = some (dS q) ∧ pyAt ([a0, a1, a2].map dS) ((i : Int) - 1) = some (dS p') ∧ pyAt ([b0, b1, b2].map dS) ((i : Int) - 2) = some (dS q') ∧
          (((lineT [a0, a1, a2] [b0, b1, b2]).take (i + 1)).map dS) = (((lineT [a0, a1, a2] [b0, b1, b2]).take i).map dS) ++ [dS (big (p ++ q) (p' ++ q'))] := by
        match i, hi, hd with
        | 0, _, hd => exact ⟨a1, b2, a2, b1, ha1, hb2, ha2, hb1, la1, lb2, la2, lb1, by cases hd; rfl, rfl, rfl, rfl, rfl, rfl⟩
        | 1, _, hd => exact ⟨a2, b0, a0, b2, ha2, hb0, ha0, hb2, la2, lb0, la0, lb2, by cases hd; rfl, rfl, rfl, rfl, rfl, rfl⟩
        | 2, _, hd => exact ⟨a0, b1, a1, b0, ha0, hb1, ha1, hb0, la0, lb1, la1, lb0, by cases hd; rfl, rfl, rfl, rfl, rfl, rfl⟩
      subst hdi
      refine Ex.step (Ex1.assign2s (Ev.tup (EvL.cons (Ev.binop (Ev.sub (Ev.local e1) (Ev.binop (Ev.local rfl) Ev.cint (Op2.subI i 2)) (Op2.itemP i1 (Nat.le_of_ble_eq_true rfl))) (Ev.sub (Ev.local e2) (Ev.binop (Ev.local rfl) Ev.cint (Op2.subI i 1)) (Op2.itemP i2 (Nat.le_of_ble_eq_true rfl))) (Op2.addS p q (by simp [sizeLine]; omega)))
        (EvL.cons (Ev.binop (Ev.sub (Ev.local e1) (Ev.binop (Ev.local rfl) Ev.cint (Op2.subI i 1)) (Op2.itemP i3 (Nat.le_of_ble_eq_true rfl))) (Ev.sub (Ev.local e2) (Ev.binop (Ev.local rfl) Ev.cint (Op2.subI i 2)) (Op2.itemP i4 (Nat.le_of_ble_eq_true rfl))) (Op2.addS p' q' (by simp [sizeLine]; omega))) EvL.nil))) (.loc rfl) (.loc rfl)) ?_
      have s1 : OpN X (n + 1) (fun vs => PySem.call (.ref T.fSize) vs) [dS (p ++ q)] (.int (sizeT (p ++ q))) := size_ok T _ (hp.app hq) (by simp; omega)
      have s2 : OpN X (n + 1) (fun vs => PySem.call (.ref T.fSize) vs) [dS (p' ++ q')] (.int (sizeT (p' ++ q'))) := size_ok T _ (hp'.app hq') (by simp; omega)
      refine Ex.step (Ex1.append (d := dS (big (p ++ q) (p' ++ q'))) (by exact e3) (updO_self _ _ _) (Ev.ifexp (b := decide (sizeT (p ++ q) ≥ sizeT (p' ++ q'))) (Tr.compare (Ev.call (EvV.glob G T.mSize) (EvL.cons (Ev.local rfl) EvL.nil) T.kSize s1) (Ev.call (EvV.glob G T.mSize) (EvL.cons (Ev.local rfl) EvL.nil) T.kSize s2) (Op2.geI _ _)) (fun hb => ?_) fun hb => ?_) ?_) (Ex.nil ⟨rfl, ?_, e1, e2, e3⟩)
      · rw [show big (p ++ q) (p' ++ q') = p ++ q from if_pos (of_decide_eq_true hb)]; exact Ev.local rfl
      · rw [show big (p ++ q) (p' ++ q') = p' ++ q' from if_neg (of_decide_eq_false hb)]; exact Ev.local rfl
      · simp [sizeLine]; omega
      · rw [updO_updO, hres]
    · rintro O Γ ⟨_, rfl, e1, e2, e3⟩
      exact Ex.ret (Ev.local e3) ⟨_, rfl, .inr ⟨a, _, rfl, updO_self _ _ _, rfl⟩⟩
end
end Mine

end
section
open PySem PySem.Calls PyProof.Rows PySem.W
set_option linter.unusedVariables false
set_option maxRecDepth 100000
namespace Mine
section
variable {X : Cx} {n : Nat} {f : Addr} {B : Base} {env : Env} {O : Own} {Γ : Gam}

theorem sz {a : Nat} (h : a ≤ 1000) : a ≤ sizeLine := Nat.le_trans h (by decide)
theorem Ev.sliceFrom {value e : Expr} {p pos : Pos} {ds : List D} {k : Nat} (h : Ev X n B env O Γ value (.list ds)) (he : Ev X n B env O Γ e (.int k)) (hk : k ≤ ds.length) (hz : ds.length ≤ sizeLine) : Ev X n B env O Γ (.Subscript value (.Slice (some e) none none p) pos) (.list (ds.drop k)) := by
  have := Ev.sliceL (p := p) (pos := pos) h (EvP.some he) EvP.none EvP.none (by simp) hz
  rwa [pickL_from ds k hk] at this
theorem Ev.sliceTo {value e : Expr} {p pos : Pos} {ds : List D} {k : Nat} (h : Ev X n B env O Γ value (.list ds)) (he : Ev X n B env O Γ e (.int k)) (hz : ds.length ≤ sizeLine) : Ev X n B env O Γ (.Subscript value (.Slice none (some e) none p) pos) (.list (ds.take k)) := by
  have := Ev.sliceL (p := p) (pos := pos) h EvP.none (EvP.some he) EvP.none (by simp) hz
  rwa [pickL_to ds k] at this
/-! _law_broken -/
def cutK : List (List Nat) → Nat → Nat → Nat
  | [], _, _ => 0
  | s :: rest, acc, w => if acc + s.length < w then cutK rest (acc + s.length) w + 1 else 0
def brokenT (ws : List (List Nat)) (w : Nat) : List Nat := (ws.take (cutK ws 0 w)).flatten ++ ([61, 10] ++ (ws.drop (cutK ws 0 w)).flatten)
theorem cutK_le : ∀ (ws : List (List Nat)) (acc w : Nat), cutK ws acc w ≤ ws.length
  | [], _, _ => Nat.le_refl _
  | s :: rest, acc, w => by
    unfold cutK
    split
    · have := cutK_le rest (acc + s.length) w; simp; omega
    · simp
theorem cutK_lt : ∀ (ws : List (List Nat)) (acc w k : Nat) (s : List Nat), k < cutK ws acc w → ws[k]? = some s → acc + (ws.take k).flatten.length + s.length < w
  | [], _, _, _, _, h, _ => by simp [cutK] at h
  | s :: rest, acc, w, k, s', h, e => by
    unfold cutK at h
    split at h
    · rename_i q
      cases k with
      | zero => simp at e; subst e; simpa using q
      | succ k =>
        have := cutK_lt rest (acc + s.length) w k s' (by omega) (by simpa using e)
        simp at this ⊢; omega
    · omega
theorem cutK_ge : ∀ (ws : List (List Nat)) (acc w : Nat) (s : List Nat), ws[cutK ws acc w]? = some s → ¬ acc + (ws.take (cutK ws acc w)).flatten.length + s.length < w
  | [], _, _, _, e => by simp at e
  | s :: rest, acc, w, s', e => by
    unfold cutK at e ⊢
    split at e
    · rename_i q
      rw [if_pos q]
      have := cutK_ge rest (acc + s.length) w s' (by simpa using e)
      simp at this ⊢; omega
    · rename_i q
      rw [if_neg q]
      simp at e; subst e; simpa using q
theorem joinT_nil : ∀ ts : List (List Nat), joinT [] ts = ts.flatten
  | [] => rfl
  | [t] => by simp [joinT]
  | t :: u :: ts => by
    rw [joinT, joinT_nil (u :: ts)]
    · simp
    · simp
theorem flat_take (ws : List (List Nat)) (k : Nat) (s : List Nat) (e : ws[k]? = some s) : (ws.take (k + 1)).flatten = (ws.take k).flatten ++ s := by
  rw [List.take_add_one, e]; simp
theorem flat_len_le (ws : List (List Nat)) (k : Nat) : (ws.take k).flatten.length ≤ ws.flatten.length := by
  conv => rhs; rw [← List.take_append_drop k ws, List.flatten_append, List.length_append]
  omega
theorem sum_map_len (ws : List (List Nat)) : (ws.map List.length).sum = ws.flatten.length := by rw [List.length_flatten]
theorem broken_ok (T : Top X) (ws : List (List Nat)) (w : Nat) (hk : cutK ws 0 w < ws.length) (hz : ws.flatten.length ≤ 900) (hl : ws.length ≤ 1000) :
    OpN X (n + 1) (fun vs => PySem.call (.ref T.fBroken) vs) [dP ws, .int w] (dS (brokenT ws w)) := by
  obtain ⟨md, c', doc, ho, hcd, _⟩ := T.dBroken
  have G := T.good
  refine OpN.def (ns := ["signs", "width"]) (ds' := [dP ws, .int w]) G ho rfl hcd rfl rfl ?_ (by decide) (by rfl) ?_
  · intro s S vs r _ _
    obtain ⟨_, _, rfl, ra, rb⟩ := r.inv_two; have r := ra; have r2 := rb
    exact ⟨[_, _], BindsTo.of_eq rfl, .cons r (.cons r2 .nil)⟩
  · intro L B hB
    have hzl : (ws.map dS).length ≤ sizeLine := by rw [List.length_map]; exact sz hl
    refine Ex.step (Ex1.assign2 (Ev.tup (EvL.cons (Ev.cstr []) (EvL.cons Ev.cint EvL.nil))) (.loc rfl) (.loc rfl)) ?_
    refine Ex.cons (Ex1.while (fun m O Γ => O = noOwn ∧ ∃ k, m = cutK ws 0 w - k ∧ k ≤ cutK ws 0 w ∧ Γ.lookup ("head" : Str) = some (dS (ws.take k).flatten) ∧ Γ.lookup ("k" : Str) = some (.int k) ∧ Γ.lookup ("signs" : Str) = some (dP ws) ∧ Γ.lookup ("width" : Str) = some (.int w)) (cutK ws 0 w) ⟨rfl, 0, rfl, Nat.zero_le _, rfl, rfl, rfl, rfl⟩ ?_) ?_ (fun f O Γ hn h => absurd h.1 hn)
    · rintro m O Γ ⟨rfl, k, rfl, hkle, e1, e2, e3, e4⟩
      obtain ⟨s, es⟩ : ∃ s, ws[k]? = some s := ⟨ws[k]'(by omega), List.getElem?_eq_getElem (by omega)⟩
      have hlen1 : (ws.take k).flatten.length + s.length ≤ 1000 := by
        have := flat_len_le ws (k + 1)
        rw [flat_take ws k s es, List.length_append] at this; omega
      have hpy : pyAt (ws.map dS) (k : Int) = some (dS s) := by
        unfold pyAt; rw [if_neg (by omega)]; simp [es]
      have hp : decide (k < cutK ws 0 w) = decide ((((ws.take k).flatten.length : Int) + (s.length : Int)) < (w : Int)) := by
        by_cases q : k < cutK ws 0 w
        · have := cutK_lt ws 0 w k s q es
          rw [decide_eq_true q, decide_eq_true (by omega)]
        · have hkk : k = cutK ws 0 w := by omega
          have := cutK_ge ws 0 w s (hkk ▸ es)
          rw [← hkk] at this
          rw [decide_eq_false q, decide_eq_false (by omega)]
      refine ⟨decide (k < cutK ws 0 w), ?_, fun hb => ?_, fun hb => ?_⟩
      · rw [hp]
        exact Tr.compare (Ev.binop (Ev.call (EvV.blt G T.noLen rfl (by decide)) (EvL.cons (Ev.local e1) EvL.nil) (.builtin _) (OpN.lenS (sz (by omega)))) (Ev.call (EvV.blt G T.noLen rfl (by decide)) (EvL.cons (Ev.sub (Ev.local e3) (Ev.local e2) (Op2.itemP hpy hzl)) EvL.nil) (.builtin _) (OpN.lenS (sz (by omega)))) (Op2.addI _ _)) (Ev.local e4) (Op2.ltI _ _)
      · have q := of_decide_eq_true hb
        refine Ex.step (Ex1.assign2s (Ev.tup (EvL.cons (Ev.binop (Ev.local e1) (Ev.sub (Ev.local e3) (Ev.local e2) (Op2.itemP hpy hzl)) (Op2.addS _ _ (sz hlen1))) (EvL.cons (Ev.binop (Ev.local e2) Ev.cint (Op2.addI _ _)) EvL.nil))) (.loc rfl) (.loc rfl)) (Ex.nil ⟨rfl, cutK ws 0 w - (k + 1), by omega, rfl, k + 1, rfl, q, ?_, ?_, e3, e4⟩)
        · rw [flat_take ws k s es]; rfl
        · rfl
      · have q := of_decide_eq_false hb
        exact ⟨rfl, k, by omega, hkle, e1, e2, e3, e4⟩
    · rintro O Γ ⟨_, rfl, k, hk0, hkle, e1, e2, e3, e4⟩
      have hkk : k = cutK ws 0 w := by omega
      subst hkk
      have hfl : (ws.take (cutK ws 0 w)).flatten.length + (ws.drop (cutK ws 0 w)).flatten.length ≤ 900 := by
        have : ws.flatten.length = (ws.take (cutK ws 0 w)).flatten.length + (ws.drop (cutK ws 0 w)).flatten.length := by
          conv => lhs; rw [← List.take_append_drop (cutK ws 0 w) ws, List.flatten_append, List.length_append]
        omega
      have key : brokenT ws w = ((ws.take (cutK ws 0 w)).flatten ++ [61, 10]) ++ joinT [] (ws.drop (cutK ws 0 w)) := by
        unfold brokenT; rw [joinT_nil]; simp
      refine Ex.ret (Ev.binop (Ev.binop (Ev.local e1) (Ev.cstr [61, 10]) (Op2.addS _ _ (sz ?_))) (Ev.join (ts := ws.drop (cutK ws 0 w)) (Ev.cstr []) ?_ ?_) (Op2.addS _ _ (sz ?_))) ⟨_, rfl, .inl (congrArg dS key.symm)⟩
      · show _ + 2 ≤ 1000; omega
      · rw [List.map_drop]
        exact Ev.sliceFrom (Ev.local e3) (Ev.local e2) (by rw [List.length_map]; omega) hzl
      · rw [sum_map_len]; simp only [List.length_nil, Nat.mul_zero, Nat.add_zero]; exact sz (by omega)
      · rw [joinT_nil, List.length_append]; show _ + 2 + _ ≤ 1000; omega
end
end Mine

end
section
open PySem PySem.Calls PyProof.Rows PySem.W
set_option linter.unusedVariables false
set_option maxRecDepth 100000
namespace Mine
theorem allP_lookup {α : Type} {P : Str × α → Prop} : ∀ {l : List (Str × α)}, AllP P l → ∀ {y : Str} {c : α}, l.lookup y = some c → P (y, c)
  | [], _, _, _, e => by cases e
  | (z, d) :: l, h, y, c, e => by
    rw [List.lookup_cons] at e
    by_cases q : y = z
    · subst q; rw [beq_self_eq_true] at e; cases e; exact h.1
    · rw [beq_eq_false_iff_ne.mpr q] at e; exact allP_lookup h.2 e
section
variable {X : Cx} {n : Nat} {f : Addr} {B : Base} {env : Env} {O : Own} {Γ : Gam}
/-- a list comprehension, with what it captures -/
theorem CompD.cap {elt iter : Expr} {x : Str} {px pos : Pos} {ifs : List Expr} {scope : Scope} {xs ds : List D} (cl : List (Str × Addr)) (Γc : Gam) (p : Nat → Bool) (f : Nat → D) (hit : EvIt X n B env O Γ iter xs)
    (hcl : AllP (fun q => env.cells.lookup q.1 = some q.2) cl) (hΓ : AllP (fun q => Γ.lookup q.1 = some q.2 ∧ env.kindOf q.1 = some .cell) Γc) (hk : ∀ C, AllP (fun q => (compEnvC scope cl C env).kindOf q.1 = some .cell) Γc) (hx0 : Γc.lookup x = none) (hsz : xs.length ≤ 1000)
    (hds : resOf p f xs.length = ds)
    (htest : ∀ C B' i d, xs[i]? = some d → TrS X n B' (compEnvC scope cl C env) noOwn ((x, d) :: Γc) ifs (p i)) (helt : ∀ C B' i d, xs[i]? = some d → p i = true → Ev X n B' (compEnvC scope cl C env) noOwn ((x, d) :: Γc) elt (f i))
    (hcell : ∀ y ∈ scope.names, y.2 ≠ .cell := by decide) (hkind : scope.kind = .function := by rfl) (hx : scope.names.lookup x = some .local := by rfl) :
    CompD X n B env O Γ (.ListComp elt [⟨.Name x px, iter, ifs, 0⟩] scope pos) scope cl iter ds := by
  subst hds
  exact CompD.one p f hit ⟨fun y c e => allP_lookup hcl e, fun y d e => allP_lookup hΓ e, hx0⟩ (fun C y d e => by rw [allP_lookup (hk C) e]; decide) (sz hsz) htest helt hcell hkind hx
/-- with no test -/
theorem CompD.map {elt iter : Expr} {x : Str} {px pos : Pos} {scope : Scope} {xs ds : List D} (cl : List (Str × Addr)) (Γc : Gam) (hit : EvIt X n B env O Γ iter xs)
    (hcl : AllP (fun q => env.cells.lookup q.1 = some q.2) cl) (hΓ : AllP (fun q => Γ.lookup q.1 = some q.2 ∧ env.kindOf q.1 = some .cell) Γc) (hk : ∀ C, AllP (fun q => (compEnvC scope cl C env).kindOf q.1 = some .cell) Γc) (hx0 : Γc.lookup x = none) (hsz : xs.length ≤ 1000)
    (hl : ds.length = xs.length) (helt : ∀ C B' (i : Nat) (d e : D), xs[i]? = some d → ds[i]? = some e → Ev X n B' (compEnvC scope cl C env) noOwn ((x, d) :: Γc) elt e)
    (hcell : ∀ y ∈ scope.names, y.2 ≠ .cell := by decide) (hkind : scope.kind = .function := by rfl) (hx : scope.names.lookup x = some .local := by rfl) :
    CompD X n B env O Γ (.ListComp elt [⟨.Name x px, iter, [], 0⟩] scope pos) scope cl iter ds := by
  refine CompD.cap cl Γc (fun _ => true) (fun i => ds.getD i .none) hit hcl hΓ hk hx0 hsz ?_ (fun C B' i d _ => TrS.nil) (fun C B' i d hd _ => helt C B' i d _ hd ?_) hcell hkind hx
  · rw [← hl, resOf_all id ds]
    · simp
    · intro i a e; exact ⟨rfl, by rw [List.getD_eq_getElem?_getD, e]; rfl⟩
  · have hi := (List.getElem?_eq_some_iff.mp hd).1
    rw [List.getD_eq_getElem?_getD, List.getElem?_eq_getElem (by omega)]; rfl
end
end Mine

end
section
open PySem PySem.Calls PyProof.Rows PySem.W
set_option linter.unusedVariables false
set_option maxRecDepth 100000
set_option maxHeartbeats 4000000
namespace Mine

/-! the floats: finite checks -/
def fr (a : Nat) : UInt64 := frac a 64
def fHalf : UInt64 := 0x3fe0000000000000
def fZero : UInt64 := 0x0000000000000000
def fOne : UInt64 := 0x3ff0000000000000
def fTwo : UInt64 := 0x4000000000000000
def fFour : UInt64 := 0x4010000000000000
def fSix : UInt64 := 0x4018000000000000
def fEps : UInt64 := 0x3eb0c6f7a0b5ed8d
def ordOf (a b : Nat) : Ordering := if a < b then .lt else if a = b then .eq else .gt
def ckA (a : Nat) : Bool := (List.range 42).all fun b => (Float64.cmp (fr a) (fr b) == some (ordOf a b)) && (decide (a < b) || Float64.sub (fr a) (fr b) == fr (a - b))
def ckE (a : Nat) : Bool := (List.range 42).all fun b => b == 0 || Float64.div (fr a) (fr b) == frac a b
def ckB (a : Nat) : Bool := (Float64.isInf (fr a) == false) && (Float64.isZero (fr a) == (a == 0)) && Float64.isFinite (Float64.add (Float64.mul (Float64.ofInt 64) (fr a)) fHalf) && (Flt.toInt Float64.truncOf (Float64.add (Float64.mul (Float64.ofInt 64) (fr a)) fHalf) == (a : Int))
/-- the share -/
def ckC (M : Nat) : Bool := (List.range 19).all fun n => let x := Float64.add (Float64.mul (Float64.mul (Float64.ofInt 64) (fr M)) (frac n M)) fHalf
  Float64.isFinite x && (Flt.toInt Float64.truncOf x == (n : Int)) && (Float64.cmp (frac n M) (frac n M) == some .eq) && (Float64.isInf (frac n M) == false)
def hueOf (x : UInt64) : UInt64 := (Float64.divmod (Float64.div x fSix) fOne).snd
def baseC (c : Nat) (x y : UInt64) : UInt64 := if c = 0 then Float64.sub x y else if c = 1 then Float64.sub (Float64.add fTwo x) y else Float64.sub (Float64.add fFour x) y
def walkOf (c kx ky n : Nat) : Nat := (2 * n * c + kx + (6 * n - ky)) % (6 * n)
def ckD (c kx ky n : Nat) : Bool :=
  let h := hueOf (baseC c (frac kx n) (frac ky n))
  let m := Float64.mul (Float64.ofInt (6 * n : Nat)) h
  let x := Float64.add m fHalf
  let w := walkOf c kx ky n
  Float64.isFinite x && (Flt.toInt Float64.truncOf x == (w : Int)) && (Float64.cmp fZero h == some .lt || Float64.cmp fZero h == some .eq) && (Float64.cmp h fOne == some .lt)
    && !(Float64.cmpInt h n == some .gt) && !(Float64.cmp (Float64.abs (Float64.sub m (Float64.ofInt w))) fEps == some .gt)
def wayOf (w t j : Int) : Int := let a := (w - t * j).fmod (3 * t); let b := (t * j - w).fmod (3 * t); if b < a then b else a
def valOf (n way : Int) : Int := let m := if 2 * n - way > 0 then 2 * n - way else 0; if m < n then m else n
/-- what is told of the place j, k below the greatest -/
def ckJ (w : Nat) (n k j : Nat) : Bool := (valOf n (wayOf w (2 * n : Nat) j) == (n : Int) - k) && (decide (wayOf w (2 * n : Nat) j ≤ n) == (k == 0))
def ckI (c kx ky n : Nat) : Bool := let w := walkOf c kx ky n; ckJ w n 0 c && ckJ w n kx ((c + 2) % 3) && ckJ w n ky ((c + 1) % 3)
def ckN (n : Nat) : Bool := (List.range 3).all fun c => (List.range (n + 1)).all fun k => ckD c n k n && ckI c n k n && ckD c k n n && ckI c k n n
theorem hA0 : ckA 0 = true := by decide +kernel
theorem hA1 : ckA 1 = true := by decide +kernel
theorem hA2 : ckA 2 = true := by decide +kernel
theorem hA3 : ckA 3 = true := by decide +kernel
theorem hA4 : ckA 4 = true := by decide +kernel
theorem hA5 : ckA 5 = true := by decide +kernel
theorem hA6 : ckA 6 = true := by decide +kernel
theorem hA7 : ckA 7 = true := by decide +kernel
theorem hA8 : ckA 8 = true := by decide +kernel
theorem hA9 : ckA 9 = true := by decide +kernel
theorem hA10 : ckA 10 = true := by decide +kernel
theorem hA11 : ckA 11 = true := by decide +kernel
theorem hA12 : ckA 12 = true := by decide +kernel
theorem hA13 : ckA 13 = true := by decide +kernel
theorem hA14 : ckA 14 = true := by decide +kernel
theorem hA15 : ckA 15 = true := by decide +kernel
theorem hA16 : ckA 16 = true := by decide +kernel
theorem hA17 : ckA 17 = true := by decide +kernel
theorem hA18 : ckA 18 = true := by decide +kernel
theorem hA19 : ckA 19 = true := by decide +kernel
theorem hA20 : ckA 20 = true := by decide +kernel
theorem hA21 : ckA 21 = true := by decide +kernel
theorem hA22 : ckA 22 = true := by decide +kernel
theorem hA23 : ckA 23 = true := by decide +kernel
theorem hA24 : ckA 24 = true := by decide +kernel
theorem hA25 : ckA 25 = true := by decide +kernel
theorem hA26 : ckA 26 = true := by decide +kernel
theorem hA27 : ckA 27 = true := by decide +kernel
theorem hA28 : ckA 28 = true := by decide +kernel
theorem hA29 : ckA 29 = true := by decide +kernel
theorem hA30 : ckA 30 = true := by decide +kernel
theorem hA31 : ckA 31 = true := by decide +kernel
theorem hA32 : ckA 32 = true := by decide +kernel
theorem hA33 : ckA 33 = true := by decide +kernel
theorem hA34 : ckA 34 = true := by decide +kernel
theorem hA35 : ckA 35 = true := by decide +kernel
theorem hA36 : ckA 36 = true := by decide +kernel
theorem hA37 : ckA 37 = true := by decide +kernel
theorem hA38 : ckA 38 = true := by decide +kernel
theorem hA39 : ckA 39 = true := by decide +kernel
theorem hA40 : ckA 40 = true := by decide +kernel
theorem hA41 : ckA 41 = true := by decide +kernel
theorem hB : ((List.range 42).all ckB) = true := by decide +kernel
theorem hC5 : ckC 5 = true := by decide +kernel
theorem hC6 : ckC 6 = true := by decide +kernel
theorem hC7 : ckC 7 = true := by decide +kernel
theorem hC8 : ckC 8 = true := by decide +kernel
theorem hC9 : ckC 9 = true := by decide +kernel
theorem hC10 : ckC 10 = true := by decide +kernel
theorem hC11 : ckC 11 = true := by decide +kernel
theorem hC12 : ckC 12 = true := by decide +kernel
theorem hC13 : ckC 13 = true := by decide +kernel
theorem hC14 : ckC 14 = true := by decide +kernel
theorem hC15 : ckC 15 = true := by decide +kernel
theorem hC16 : ckC 16 = true := by decide +kernel
theorem hC17 : ckC 17 = true := by decide +kernel
theorem hC18 : ckC 18 = true := by decide +kernel
theorem hC19 : ckC 19 = true := by decide +kernel
theorem hC20 : ckC 20 = true := by decide +kernel
theorem hC21 : ckC 21 = true := by decide +kernel
theorem hC22 : ckC 22 = true := by decide +kernel
theorem hC23 : ckC 23 = true := by decide +kernel
theorem hC24 : ckC 24 = true := by decide +kernel
theorem hC25 : ckC 25 = true := by decide +kernel
theorem hC26 : ckC 26 = true := by decide +kernel
theorem hC27 : ckC 27 = true := by decide +kernel
theorem hC28 : ckC 28 = true := by decide +kernel
theorem hC29 : ckC 29 = true := by decide +kernel
theorem hC30 : ckC 30 = true := by decide +kernel
theorem hC31 : ckC 31 = true := by decide +kernel
theorem hC32 : ckC 32 = true := by decide +kernel
theorem hC33 : ckC 33 = true := by decide +kernel
theorem hC34 : ckC 34 = true := by decide +kernel
theorem hC35 : ckC 35 = true := by decide +kernel
theorem hC36 : ckC 36 = true := by decide +kernel
theorem hC37 : ckC 37 = true := by decide +kernel
theorem hC38 : ckC 38 = true := by decide +kernel
theorem hC39 : ckC 39 = true := by decide +kernel
theorem hC40 : ckC 40 = true := by decide +kernel
theorem hC41 : ckC 41 = true := by decide +kernel
theorem hE0 : ckE 0 = true := by decide +kernel
theorem hE1 : ckE 1 = true := by decide +kernel
theorem hE2 : ckE 2 = true := by decide +kernel
theorem hE3 : ckE 3 = true := by decide +kernel
theorem hE4 : ckE 4 = true := by decide +kernel
theorem hE5 : ckE 5 = true := by decide +kernel
theorem hE6 : ckE 6 = true := by decide +kernel
theorem hE7 : ckE 7 = true := by decide +kernel
theorem hE8 : ckE 8 = true := by decide +kernel
theorem hE9 : ckE 9 = true := by decide +kernel
theorem hE10 : ckE 10 = true := by decide +kernel
theorem hE11 : ckE 11 = true := by decide +kernel
theorem hE12 : ckE 12 = true := by decide +kernel
theorem hE13 : ckE 13 = true := by decide +kernel
theorem hE14 : ckE 14 = true := by decide +kernel
theorem hE15 : ckE 15 = true := by decide +kernel
theorem hE16 : ckE 16 = true := by decide +kernel
theorem hE17 : ckE 17 = true := by decide +kernel
theorem hE18 : ckE 18 = true := by decide +kernel
theorem hN1 : ckN 1 = true := by decide +kernel
theorem hN2 : ckN 2 = true := by decide +kernel
theorem hN3 : ckN 3 = true := by decide +kernel
theorem hN4 : ckN 4 = true := by decide +kernel
theorem hN5 : ckN 5 = true := by decide +kernel
theorem hN6 : ckN 6 = true := by decide +kernel
theorem hN7 : ckN 7 = true := by decide +kernel
theorem hN8 : ckN 8 = true := by decide +kernel
theorem hN9 : ckN 9 = true := by decide +kernel
theorem hN10 : ckN 10 = true := by decide +kernel
theorem hN11 : ckN 11 = true := by decide +kernel
theorem hN12 : ckN 12 = true := by decide +kernel
theorem hN13 : ckN 13 = true := by decide +kernel
theorem hN14 : ckN 14 = true := by decide +kernel
theorem hN15 : ckN 15 = true := by decide +kernel
theorem hN16 : ckN 16 = true := by decide +kernel
theorem hN17 : ckN 17 = true := by decide +kernel
theorem hN18 : ckN 18 = true := by decide +kernel
theorem cA : ∀ a : Nat, 0 ≤ a → a ≤ 41 → ckA a = true := by
  intro a h1 h2
  have : a ∈ List.range' 0 42 := by rw [List.mem_range'_1]; omega
  revert this
  clear h1 h2
  have key : ∀ b ∈ List.range' 0 42, ckA b = true := by
    intro b hb
    simp only [List.range', List.mem_cons, List.not_mem_nil, or_false] at hb
    rcases hb with rfl | rfl | rfl | rfl | rfl | rfl | rfl | rfl | rfl | rfl | rfl | rfl | rfl | rfl | rfl | rfl | rfl | rfl | rfl | rfl | rfl | rfl | rfl | rfl | rfl | rfl | rfl | rfl | rfl | rfl | rfl | rfl | rfl | rfl | rfl | rfl | rfl | rfl | rfl | rfl | rfl | rfl
    · exact hA0
    · exact hA1
    · exact hA2
    · exact hA3
    · exact hA4
    · exact hA5
    · exact hA6
    · exact hA7
    · exact hA8
    · exact hA9
    · exact hA10
    · exact hA11
    · exact hA12
    · exact hA13
    · exact hA14
    · exact hA15
    · exact hA16
    · exact hA17
    · exact hA18
    · exact hA19
    · exact hA20
    · exact hA21
    · exact hA22
    · exact hA23
    · exact hA24
    · exact hA25
    · exact hA26
    · exact hA27
    · exact hA28
    · exact hA29
    · exact hA30
    · exact hA31
    · exact hA32
    · exact hA33
    · exact hA34
    · exact hA35
    · exact hA36
    · exact hA37
    · exact hA38
    · exact hA39
    · exact hA40
    · exact hA41
  exact key a
theorem cC : ∀ a : Nat, 5 ≤ a → a ≤ 41 → ckC a = true := by
  intro a h1 h2
  have : a ∈ List.range' 5 37 := by rw [List.mem_range'_1]; omega
  revert this
  clear h1 h2
  have key : ∀ b ∈ List.range' 5 37, ckC b = true := by
    intro b hb
    simp only [List.range', List.mem_cons, List.not_mem_nil, or_false] at hb
    rcases hb with rfl | rfl | rfl | rfl | rfl | rfl | rfl | rfl | rfl | rfl | rfl | rfl | rfl | rfl | rfl | rfl | rfl | rfl | rfl | rfl | rfl | rfl | rfl | rfl | rfl | rfl | rfl | rfl | rfl | rfl | rfl | rfl | rfl | rfl | rfl | rfl | rfl
    · exact hC5
    · exact hC6
    · exact hC7
    · exact hC8
    · exact hC9
    · exact hC10
    · exact hC11
    · exact hC12
    · exact hC13
    · exact hC14
    · exact hC15
    · exact hC16
    · exact hC17
    · exact hC18
    · exact hC19
    · exact hC20
    · exact hC21
    · exact hC22
    · exact hC23
    · exact hC24
    · exact hC25
    · exact hC26
    · exact hC27
    · exact hC28
    · exact hC29
    · exact hC30
    · exact hC31
    · exact hC32
    · exact hC33
    · exact hC34
    · exact hC35
    · exact hC36
    · exact hC37
    · exact hC38
    · exact hC39
    · exact hC40
    · exact hC41
  exact key a
theorem cN : ∀ a : Nat, 1 ≤ a → a ≤ 18 → ckN a = true := by
  intro a h1 h2
  have : a ∈ List.range' 1 18 := by rw [List.mem_range'_1]; omega
  revert this
  clear h1 h2
  have key : ∀ b ∈ List.range' 1 18, ckN b = true := by
    intro b hb
    simp only [List.range', List.mem_cons, List.not_mem_nil, or_false] at hb
    rcases hb with rfl | rfl | rfl | rfl | rfl | rfl | rfl | rfl | rfl | rfl | rfl | rfl | rfl | rfl | rfl | rfl | rfl | rfl
    · exact hN1
    · exact hN2
    · exact hN3
    · exact hN4
    · exact hN5
    · exact hN6
    · exact hN7
    · exact hN8
    · exact hN9
    · exact hN10
    · exact hN11
    · exact hN12
    · exact hN13
    · exact hN14
    · exact hN15
    · exact hN16
    · exact hN17
    · exact hN18
  exact key a
theorem cE : ∀ a : Nat, 0 ≤ a → a ≤ 18 → ckE a = true := by
  intro a h1 h2
  have : a ∈ List.range' 0 19 := by rw [List.mem_range'_1]; omega
  revert this
  clear h1 h2
  have key : ∀ b ∈ List.range' 0 19, ckE b = true := by
    intro b hb
    simp only [List.range', List.mem_cons, List.not_mem_nil, or_false] at hb
    rcases hb with rfl | rfl | rfl | rfl | rfl | rfl | rfl | rfl | rfl | rfl | rfl | rfl | rfl | rfl | rfl | rfl | rfl | rfl | rfl
    · exact hE0
    · exact hE1
    · exact hE2
    · exact hE3
    · exact hE4
    · exact hE5
    · exact hE6
    · exact hE7
    · exact hE8
    · exact hE9
    · exact hE10
    · exact hE11
    · exact hE12
    · exact hE13
    · exact hE14
    · exact hE15
    · exact hE16
    · exact hE17
    · exact hE18
  exact key a
end Mine

end
section
open PySem PySem.Calls PyProof.Rows PySem.W
set_option linter.unusedVariables false
set_option maxRecDepth 100000
namespace Mine
section
variable {X : Cx} {n : Nat} {f : Addr} {B : Base} {env : Env} {O : Own} {Γ : Gam}

theorem Ex.ifTrue {t : Expr} {body orelse : List Stmt} {pos : Pos} {rest : List Stmt} {Φ : Post} (ht : Tr X n B env O Γ t true) (h : Ex X n B env O Γ body fun f O' Γ' => f ≠ .next ∧ Φ f O' Γ') : Ex X n B env O Γ (.If t body orelse pos :: rest) Φ :=
  Ex.cons (Ex1.if ht (fun _ => h) fun q => nomatch q) (fun _ _ h => absurd rfl h.1) fun f O' Γ' _ h => h.2

theorem Ex1.ifSet {t : Expr} {body orelse : List Stmt} {pos : Pos} {b : Bool} (x : Str) (d : D) (ht : Tr X n B env O Γ t b) (h1 : b = true → Ex X n B env O Γ body fun f O' Γ' => f = .next ∧ O' = O ∧ Γ' = (x, d) :: Γ) (h2 : b = false → Ex X n B env O Γ orelse fun f O' Γ' => f = .next ∧ O' = O ∧ Γ' = (x, d) :: Γ) :
    Ex1 X n B env O Γ (.If t body orelse pos) fun f O' Γ' => f = .next ∧ O' = O ∧ Γ' = (x, d) :: Γ := Ex1.if ht h1 h2
/-! rgb_to_hsv -/
theorem hsv_grey (T : Top X) (r g b M m : UInt64) (hM : fmax3 r g b = M) (hm : fmin3 r g b = m) (he : (Float64.cmp m M == some .eq) = true) :
    OpN X (n + 1) (fun vs => PySem.call (.ref T.fHsv) vs) [.flt r, .flt g, .flt b] (.tup [.flt fZero, .flt fZero, .flt M]) := by
  obtain ⟨md, c', doc, ho, hcd, _⟩ := T.dHsv
  have G := T.good
  subst hM hm
  refine OpN.def (ns := ["r", "g", "b"]) (ds' := [.flt r, .flt g, .flt b]) G ho rfl hcd rfl rfl ?_ (by decide) (by rfl) ?_
  · intro s S vs r _ _
    cases r with
    | cons r r' =>
    cases r' with
    | cons r2 r' =>
    cases r' with
    | cons r3 r' =>
    cases r'
    exact ⟨[_, _, _], BindsTo.of_eq rfl, .cons r (.cons r2 (.cons r3 .nil))⟩
  · intro L B hB
    refine Ex.step (Ex1.assign (Ev.call (EvV.blt G T.noMax rfl (by decide)) (EvL.cons (Ev.local rfl) (EvL.cons (Ev.local rfl) (EvL.cons (Ev.local rfl) EvL.nil))) (.builtin _) OpN.max3) (.loc rfl)) ?_
    refine Ex.step (Ex1.assign (Ev.call (EvV.blt G T.noMin rfl (by decide)) (EvL.cons (Ev.local rfl) (EvL.cons (Ev.local rfl) (EvL.cons (Ev.local rfl) EvL.nil))) (.builtin _) OpN.min3) (.loc rfl)) ?_
    refine Ex.step (Ex1.assign (Ev.binop (Ev.local rfl) (Ev.local rfl) (Op2.subF _ _)) (.loc rfl)) ?_
    refine Ex.step (Ex1.assign (Ev.local rfl) (.loc rfl)) ?_
    refine Ex.ifTrue (Tr.compare (Ev.local rfl) (Ev.local rfl) (he ▸ Op2.eqF _ _)) ?_
    exact Ex.ret (Ev.tup (EvL.cons Ev.cflt (EvL.cons Ev.cflt (EvL.cons (Ev.local rfl) EvL.nil)))) ⟨by simp, _, rfl, .inl rfl⟩
theorem hsv_ok (T : Top X) (r g b M m R : UInt64) (hM : fmax3 r g b = M) (hm : fmin3 r g b = m) (hR : Float64.sub M m = R) (he : (Float64.cmp m M == some .eq) = false) (z1 : Float64.isZero M = false) (z2 : Float64.isZero R = false)
    (b1 b2 : Bool) (h1 : (Float64.cmp r M == some .eq) = b1) (h2 : (Float64.cmp g M == some .eq) = b2) (rc gc bc : UInt64) (hrc : Float64.div (Float64.sub M r) R = rc) (hgc : Float64.div (Float64.sub M g) R = gc) (hbc : Float64.div (Float64.sub M b) R = bc)
    (v : UInt64) (hv : v = if b1 = true then baseC 0 bc gc else if b2 = true then baseC 1 rc bc else baseC 2 gc rc) :
    OpN X (n + 1) (fun vs => PySem.call (.ref T.fHsv) vs) [.flt r, .flt g, .flt b] (.tup [.flt (hueOf v), .flt (Float64.div R M), .flt M]) := by
  obtain ⟨md, c', doc, ho, hcd, _⟩ := T.dHsv
  have G := T.good
  subst hM hm hR hrc hgc hbc h1 h2
  refine OpN.def (ns := ["r", "g", "b"]) (ds' := [.flt r, .flt g, .flt b]) G ho rfl hcd rfl rfl ?_ (by decide) (by rfl) ?_
  · intro s S vs r _ _
    cases r with
    | cons r r' =>
    cases r' with
    | cons r2 r' =>
    cases r' with
    | cons r3 r' =>
    cases r'
    exact ⟨[_, _, _], BindsTo.of_eq rfl, .cons r (.cons r2 (.cons r3 .nil))⟩
  · intro L B hB
    refine Ex.step (Ex1.assign (Ev.call (EvV.blt G T.noMax rfl (by decide)) (EvL.cons (Ev.local rfl) (EvL.cons (Ev.local rfl) (EvL.cons (Ev.local rfl) EvL.nil))) (.builtin _) OpN.max3) (.loc rfl)) ?_
    refine Ex.step (Ex1.assign (Ev.call (EvV.blt G T.noMin rfl (by decide)) (EvL.cons (Ev.local rfl) (EvL.cons (Ev.local rfl) (EvL.cons (Ev.local rfl) EvL.nil))) (.builtin _) OpN.min3) (.loc rfl)) ?_
    refine Ex.step (Ex1.assign (Ev.binop (Ev.local rfl) (Ev.local rfl) (Op2.subF _ _)) (.loc rfl)) ?_
    refine Ex.step (Ex1.assign (Ev.local rfl) (.loc rfl)) ?_
    refine Ex.ifFalse (Tr.compare (Ev.local rfl) (Ev.local rfl) (he ▸ Op2.eqF _ _)) ?_
    refine Ex.step (Ex1.assign (Ev.binop (Ev.local rfl) (Ev.local rfl) (Op2.divF _ _ z1)) (.loc rfl)) ?_
    refine Ex.step (Ex1.assign (Ev.binop (Ev.binop (Ev.local rfl) (Ev.local rfl) (Op2.subF _ _)) (Ev.local rfl) (Op2.divF _ _ z2)) (.loc rfl)) ?_
    refine Ex.step (Ex1.assign (Ev.binop (Ev.binop (Ev.local rfl) (Ev.local rfl) (Op2.subF _ _)) (Ev.local rfl) (Op2.divF _ _ z2)) (.loc rfl)) ?_
    refine Ex.step (Ex1.assign (Ev.binop (Ev.binop (Ev.local rfl) (Ev.local rfl) (Op2.subF _ _)) (Ev.local rfl) (Op2.divF _ _ z2)) (.loc rfl)) ?_
    refine Ex.step (Ex1.ifSet "h" (.flt v) (Tr.compare (Ev.local rfl) (Ev.local rfl) (Op2.eqF _ _)) (fun q => ?_) fun q => ?_) ?_
    · rw [if_pos q] at hv
      subst hv
      exact Ex.step (Ex1.assign (Ev.binop (Ev.local rfl) (Ev.local rfl) (Op2.subF _ _)) (.loc rfl)) (Ex.nil ⟨rfl, rfl, rfl⟩)
    · rw [if_neg (by rw [q]; decide)] at hv
      refine Ex.step (Ex1.ifSet "h" (.flt v) (Tr.compare (Ev.local rfl) (Ev.local rfl) (Op2.eqF _ _)) (fun q' => ?_) fun q' => ?_) (Ex.nil ⟨rfl, rfl, rfl⟩)
      · rw [if_pos q'] at hv
        subst hv
        exact Ex.step (Ex1.assign (Ev.binop (Ev.binop Ev.cflt (Ev.local rfl) (Op2.addF _ _)) (Ev.local rfl) (Op2.subF _ _)) (.loc rfl)) (Ex.nil ⟨rfl, rfl, rfl⟩)
      · rw [if_neg (by rw [q']; decide)] at hv
        subst hv
        exact Ex.step (Ex1.assign (Ev.binop (Ev.binop Ev.cflt (Ev.local rfl) (Op2.addF _ _)) (Ev.local rfl) (Op2.subF _ _)) (.loc rfl)) (Ex.nil ⟨rfl, rfl, rfl⟩)
    refine Ex.step (Ex1.assign (Ev.binop (Ev.binop (Ev.local rfl) Ev.cflt (Op2.divF _ _ (by decide +kernel))) Ev.cflt (Op2.modF _ _ (by decide +kernel))) (.loc rfl)) ?_
    exact Ex.ret (Ev.tup (EvL.cons (Ev.local rfl) (EvL.cons (Ev.local rfl) (EvL.cons (Ev.local rfl) EvL.nil)))) ⟨_, rfl, .inl rfl⟩
end
end Mine

end
section
open PySem PySem.Calls PyProof.Rows PySem.W
set_option linter.unusedVariables false
set_option maxRecDepth 100000
namespace Mine
section
variable {X : Cx} {n : Nat} {f : Addr} {B : Base} {env : Env} {O : Own} {Γ : Gam}
def wayI (w t j : Int) : Int := if (t * j - w).fmod (3 * t) < (w - t * j).fmod (3 * t) then (t * j - w).fmod (3 * t) else (w - t * j).fmod (3 * t)
def maxI (a b : Int) : Int := if b > a then b else a
def minI (a b : Int) : Int := if b < a then b else a
theorem mulOk {a b : Int} (h : -100000 ≤ a ∧ a ≤ 100000) : IntMulOk a b := IntMulOk.of_left (intBits_le_64 (by omega) (by omega))
theorem fits {a : Int} (h : -100000 ≤ a ∧ a ≤ 100000) : a.natAbs < 2 ^ 1023 := by
  have h1 : a.natAbs < 2 ^ 20 := by omega
  exact Nat.lt_of_lt_of_le h1 (Nat.pow_le_pow_right (by decide) (by decide))
theorem Tr.cast {e : Expr} {b b' : Bool} (h : Tr X n B env O Γ e b) (q : b = b') : Tr X n B env O Γ e b' := q ▸ h
theorem Ev.cast {e : Expr} {d d' : D} (h : Ev X n B env O Γ e d) (q : d = d') : Ev X n B env O Γ e d' := q ▸ h
theorem Tr.or4 {e₁ e₂ e₃ e₄ : Expr} {pos : Pos} (h1 : Tr X n B env O Γ e₁ false) (h2 : Tr X n B env O Γ e₂ false) (h3 : Tr X n B env O Γ e₃ false) (h4 : Tr X n B env O Γ e₄ false) : Tr X n B env O Γ (.BoolOp .Or [e₁, e₂, e₃, e₄] pos) false :=
  Tr.boolop (TrA.or (b₁ := false) (b₂ := false) h1 fun _ => TrA.or (b₁ := false) (b₂ := false) h2 fun _ => TrA.or (b₁ := false) (b₂ := false) h3 fun _ => TrA.or (b₁ := false) (b₂ := false) h4 fun _ => TrA.orNil)
theorem range3_get {i : Nat} {d : D} (hd : ((List.range 3).map fun i : Nat => D.int (i : Int))[i]? = some d) : d = .int i ∧ i < 3 := by
  have hi := (List.getElem?_eq_some_iff.mp hd).1
  rw [List.length_map, List.length_range] at hi
  rw [List.getElem?_map, List.getElem?_range hi] at hd
  cases hd
  exact ⟨rfl, hi⟩
theorem seen_run (T : Top X) (p0 p1 p2 M s w t : Nat) (hue share level : UInt64)
    (i0 : Float64.isInf (frac p0 64) = false) (i1 : Float64.isInf (frac p1 64) = false) (i2 : Float64.isInf (frac p2 64) = false)
    (hsv : OpN X (n + 1) (fun vs => PySem.call (.ref T.fHsv) vs) [.flt (frac p0 64), .flt (frac p1 64), .flt (frac p2 64)] (.tup [.flt hue, .flt share, .flt level]))
    (m1 : Float64.isFinite (Float64.add (Float64.mul (Float64.ofInt 64) level) 0x3fe0000000000000) = true) (m2 : Flt.toInt Float64.truncOf (Float64.add (Float64.mul (Float64.ofInt 64) level) 0x3fe0000000000000) = M)
    (s1 : Float64.isFinite (Float64.add (Float64.mul (Float64.mul (Float64.ofInt 64) level) share) 0x3fe0000000000000) = true) (s2 : Flt.toInt Float64.truncOf (Float64.add (Float64.mul (Float64.mul (Float64.ofInt 64) level) share) 0x3fe0000000000000) = s)
    (ht : (t : Int) = 2 * maxI 1 s) (ht1 : t ≤ 1000) (hw1 : w ≤ 10000)
    (w1 : Float64.isFinite (Float64.add (Float64.mul (Float64.ofInt (3 * t)) hue) 0x3fe0000000000000) = true) (w2 : Flt.toInt Float64.truncOf (Float64.add (Float64.mul (Float64.ofInt (3 * t)) hue) 0x3fe0000000000000) = w)
    (v0 : (p0 : Int) = M - s + minI s (maxI 0 (2 * s - wayI w t 0))) (v1 : (p1 : Int) = M - s + minI s (maxI 0 (2 * s - wayI w t 1))) (v2 : (p2 : Int) = M - s + minI s (maxI 0 (2 * s - wayI w t 2)))
    (l1 : (Float64.cmp level (frac M 64) != some .eq) = false) (iM : Float64.isInf (frac M 64) = false) (h1 : (Float64.cmp share (frac s M) != some .eq) = false) (isM : Float64.isInf (frac s M) = false) (hM0 : M ≠ 0)
    (r1 : (Float64.cmp 0x0000000000000000 hue == some .lt || Float64.cmp 0x0000000000000000 hue == some .eq) = true) (r2 : (Float64.cmp hue 0x3ff0000000000000 == some .lt) = true) (r3 : (Float64.cmpInt hue s == some .gt) = false)
    (r4 : (Float64.cmp (Float64.abs (Float64.sub (Float64.mul (Float64.ofInt (3 * t)) hue) (Float64.ofInt w))) 0x3eb0c6f7a0b5ed8d == some .gt) = false)
    (near : List D) (hnear : near = resOf (fun j => decide (wayI w t j ≤ s) || ((s : Int) == 0 || false)) (fun j => .int j) 3) :
    OpN X (n + 2) (fun vs => PySem.call (.ref T.fSeen) vs) [.list [.int p0, .int p1, .int p2]] (.list [.int M, .list near]) := by
  obtain ⟨md, c', doc, ho, hcd, _⟩ := T.dSeen
  have G := T.good
  have ht2 : 2 ≤ t := by unfold maxI at ht; split at ht <;> omega
  refine OpN.def (ns := ["parts"]) (ds' := [.list [.int p0, .int p1, .int p2]]) G ho rfl hcd rfl rfl ?_ (by decide) (by rfl) ?_
  · intro s S vs r _ _
    obtain ⟨_, rfl, ra⟩ := r.inv_one; have r := ra
    exact ⟨[_], BindsTo.of_eq rfl, .cons r .nil⟩
  · intro L B hB
    have hW : ∀ x, B.W x = true := fun x => by rw [hB]
    refine Ex.step (Ex1.assign3 (Ev.call (EvV.glob G T.mHsv) (EvL.cons (Ev.binop (Ev.sub (Ev.local rfl) Ev.cint (Op2.itemP rfl (Nat.le_of_ble_eq_true rfl))) Ev.cint (Op2.divII p0 64 (by decide) i0)) (EvL.cons (Ev.binop (Ev.sub (Ev.local rfl) Ev.cint (Op2.itemP rfl (Nat.le_of_ble_eq_true rfl))) Ev.cint (Op2.divII p1 64 (by decide) i1)) (EvL.cons (Ev.binop (Ev.sub (Ev.local rfl) Ev.cint (Op2.itemP rfl (Nat.le_of_ble_eq_true rfl))) Ev.cint (Op2.divII p2 64 (by decide) i2)) EvL.nil))) T.kHsv hsv) (.loc rfl) (.loc rfl) (.loc rfl)) ?_
    refine Ex.step (Ex1.assign2 (Ev.tup (EvL.cons (Ev.call (EvV.blt G T.noInt rfl (by decide)) (EvL.cons (Ev.binop (Ev.binop Ev.cint (Ev.local rfl) (Op2.mulIF 64 _ (by decide))) Ev.cflt (Op2.addF _ _)) EvL.nil) (.type _) (OpN.intF m1 m2)) (EvL.cons (Ev.call (EvV.blt G T.noInt rfl (by decide)) (EvL.cons (Ev.binop (Ev.binop (Ev.binop Ev.cint (Ev.local rfl) (Op2.mulIF 64 _ (by decide))) (Ev.local rfl) (Op2.mulF _ _)) Ev.cflt (Op2.addF _ _)) EvL.nil) (.type _) (OpN.intF s1 s2)) EvL.nil))) (.cell rfl rfl (hW _)) (.cell rfl rfl (hW _))) ?_
    refine Ex.step (Ex1.assign (d := .int t) (ht ▸ Ev.binop Ev.cint (Ev.call (EvV.blt G T.noMax rfl (by decide)) (EvL.cons Ev.cint (EvL.cons (Ev.cell rfl) EvL.nil)) (.builtin _) OpN.max2) (Op2.mulI 2 _ (mulOk (by decide)))) (.cell rfl rfl (hW _))) ?_
    refine Ex.step (Ex1.assign (Ev.call (EvV.blt G T.noInt rfl (by decide)) (EvL.cons (Ev.binop (Ev.binop (Ev.binop Ev.cint (Ev.cell rfl) (Op2.mulI 3 _ (mulOk (by decide)))) (Ev.local rfl) (Op2.mulIF _ _ ?_)) Ev.cflt (Op2.addF _ _)) EvL.nil) (.type _) (OpN.intF w1 w2)) (.cell rfl rfl (hW _))) ?_
    · exact fits (by omega)
    have m3 : IntMulOk 3 t := mulOk (by decide)
    have n3 : (3 : Int) * t ≠ 0 := by omega
    refine Ex.step (Ex1.assign (Ev.ofComp (CompD.map [("walk", L + 4), ("third", L + 3)] [("third", .int t), ("walk", .int w)] (ds := [.int (wayI w t 0), .int (wayI w t 1), .int (wayI w t 2)])
      (EvIt.range (m := 3) (Ev.call (EvV.blt G T.noRange rfl (by decide)) (EvL.cons Ev.cint EvL.nil) (.type _) OpN.range) (range_small (by decide))) ⟨rfl, rfl, trivial⟩ ⟨⟨rfl, rfl⟩, ⟨rfl, rfl⟩, trivial⟩ (fun C => ⟨rfl, rfl, trivial⟩) rfl (by decide) rfl ?_)) (.cell rfl rfl (hW _))) ?_
    · intro C B' i d e hd he
      obtain ⟨rfl, hi⟩ := range3_get hd
      have he' : e = .int (wayI w t i) := by
        match i, hi with
        | 0, _ => exact (Option.some.inj he).symm
        | 1, _ => exact (Option.some.inj he).symm
        | 2, _ => exact (Option.some.inj he).symm
      subst he'
      have mt : IntMulOk t i := mulOk (by omega)
      exact Ev.call (EvV.blt G T.noMin rfl (by decide)) (EvL.cons (Ev.binop (Ev.binop (Ev.cell rfl) (Ev.binop (Ev.cell rfl) (Ev.local rfl) (Op2.mulI _ _ mt)) (Op2.subI _ _)) (Ev.binop Ev.cint (Ev.cell rfl) (Op2.mulI _ _ m3)) (Op2.modI _ _ n3))
        (EvL.cons (Ev.binop (Ev.binop (Ev.binop (Ev.cell rfl) (Ev.local rfl) (Op2.mulI _ _ mt)) (Ev.cell rfl) (Op2.subI _ _)) (Ev.binop Ev.cint (Ev.cell rfl) (Op2.mulI _ _ m3)) (Op2.modI _ _ n3)) EvL.nil)) (.builtin _) OpN.min2
    refine Ex.ifFalse (Tr.compare (Ev.local rfl) (Ev.ofComp (CompD.map [("spread", L + 2), ("most", L + 1)] [("most", .int M), ("spread", .int s)] (ds := [.int p0, .int p1, .int p2]) (EvIt.list (Ev.cell rfl)) ⟨rfl, rfl, trivial⟩ ⟨⟨rfl, rfl⟩, ⟨rfl, rfl⟩, trivial⟩ (fun C => ⟨rfl, rfl, trivial⟩) rfl (by exact Nat.le_of_ble_eq_true rfl) rfl ?_)) (Op2.neL [true, true, true] rfl ?_ rfl)) ?_
    · intro C B' i d e hd he
      obtain ⟨j, p, rfl, rfl, hp⟩ : ∃ j p : Int, d = .int (wayI w t j) ∧ e = .int p ∧ p = M - s + minI s (maxI 0 (2 * s - wayI w t j)) := by
        have hi : i < 3 := (List.getElem?_eq_some_iff.mp hd).1
        match i, hi with
        | 0, _ => exact ⟨0, p0, (Option.some.inj hd).symm, (Option.some.inj he).symm, v0⟩
        | 1, _ => exact ⟨1, p1, (Option.some.inj hd).symm, (Option.some.inj he).symm, v1⟩
        | 2, _ => exact ⟨2, p2, (Option.some.inj hd).symm, (Option.some.inj he).symm, v2⟩
      rw [hp]
      exact Ev.binop (Ev.binop (Ev.cell rfl) (Ev.cell rfl) (Op2.subI _ _)) (Ev.call (EvV.blt G T.noMin rfl (by decide)) (EvL.cons (Ev.cell rfl) (EvL.cons (Ev.call (EvV.blt G T.noMax rfl (by decide)) (EvL.cons Ev.cint (EvL.cons (Ev.binop (Ev.binop Ev.cint (Ev.cell rfl) (Op2.mulI 2 _ (mulOk (by decide)))) (Ev.local rfl) (Op2.subI _ _)) EvL.nil)) (.builtin _) OpN.max2) EvL.nil)) (.builtin _) OpN.min2) (Op2.addI _ _)
    · intro i d e h1 h2
      rw [h1] at h2; cases h2
      have hi : i < 3 := (List.getElem?_eq_some_iff.mp h1).1
      have q : ∀ p : Int, (p == p) = true := fun p => by simp
      match i, hi with
      | 0, _ => cases h1; exact q p0 ▸ Eqs.int p0 p0
      | 1, _ => cases h1; exact q p1 ▸ Eqs.int p1 p1
      | 2, _ => cases h1; exact q p2 ▸ Eqs.int p2 p2
    refine Ex.ifFalse (Tr.or4 (Tr.compare (Ev.local rfl) (Ev.binop (Ev.cell rfl) Ev.cint (Op2.divII M 64 (by decide) iM)) (l1 ▸ Op2.neF _ _)) (Tr.compare (Ev.local rfl) (Ev.binop (Ev.cell rfl) (Ev.cell rfl) (Op2.divII s M hM0 isM)) (h1 ▸ Op2.neF _ _))
      (Tr.cast (Tr.not (Tr.chain (b₁ := true) (b₂ := true) Ev.cflt (Ev.local rfl) (r1 ▸ Op2.leF _ _) Ev.cflt (r2 ▸ Op2.ltF _ _))) rfl) (Tr.compare (Ev.local rfl) (Ev.cell rfl) (r3 ▸ Op2.gtFI _ _))) ?_
    refine Ex.ifFalse (Tr.compare (Ev.call (EvV.blt G T.noAbs rfl (by decide)) (EvL.cons (Ev.binop (Ev.binop (Ev.binop Ev.cint (Ev.cell rfl) (Op2.mulI _ _ m3)) (Ev.local rfl) (Op2.mulIF _ _ (fits (by omega)))) (Ev.cell rfl) (Op2.subFI _ _ (fits (by omega)))) EvL.nil) (.builtin _) OpN.absF) Ev.cflt (r4 ▸ Op2.gtF _ _)) ?_
    refine Ex.ret (Ev.list (EvL.cons (Ev.cell rfl) (EvL.cons (Ev.ofComp (CompD.cap [("ways", L + 5), ("spread", L + 2)] [("spread", .int s), ("ways", .list [.int (wayI w t 0), .int (wayI w t 1), .int (wayI w t 2)])] (fun j => decide (wayI w t j ≤ s) || ((s : Int) == 0 || false)) (fun j => .int j)
      (EvIt.range (m := 3) (Ev.call (EvV.blt G T.noRange rfl (by decide)) (EvL.cons Ev.cint EvL.nil) (.type _) OpN.range) (range_small (by decide))) ⟨rfl, rfl, trivial⟩ ⟨⟨rfl, rfl⟩, ⟨rfl, rfl⟩, trivial⟩ (fun C => ⟨rfl, rfl, trivial⟩) rfl (by decide) hnear.symm ?_ ?_)) EvL.nil))) ⟨_, rfl, .inl rfl⟩
    · intro C B' i d hd
      obtain ⟨rfl, hi⟩ := range3_get hd
      refine TrS.one (Tr.boolop (TrA.or (Tr.compare (Ev.sub (Ev.cell rfl) (Ev.local rfl) (Op2.itemP (d := .int (wayI w t i)) ?_ (Nat.le_of_ble_eq_true rfl))) (Ev.cell rfl) (Op2.leI _ _)) (fun _ => TrA.or (Tr.compare (Ev.cell rfl) Ev.cint (Op2.eqI _ _)) fun _ => TrA.orNil)))
      match i, hi with
      | 0, _ => rfl
      | 1, _ => rfl
      | 2, _ => rfl
    · intro C B' i d hd _
      obtain ⟨rfl, hi⟩ := range3_get hd
      exact Ev.local rfl
end
end Mine

end
section
open PySem PySem.Calls PyProof.Rows PySem.W
set_option linter.unusedVariables false
set_option maxRecDepth 100000
namespace Mine
theorem all_range_get {n : Nat} {f : Nat → Bool} (h : (List.range n).all f = true) {i : Nat} (hi : i < n) : f i = true := List.all_eq_true.mp h i (List.mem_range.mpr hi)
theorem fA {a b : Nat} (ha : a ≤ 41) (hb : b ≤ 41) : Float64.cmp (fr a) (fr b) = some (ordOf a b) ∧ (b ≤ a → Float64.sub (fr a) (fr b) = fr (a - b)) := by
  have h := all_range_get (cA a (Nat.zero_le _) ha) (i := b) (by omega)
  simp only [Bool.and_eq_true, Bool.or_eq_true, beq_iff_eq, decide_eq_true_eq] at h
  exact ⟨h.1, fun q => h.2.resolve_left (by omega)⟩
theorem fE {a b : Nat} (ha : a ≤ 18) (hb : b ≤ 41) (h0 : b ≠ 0) : Float64.div (fr a) (fr b) = frac a b := by
  have h := all_range_get (cE a (Nat.zero_le _) ha) (i := b) (by omega)
  simp only [Bool.or_eq_true, beq_iff_eq] at h
  exact h.resolve_left h0
theorem fB {a : Nat} (ha : a ≤ 41) : Float64.isInf (fr a) = false ∧ Float64.isZero (fr a) = (a == 0) ∧ Float64.isFinite (Float64.add (Float64.mul (Float64.ofInt 64) (fr a)) fHalf) = true ∧ Flt.toInt Float64.truncOf (Float64.add (Float64.mul (Float64.ofInt 64) (fr a)) fHalf) = (a : Int) := by
  have h := all_range_get hB (i := a) (by omega)
  unfold ckB at h
  simp only [Bool.and_eq_true, beq_iff_eq] at h
  exact ⟨h.1.1.1, h.1.1.2, h.1.2, h.2⟩
theorem fC {M n : Nat} (h1 : 5 ≤ M) (h2 : M ≤ 41) (hn : n ≤ 18) : Float64.isFinite (Float64.add (Float64.mul (Float64.mul (Float64.ofInt 64) (fr M)) (frac n M)) fHalf) = true ∧ Flt.toInt Float64.truncOf (Float64.add (Float64.mul (Float64.mul (Float64.ofInt 64) (fr M)) (frac n M)) fHalf) = (n : Int) ∧
    Float64.cmp (frac n M) (frac n M) = some .eq ∧ Float64.isInf (frac n M) = false := by
  have h := all_range_get (cC M h1 h2) (i := n) (by omega)
  simp only [Bool.and_eq_true, beq_iff_eq] at h
  exact ⟨h.1.1.1, h.1.1.2, h.1.2, h.2⟩
theorem fN {c kx ky n : Nat} (h1 : 1 ≤ n) (h2 : n ≤ 18) (hc : c < 3) (hx : kx ≤ n) (hy : ky ≤ n) (h : kx = n ∨ ky = n) : ckD c kx ky n = true ∧ ckI c kx ky n = true := by
  have q := all_range_get (cN n h1 h2) hc
  rcases h with rfl | rfl
  · have q := all_range_get q (i := ky) (by omega)
    simp only [Bool.and_eq_true] at q
    exact ⟨q.1.1.1, q.1.1.2⟩
  · have q := all_range_get q (i := kx) (by omega)
    simp only [Bool.and_eq_true] at q
    exact ⟨q.1.2, q.2⟩
theorem lt_fr {a b : Nat} (ha : a ≤ 41) (hb : b ≤ 41) : fltLt (fr a) (fr b) = decide (a < b) := by
  unfold fltLt
  rw [(fA ha hb).1]
  unfold ordOf
  by_cases q : a < b
  · simp [q]
  · by_cases q' : a = b <;> simp [q, q']
theorem eq_fr {a b : Nat} (ha : a ≤ 41) (hb : b ≤ 41) : (Float64.cmp (fr a) (fr b) == some .eq) = decide (a = b) := by
  rw [(fA ha hb).1]
  unfold ordOf
  by_cases q : a < b
  · simp [q]; omega
  · by_cases q' : a = b <;> simp [q, q']
def max3 (a b c : Nat) : Nat := max (max a b) c
def min3 (a b c : Nat) : Nat := min (min a b) c
theorem fmax3_fr {a b c : Nat} (ha : a ≤ 41) (hb : b ≤ 41) (hc : c ≤ 41) : fmax3 (fr a) (fr b) (fr c) = fr (max3 a b c) := by
  unfold fmax3 max3
  simp only [lt_fr ha hb]
  by_cases q : a < b
  · simp only [q, decide_true, if_true, lt_fr hb hc]
    rw [show max a b = b by omega]
    by_cases q' : b < c
    · simp only [q', decide_true, if_true]; rw [show max b c = c by omega]
    · simp only [q', decide_false, Bool.false_eq_true, if_false]; rw [show max b c = b by omega]
  · simp only [q, decide_false, Bool.false_eq_true, if_false, lt_fr ha hc]
    rw [show max a b = a by omega]
    by_cases q' : a < c
    · simp only [q', decide_true, if_true]; rw [show max a c = c by omega]
    · simp only [q', decide_false, Bool.false_eq_true, if_false]; rw [show max a c = a by omega]
theorem fmin3_fr {a b c : Nat} (ha : a ≤ 41) (hb : b ≤ 41) (hc : c ≤ 41) : fmin3 (fr a) (fr b) (fr c) = fr (min3 a b c) := by
  unfold fmin3 min3
  simp only [lt_fr hb ha]
  by_cases q : b < a
  · simp only [q, decide_true, if_true, lt_fr hc hb]
    rw [show min a b = b by omega]
    by_cases q' : c < b
    · simp only [q', decide_true, if_true]; rw [show min b c = c by omega]
    · simp only [q', decide_false, Bool.false_eq_true, if_false]; rw [show min b c = b by omega]
  · simp only [q, decide_false, Bool.false_eq_true, if_false, lt_fr hc ha]
    rw [show min a b = a by omega]
    by_cases q' : c < a
    · simp only [q', decide_true, if_true]; rw [show min a c = c by omega]
    · simp only [q', decide_false, Bool.false_eq_true, if_false]; rw [show min a c = a by omega]
def near3 (a b c : Bool) : List Int := (if a then [0] else []) ++ (if b then [1] else []) ++ (if c then [2] else [])
theorem resOf3 (p : Nat → Bool) : resOf p (fun j => .int j) 3 = (near3 (p 0) (p 1) (p 2)).map .int := by
  unfold near3
  simp only [resOf]
  cases p 0 <;> cases p 1 <;> cases p 2 <;> rfl
def ckG (M : Nat) : Bool := Float64.isFinite (Float64.add (Float64.mul (Float64.mul (Float64.ofInt 64) (fr M)) fZero) fHalf) && (Flt.toInt Float64.truncOf (Float64.add (Float64.mul (Float64.mul (Float64.ofInt 64) (fr M)) fZero) fHalf) == 0) && (Float64.cmp fZero (frac 0 M) == some .eq)
theorem hG : ((List.range' 5 37).all ckG) = true := by decide +kernel

theorem max3_facts {a b c M : Nat} (h : M = max3 a b c) : a ≤ M ∧ b ≤ M ∧ c ≤ M ∧ (M = a ∨ M = b ∨ M = c) := by
  unfold max3 at h
  subst h
  refine ⟨Nat.le_trans (Nat.le_max_left _ _) (Nat.le_max_left _ _), Nat.le_trans (Nat.le_max_right _ _) (Nat.le_max_left _ _), Nat.le_max_right _ _, ?_⟩
  omega
theorem min3_facts {a b c m : Nat} (h : min3 a b c = m) : m ≤ a ∧ m ≤ b ∧ m ≤ c ∧ (m = a ∨ m = b ∨ m = c) := by
  unfold min3 at h
  subst h
  refine ⟨Nat.le_trans (Nat.min_le_left _ _) (Nat.min_le_left _ _), Nat.le_trans (Nat.min_le_left _ _) (Nat.min_le_right _ _), Nat.min_le_right _ _, ?_⟩
  omega
theorem pick3 {p0 p1 p2 M m : Nat} (um : M = p0 ∨ M = p1 ∨ M = p2) (v0 : m ≤ p0) (v1 : m ≤ p1) (v2 : m ≤ p2) (vm : m = p0 ∨ m = p1 ∨ m = p2) (hne : m ≠ M) : ∃ c kx ky, c < 3 ∧ kx ≤ M - m ∧ ky ≤ M - m ∧ (kx = M - m ∨ ky = M - m) ∧
    ((if decide (p0 = M) = true then baseC 0 (frac (M - p2) (M - m)) (frac (M - p1) (M - m)) else if decide (p1 = M) = true then baseC 1 (frac (M - p0) (M - m)) (frac (M - p2) (M - m)) else baseC 2 (frac (M - p1) (M - m)) (frac (M - p0) (M - m))) = baseC c (frac kx (M - m)) (frac ky (M - m))) ∧
    ∀ P : Nat → Nat → Prop, P 0 c → P kx ((c + 2) % 3) → P ky ((c + 1) % 3) → P (M - p0) 0 ∧ P (M - p1) 1 ∧ P (M - p2) 2 := by
  have sub : ∀ p, m ≤ p → M - p ≤ M - m := fun p h => Nat.sub_le_sub_left h M
  have sel : ∀ {p}, m = p → M - p = M - m := by rintro _ rfl; rfl
  by_cases q0 : p0 = M
  · refine ⟨0, M - p2, M - p1, by decide, sub _ v2, sub _ v1, ?_, by rw [decide_eq_true q0, if_pos rfl], fun P g0 gx gy => ⟨by rw [q0, Nat.sub_self]; exact g0, gy, gx⟩⟩
    rcases vm with h | h | h
    · exact absurd (h.trans q0) hne
    · exact .inr (sel h)
    · exact .inl (sel h)
  · by_cases q1 : p1 = M
    · refine ⟨1, M - p0, M - p2, by decide, sub _ v0, sub _ v2, ?_, by rw [decide_eq_false q0, decide_eq_true q1, if_neg (by decide), if_pos rfl], fun P g0 gx gy => ⟨gx, by rw [q1, Nat.sub_self]; exact g0, gy⟩⟩
      rcases vm with h | h | h
      · exact .inl (sel h)
      · exact absurd (h.trans q1) hne
      · exact .inr (sel h)
    · have q2 : p2 = M := by
        rcases um with h | h | h
        · exact absurd h.symm q0
        · exact absurd h.symm q1
        · exact h.symm
      refine ⟨2, M - p1, M - p0, by decide, sub _ v1, sub _ v0, ?_, by rw [decide_eq_false q0, decide_eq_false q1, if_neg (by decide), if_neg (by decide)], fun P g0 gx gy => ⟨gy, gx, by rw [q2, Nat.sub_self]; exact g0⟩⟩
      rcases vm with h | h | h
      · exact .inr (sel h)
      · exact .inl (sel h)
      · exact absurd (h.trans q2) hne
theorem val_eq {p M s : Nat} (h : p ≤ M) : (p : Int) = M - s + ((s : Int) - ((M - p : Nat) : Int)) := by omega
theorem sub_eqz {p M : Nat} (h : p ≤ M) : (M - p == 0) = decide (p = M) := by
  rw [Bool.eq_iff_iff]
  simp only [beq_iff_eq, decide_eq_true_eq]
  omega
theorem near_eq {w s t M p j : Nat} (hp : p ≤ M) (hsz : ((s : Int) == 0) = false) (h : decide (wayI w t j ≤ s) = (M - p == 0)) : (decide (wayI w t j ≤ s) || ((s : Int) == 0 || false)) = decide (p = M) := by
  rw [hsz, Bool.or_false, Bool.or_false, h]
  exact sub_eqz hp
theorem six_s (s : Nat) : ((6 * s : Nat) : Int) = 3 * ((2 * s : Nat) : Int) := by omega
theorem max_s {s : Nat} (h : 1 ≤ s) : ((2 * s : Nat) : Int) = 2 * maxI 1 s := by unfold maxI; split <;> omega
theorem walk_s {w s : Nat} (h : w < 6 * s) (h' : s ≤ 18) : 2 * s ≤ 1000 ∧ w ≤ 10000 := by omega
theorem grey_s (M : Nat) : (M : Int) = (M : Int) - ((0 : Nat) : Int) + 0 := by omega
section
variable {X : Cx} {n : Nat}
theorem seen_ok (T : Top X) (p0 p1 p2 : Nat) (h0 : 5 ≤ p0 ∧ p0 ≤ 41) (h1 : 5 ≤ p1 ∧ p1 ≤ 41) (h2 : 5 ≤ p2 ∧ p2 ≤ 41) (M : Nat) (hM : M = max3 p0 p1 p2) (hsp : M ≤ p0 + 18 ∧ M ≤ p1 + 18 ∧ M ≤ p2 + 18) :
    OpN X (n + 2) (fun vs => PySem.call (.ref T.fSeen) vs) [.list [.int p0, .int p1, .int p2]] (.list [.int M, .list ((near3 (decide (p0 = M)) (decide (p1 = M)) (decide (p2 = M))).map .int)]) := by
  obtain ⟨u0, u1, u2, um⟩ := max3_facts hM
  have hM5 : 5 ≤ M := Nat.le_trans h0.1 u0
  have hM41 : M ≤ 41 := by
    rcases um with h | h | h
    · rw [h]; exact h0.2
    · rw [h]; exact h1.2
    · rw [h]; exact h2.2
  have hM0 : M ≠ 0 := Nat.pos_iff_ne_zero.mp (Nat.lt_of_lt_of_le (by decide) hM5)
  obtain ⟨bM1, bM2, bM3, bM4⟩ := fB hM41
  have hmax := fmax3_fr h0.2 h1.2 h2.2
  have hmin := fmin3_fr h0.2 h1.2 h2.2
  rw [← hM] at hmax
  clear hM
  have l1 : (Float64.cmp (fr M) (frac M 64) != some .eq) = false := by
    show (Float64.cmp (fr M) (fr M) != some .eq) = false
    rw [bne, eq_fr hM41 hM41]; simp
  generalize hm : min3 p0 p1 p2 = m at hmin
  obtain ⟨v0, v1, v2, vm⟩ := min3_facts hm
  clear hm
  by_cases hs : m = M
  · -- grey
    have hg : ckG M = true := List.all_eq_true.mp hG M (by rw [List.mem_range'_1]; exact ⟨hM5, Nat.lt_succ_of_le hM41⟩)
    unfold ckG at hg
    simp only [Bool.and_eq_true, beq_iff_eq] at hg
    have e0 : p0 = M := Nat.le_antisymm u0 (hs ▸ v0)
    have e1 : p1 = M := Nat.le_antisymm u1 (hs ▸ v1)
    have e2 : p2 = M := Nat.le_antisymm u2 (hs ▸ v2)
    clear u0 u1 u2 v0 v1 v2 vm um
    refine seen_run T p0 p1 p2 M 0 0 2 fZero fZero (fr M) (fB h0.2).1 (fB h1.2).1 (fB h2.2).1 (hsv_grey T _ _ _ (fr M) (fr M) hmax (hs ▸ hmin) (by rw [eq_fr hM41 hM41]; simp)) bM3 bM4 hg.1.1 hg.1.2 (by decide) (by decide) (by decide) (by decide +kernel) (by decide +kernel) ?_ ?_ ?_ l1 bM1 ?_ (fC hM5 hM41 (Nat.zero_le _)).2.2.2 hM0 (by decide +kernel) (by decide +kernel) (by decide +kernel) (by decide +kernel) _ ?_
    · rw [e0, show minI ((0 : Nat) : Int) (maxI 0 (2 * ((0 : Nat) : Int) - wayI ((0 : Nat) : Int) ((2 : Nat) : Int) 0)) = 0 by decide]; exact grey_s M
    · rw [e1, show minI ((0 : Nat) : Int) (maxI 0 (2 * ((0 : Nat) : Int) - wayI ((0 : Nat) : Int) ((2 : Nat) : Int) 1)) = 0 by decide]; exact grey_s M
    · rw [e2, show minI ((0 : Nat) : Int) (maxI 0 (2 * ((0 : Nat) : Int) - wayI ((0 : Nat) : Int) ((2 : Nat) : Int) 2)) = 0 by decide]; exact grey_s M
    · rw [bne, hg.2]; rfl
    · rw [resOf3, e0, e1, e2]; simp
  · -- a colour
    have hmM : m ≤ M := Nat.le_trans v0 u0
    have hm41 : m ≤ 41 := Nat.le_trans hmM hM41
    have hm5 : 5 ≤ m := by
      rcases vm with h | h | h
      · rw [h]; exact h0.1
      · rw [h]; exact h1.1
      · rw [h]; exact h2.1
    have hm18 : M ≤ m + 18 := by
      rcases vm with h | h | h
      · rw [h]; exact hsp.1
      · rw [h]; exact hsp.2.1
      · rw [h]; exact hsp.2.2
    obtain ⟨c, kx, ky, hc, hkx, hky, hxy, hv, hsel⟩ := pick3 um v0 v1 v2 vm hs
    clear v0 v1 v2 vm um
    have hR : Float64.sub (fr M) (fr m) = fr (M - m) := (fA hM41 hm41).2 hmM
    have hsb : 1 ≤ M - m ∧ M - m ≤ 18 := ⟨Nat.sub_pos_of_lt (Nat.lt_of_le_of_ne hmM hs), Nat.sub_le_of_le_add (by rw [Nat.add_comm]; exact hm18)⟩
    generalize M - m = s at *
    have hs0 : s ≠ 0 := Nat.pos_iff_ne_zero.mp hsb.1
    have hs41 : s ≤ 41 := Nat.le_trans hsb.2 (by decide)
    have hk : ∀ p, p ≤ M → M ≤ p + 18 → Float64.div (Float64.sub (fr M) (fr p)) (fr s) = frac (M - p) s := fun p q2 q3 => by
      rw [(fA hM41 (Nat.le_trans q2 hM41)).2 q2, fE (Nat.sub_le_of_le_add (by rw [Nat.add_comm]; exact q3)) hs41 hs0]
    obtain ⟨c1, c2, c3, c4⟩ := fC hM5 hM41 hsb.2
    obtain ⟨hD, hI⟩ := fN hsb.1 hsb.2 hc hkx hky hxy
    unfold ckD at hD
    unfold ckI at hI
    simp only [Bool.and_eq_true, beq_iff_eq, Bool.not_eq_true'] at hD hI
    obtain ⟨⟨⟨⟨⟨d1, d2⟩, d3⟩, d4⟩, d5⟩, d6⟩ := hD
    obtain ⟨⟨g0, gx⟩, gy⟩ := hI
    obtain ⟨j0, j1, j2⟩ := hsel (fun k j => ckJ (walkOf c kx ky s) s k j = true) g0 gx gy
    unfold ckJ at j0 j1 j2
    simp only [Bool.and_eq_true, beq_iff_eq] at j0 j1 j2
    rw [six_s] at d1 d2 d6
    obtain ⟨hs1000, hw10⟩ := walk_s (w := walkOf c kx ky s) (Nat.mod_lt _ (Nat.mul_pos (by decide) hsb.1)) hsb.2
    refine seen_run T p0 p1 p2 M s (walkOf c kx ky s) (2 * s) (hueOf (baseC c (frac kx s) (frac ky s))) (frac s M) (fr M) (fB h0.2).1 (fB h1.2).1 (fB h2.2).1 ?_ bM3 bM4 c1 c2 ?_ hs1000 hw10 d1 d2 ?_ ?_ ?_ l1 bM1 (by rw [bne, c3]; rfl) c4 hM0 d3 (beq_iff_eq.mpr d4) d5 d6 _ ?_
    · have hdM : Float64.div (fr s) (fr M) = frac s M := fE hsb.2 hM41 hM0
      rw [← hv, ← hdM]
      exact hsv_ok T _ _ _ (fr M) (fr m) (fr s) hmax hmin hR (by rw [eq_fr hm41 hM41]; simpa using hs) (by rw [bM2]; exact beq_eq_false_iff_ne.mpr hM0) (by rw [(fB hs41).2.1]; exact beq_eq_false_iff_ne.mpr hs0) _ _ (eq_fr h0.2 hM41) (eq_fr h1.2 hM41) _ _ _ (hk p0 u0 hsp.1) (hk p1 u1 hsp.2.1) (hk p2 u2 hsp.2.2) _ rfl
    · exact max_s hsb.1
    · have : minI s (maxI 0 (2 * s - wayI (walkOf c kx ky s) ((2 * s : Nat)) 0)) = (s : Int) - (M - p0 : Nat) := j0.1
      rw [this]; exact val_eq u0
    · have : minI s (maxI 0 (2 * s - wayI (walkOf c kx ky s) ((2 * s : Nat)) 1)) = (s : Int) - (M - p1 : Nat) := j1.1
      rw [this]; exact val_eq u1
    · have : minI s (maxI 0 (2 * s - wayI (walkOf c kx ky s) ((2 * s : Nat)) 2)) = (s : Int) - (M - p2 : Nat) := j2.1
      rw [this]; exact val_eq u2
    · rw [resOf3]
      have hsz : ((s : Int) == 0) = false := beq_eq_false_iff_ne.mpr (fun q => hs0 (by exact_mod_cast q))
      have k0 := near_eq (w := walkOf c kx ky s) (t := 2 * s) (j := 0) u0 hsz j0.2
      have k1 := near_eq (w := walkOf c kx ky s) (t := 2 * s) (j := 1) u1 hsz j1.2
      have k2 := near_eq (w := walkOf c kx ky s) (t := 2 * s) (j := 2) u2 hsz j2.2
      rw [k0, k1, k2]
end
end Mine

end
section
open PySem PySem.Calls PyProof.Rows PySem.W
set_option linter.unusedVariables false
set_option maxRecDepth 100000
namespace Mine
/-! body_encode: the plain part -/
/-- a sign as a body writes it -/
def Sg (s : List Nat) : Prop := (∃ c, s = [c] ∧ c ≠ 61) ∨ ∃ x y, s = [61, x, y] ∧ x ≠ 61 ∧ y ≠ 61
theorem Sg.len {s : List Nat} (h : Sg s) : s.length = 1 ∨ s.length = 3 := by rcases h with ⟨c, rfl, _⟩ | ⟨x, y, rfl, _⟩ <;> simp
theorem flat_snoc (ws : List (List Nat)) (s : List Nat) : (ws ++ [s]).flatten = ws.flatten ++ s := by simp
/-- the two signs ahead of a sign's start are no = -/
theorem ends_ne : ∀ (ws : List (List Nat)), (∀ s ∈ ws, Sg s) → ∀ c, (ws.flatten[ws.flatten.length - 1]? = some c ∧ 1 ≤ ws.flatten.length ∨ ws.flatten[ws.flatten.length - 2]? = some c ∧ 2 ≤ ws.flatten.length) → c ≠ 61 := by
  intro ws
  suffices h : ∀ (n : Nat) (ws : List (List Nat)), ws.length = n → (∀ s ∈ ws, Sg s) → ∀ c, (ws.flatten[ws.flatten.length - 1]? = some c ∧ 1 ≤ ws.flatten.length ∨ ws.flatten[ws.flatten.length - 2]? = some c ∧ 2 ≤ ws.flatten.length) → c ≠ 61 from h _ ws rfl
  intro n
  induction n with
  | zero =>
    intro ws hn _ c h
    have : ws = [] := List.eq_nil_of_length_eq_zero hn
    subst this; simp at h
  | succ n ih =>
    intro ws hn hs c h
    obtain ⟨us, s, rfl⟩ : ∃ us s, ws = us ++ [s] := by
      have hne : ws ≠ [] := by rintro rfl; simp at hn
      exact ⟨ws.dropLast, ws.getLast hne, (List.dropLast_concat_getLast hne).symm⟩
    rw [flat_snoc] at h
    have hsl := hs s (by simp)
    have hus : ∀ s ∈ us, Sg s := fun t ht => hs t (by simp [ht])
    rcases hsl with ⟨d, rfl, hd⟩ | ⟨x, y, rfl, hx, hy⟩
    · rcases h with ⟨h, hl⟩ | ⟨h, hl⟩
      · simp at h; rw [← h]; exact hd
      · simp only [List.length_append, List.length_singleton] at h hl
        rw [show us.flatten.length + 1 - 2 = us.flatten.length - 1 by omega, List.getElem?_append_left (by omega)] at h
        exact ih us (by simpa using hn) hus c (.inl ⟨h, by omega⟩)
    · rcases h with ⟨h, hl⟩ | ⟨h, hl⟩
      · simp only [List.length_append, List.length_cons, List.length_nil] at h
        rw [show us.flatten.length + (0 + 1 + 1 + 1) - 1 = us.flatten.length + 2 by omega, List.getElem?_append_right (by omega), show us.flatten.length + 2 - us.flatten.length = 2 by omega] at h
        simp at h; rw [← h]; exact hy
      · simp only [List.length_append, List.length_cons, List.length_nil] at h
        rw [show us.flatten.length + (0 + 1 + 1 + 1) - 2 = us.flatten.length + 1 by omega, List.getElem?_append_right (by omega), show us.flatten.length + 1 - us.flatten.length = 1 by omega] at h
        simp at h; rw [← h]; exact hx
/-- how a row is cut -/
theorem cut_facts (ws : List (List Nat)) (hs : ∀ s ∈ ws, Sg s) (m : Nat) (hm : 4 ≤ m) (hl : ws.flatten.length = m + 1) :
    ∃ h s, cutK ws 0 m < ws.length ∧ ws[cutK ws 0 m]? = some s ∧ (ws.take (cutK ws 0 m)).flatten.length = h ∧ h < m ∧ m ≤ h + s.length ∧
      ((h = m - 1 - 2 ∧ ws.flatten[m - 1 - 2]? = some 61) ∨
       (h = m - 1 - 1 ∧ (∃ c, ws.flatten[m - 1 - 2]? = some c ∧ c ≠ 61) ∧ ws.flatten[m - 1 - 1]? = some 61) ∨
       (h = m - 1 ∧ (∃ c, ws.flatten[m - 1 - 2]? = some c ∧ c ≠ 61) ∧ (∃ c, ws.flatten[m - 1 - 1]? = some c ∧ c ≠ 61))) ∧
      ws.flatten.take h = (ws.take (cutK ws 0 m)).flatten ∧ ws.flatten.drop h = (ws.drop (cutK ws 0 m)).flatten ∧ (h ≠ m - 1 → ws.flatten[h]? = some 61) := by
  have hK : cutK ws 0 m < ws.length := by
    rcases Nat.lt_or_ge (cutK ws 0 m) ws.length with q | q
    · exact q
    · exfalso
      have hle := cutK_le ws 0 m
      have hKe : cutK ws 0 m = ws.length := by omega
      cases hws : ws.length with
      | zero =>
        have : ws = [] := List.eq_nil_of_length_eq_zero hws
        subst this; simp at hl
      | succ k =>
        obtain ⟨s, es⟩ : ∃ s, ws[k]? = some s := ⟨ws[k]'(by omega), List.getElem?_eq_getElem (by omega)⟩
        have := cutK_lt ws 0 m k s (by omega) es
        have e2 := flat_take ws k s es
        rw [show k + 1 = ws.length by omega, List.take_length] at e2
        have e3 := congrArg List.length e2
        rw [List.length_append] at e3
        omega
  obtain ⟨s, es⟩ : ∃ s, ws[cutK ws 0 m]? = some s := ⟨ws[cutK ws 0 m]'hK, List.getElem?_eq_getElem hK⟩
  have hge := cutK_ge ws 0 m s es
  have hlt : (ws.take (cutK ws 0 m)).flatten.length < m := by
    cases hk : cutK ws 0 m with
    | zero => simp; omega
    | succ k =>
      obtain ⟨t, et⟩ : ∃ t, ws[k]? = some t := ⟨ws[k]'(by omega), List.getElem?_eq_getElem (by omega)⟩
      have := cutK_lt ws 0 m k t (by omega) et
      rw [flat_take ws k t et, List.length_append]; omega
  generalize hh : (ws.take (cutK ws 0 m)).flatten.length = h at *
  have hsg := hs s (List.mem_of_getElem? es)
  have split : ws.flatten = (ws.take (cutK ws 0 m)).flatten ++ (ws.drop (cutK ws 0 m)).flatten := by
    conv => lhs; rw [← List.take_append_drop (cutK ws 0 m) ws, List.flatten_append]
  have hdrop : ws.drop (cutK ws 0 m) = s :: ws.drop (cutK ws 0 m + 1) := by
    rw [List.drop_eq_getElem_cons hK]
    rw [List.getElem?_eq_getElem hK] at es
    cases es; rfl
  have hpre : ∀ i, i < h → ws.flatten[i]? = (ws.take (cutK ws 0 m)).flatten[i]? := fun i hi => by
    rw [split, List.getElem?_append_left (by omega)]
  have hne : ∀ c, ((ws.take (cutK ws 0 m)).flatten[h - 1]? = some c ∧ 1 ≤ h ∨ (ws.take (cutK ws 0 m)).flatten[h - 2]? = some c ∧ 2 ≤ h) → c ≠ 61 := fun c q => by
    refine ends_ne (ws.take (cutK ws 0 m)) (fun t ht => hs t (List.mem_of_mem_take ht)) c ?_
    rw [hh]; exact q
  have some1 : ∀ i, i < h → ∃ c, (ws.take (cutK ws 0 m)).flatten[i]? = some c := fun i hi => ⟨(ws.take (cutK ws 0 m)).flatten[i]'(by omega), List.getElem?_eq_getElem (by omega)⟩
  have at_h : s.length = 3 → ws.flatten[h]? = some 61 := fun q => by
    rw [split, List.getElem?_append_right (by omega), hh, Nat.sub_self, hdrop]
    rcases hsg with ⟨c, rfl, _⟩ | ⟨x, y, rfl, _⟩
    · simp at q
    · simp
  refine ⟨h, s, hK, es, rfl, hlt, by omega, ?_, by rw [split, List.take_append_of_le_length (by omega), ← hh, List.take_length], by rw [split, List.drop_append_of_le_length (by omega), ← hh, List.drop_length, List.nil_append], ?_⟩
  · rcases hsg.len with hs1 | hs3
    · have hm1 : h = m - 1 := by omega
      right; right
      obtain ⟨c, hc⟩ := some1 (h - 2) (by omega)
      obtain ⟨d, hd⟩ := some1 (h - 1) (by omega)
      refine ⟨hm1, ⟨c, ?_, hne c (.inr ⟨hc, by omega⟩)⟩, ⟨d, ?_, hne d (.inl ⟨hd, by omega⟩)⟩⟩
      · rw [← hm1, hpre _ (by omega)]; exact hc
      · rw [← hm1, hpre _ (by omega)]; exact hd
    · rcases (by omega : h = m - 1 - 2 ∨ h = m - 1 - 1 ∨ h = m - 1) with q | q | q
      · left; exact ⟨q, q ▸ at_h hs3⟩
      · right; left
        obtain ⟨d, hd⟩ := some1 (h - 1) (by omega)
        refine ⟨q, ⟨d, ?_, hne d (.inl ⟨hd, by omega⟩)⟩, q ▸ at_h hs3⟩
        rw [show m - 1 - 2 = h - 1 by omega, hpre _ (by omega)]; exact hd
      · right; right
        obtain ⟨c, hc⟩ := some1 (h - 2) (by omega)
        obtain ⟨d, hd⟩ := some1 (h - 1) (by omega)
        refine ⟨q, ⟨c, ?_, hne c (.inr ⟨hc, by omega⟩)⟩, ⟨d, ?_, hne d (.inl ⟨hd, by omega⟩)⟩⟩
        · rw [← q, hpre _ (by omega)]; exact hc
        · rw [← q, hpre _ (by omega)]; exact hd
  · intro q
    rcases hsg.len with hs1 | hs3
    · omega
    · exact at_h hs3
end Mine

end
section
open PySem PySem.Calls PyProof.Rows PySem.W
set_option linter.unusedVariables false
set_option maxRecDepth 100000
namespace Mine
/-! body_encode -/
def encR (r : List Nat) : List Nat := (r.map encC).flatten
def pieces (m : Nat) (r : List Nat) : List (List Nat) := if (encR r).length ≤ m then [encR r] else [((r.map encC).take (cutK (r.map encC) 0 m)).flatten ++ [61], ((r.map encC).drop (cutK (r.map encC) 0 m)).flatten]
def rowOut (m : Nat) (r : List Nat) : List Nat := if (encR r).length ≤ m then encR r else brokenT (r.map encC) m
theorem joinT_cons {s a : List Nat} {l : List (List Nat)} (h : l ≠ []) : joinT s (a :: l) = a ++ s ++ joinT s l := by
  cases l with
  | nil => exact absurd rfl h
  | cons b l => rw [joinT]; simp
theorem joinT_app {s : List Nat} {b : List (List Nat)} (hb : b ≠ []) : ∀ {a : List (List Nat)}, a ≠ [] → joinT s (a ++ b) = joinT s a ++ s ++ joinT s b
  | [], h => absurd rfl h
  | [x], _ => by rw [List.singleton_append, joinT_cons hb]; rfl
  | x :: y :: a, _ => by
    rw [List.cons_append, joinT_cons (by simp), joinT_app hb (a := y :: a) (by simp), joinT_cons (a := x) (l := y :: a) (by simp)]
    simp
theorem pieces_ne (m : Nat) (r : List Nat) : pieces m r ≠ [] := by unfold pieces; split <;> simp
theorem pieces_join (m : Nat) (r : List Nat) : joinT [10] (pieces m r) = rowOut m r := by
  unfold pieces rowOut
  split
  · rfl
  · rw [joinT_cons (by simp)]; unfold brokenT; simp [joinT]
theorem joinT_pieces (m : Nat) : ∀ rows : List (List Nat), joinT [10] (rows.flatMap (pieces m)) = joinT [10] (rows.map (rowOut m))
  | [] => rfl
  | [r] => by simp [pieces_join, joinT]
  | r :: q :: rows => by
    have hne : (q :: rows).flatMap (pieces m) ≠ [] := by
      rw [List.flatMap_cons]; intro h; exact pieces_ne m q (List.append_eq_nil_iff.mp h).1
    rw [List.flatMap_cons, joinT_app hne (pieces_ne m r), joinT_pieces m (q :: rows), pieces_join, List.map_cons (a := r), joinT_cons (l := List.map (rowOut m) (q :: rows)) (by simp)]
theorem enc_join : ∀ rows : List (List Nat), (joinT [10] rows).flatMap encC = joinT [10] (rows.map encR)
  | [] => rfl
  | [r] => by simp [joinT, encR, List.flatMap_def]
  | r :: q :: rows => by
    rw [joinT_cons (by simp), List.flatMap_append, List.flatMap_append, enc_join (q :: rows), List.map_cons (a := r), joinT_cons (l := List.map encR (q :: rows)) (by simp), List.flatMap_def]
    rfl
theorem enc_facts : ∀ c ∈ [97, 46, 61, 233], (∀ d ∈ encC c, Unicode.isLineBreak d = false) ∧ ((encC c).getLast?.any fun e => [97, 46, 68, 57].contains e) = true ∧ 1 ≤ (encC c).length ∧ (encC c).length ≤ 3 := by decide +kernel
theorem enc_sg : ∀ c ∈ [97, 46, 61, 233], Sg (encC c) := by
  intro c hc
  simp only [List.mem_cons, List.not_mem_nil, or_false] at hc
  rcases hc with rfl | rfl | rfl | rfl
  · exact .inl ⟨97, by decide, by decide⟩
  · exact .inl ⟨46, by decide, by decide⟩
  · exact .inr ⟨51, 68, by decide, by decide, by decide⟩
  · exact .inr ⟨69, 57, by decide, by decide, by decide⟩
theorem tab_get {c : Nat} (h : c < 256) : encTab[c]? = some (encC c) := by
  unfold encTab; rw [List.getElem?_map, List.getElem?_range h]; rfl
theorem encR_ne {r : List Nat} (h : r ≠ []) (hp : Plain r) : encR r ≠ [] := by
  cases r with
  | nil => exact absurd rfl h
  | cons c r =>
    have := (enc_facts c (hp c (by simp))).2.2.1
    unfold encR; rw [List.map_cons, List.flatten_cons]
    intro q; rw [(List.append_eq_nil_iff.mp q).1] at this; simp at this
theorem encR_brk {r : List Nat} (hp : Plain r) : ∀ d ∈ encR r, Unicode.isLineBreak d = false := by
  intro d hd
  unfold encR at hd
  obtain ⟨s, hs, hd⟩ := List.mem_flatten.mp hd
  obtain ⟨c, hc, rfl⟩ := List.mem_map.mp hs
  exact (enc_facts c (hp c hc)).1 d hd
/-- the last sign of an encoded row -/
theorem encR_last {r : List Nat} (h : r ≠ []) (hp : Plain r) : ∃ e, (encR r)[(encR r).length - 1]? = some e ∧ e ∈ [97, 46, 68, 57] := by
  obtain ⟨us, c, rfl⟩ : ∃ us c, r = us ++ [c] := ⟨r.dropLast, r.getLast h, (List.dropLast_concat_getLast h).symm⟩
  have hf := enc_facts c (hp c (by simp))
  have e1 : encR (us ++ [c]) = encR us ++ encC c := by unfold encR; simp
  obtain ⟨e, he, hm⟩ : ∃ e, (encC c).getLast? = some e ∧ e ∈ [97, 46, 68, 57] := by
    have := hf.2.1
    cases q : (encC c).getLast? with
    | none => rw [q] at this; cases this
    | some e => rw [q] at this; exact ⟨e, rfl, by simpa using this⟩
  refine ⟨e, ?_, hm⟩
  have hne : encC c ≠ [] := by intro q; rw [q] at hf; simp at hf
  have hl : 0 < (encC c).length := List.length_pos_iff.mpr hne
  rw [e1, List.length_append, List.getElem?_append_right (by omega), show (encR us).length + (encC c).length - 1 - (encR us).length = (encC c).length - 1 by omega, ← List.getLast?_eq_getElem?]
  exact he
theorem no_blank : ∀ e ∈ [97, 46, 68, 57], (!(Builtin.Str.occurrences (tx [32, 9]) (tx [e]) 0 (tx [32, 9]).length 1).isEmpty) = false ∧ (!(Builtin.Str.occurrences (tx [13, 10]) (tx [e]) 0 (tx [13, 10]).length 1).isEmpty) = false := by decide +kernel
theorem joinT_last {rows : List (List Nat)} (h0 : rows ≠ []) (hr : ∀ r ∈ rows, r ≠ [] ∧ Plain r) : ∃ e, (joinT [10] (rows.map encR))[(joinT [10] (rows.map encR)).length - 1]? = some e ∧ e ∈ [97, 46, 68, 57] := by
  obtain ⟨us, c, rfl⟩ : ∃ us c, rows = us ++ [c] := ⟨rows.dropLast, rows.getLast h0, (List.dropLast_concat_getLast h0).symm⟩
  obtain ⟨e, he, hm⟩ := encR_last (hr c (by simp)).1 (hr c (by simp)).2
  refine ⟨e, ?_, hm⟩
  have hl : 0 < (encR c).length := List.length_pos_iff.mpr (encR_ne (hr c (by simp)).1 (hr c (by simp)).2)
  cases us with
  | nil => simpa [joinT] using he
  | cons u us =>
    rw [List.map_append, List.map_singleton, joinT_app (by simp) (by simp)]
    simp only [joinT, List.length_append]
    rw [List.getElem?_append_right (by simp; omega)]
    simp only [List.length_append]
    rw [show (joinT [10] (List.map encR (u :: us))).length + [10].length + (encR c).length - 1 - ((joinT [10] (List.map encR (u :: us))).length + [10].length) = (encR c).length - 1 by omega]
    exact he
section
variable {X : Cx} {n : Nat} {B : Base} {env : Env} {O : Own} {Γ : Gam}
theorem Ev.neg {e : Expr} {pos : Pos} {i : Int} (h : Ev X n B env O Γ e (.int i)) : Ev X n B env O Γ (.UnaryOp .USub e pos) (.int (-i)) := by
  intro A s S Q E ok F k
  refine UnaryOp_ (h A s S _ _ ok F fun S₁ v h₁ t₁ a₁ r₁ => ?_)
  cases r₁
  exact PyProof.Rows.neg_int (k S₁ _ h₁ _ a₁ (.int _ _))
theorem Ex1.ifSetO {t : Expr} {body orelse : List Stmt} {pos : Pos} {b : Bool} (x : Str) (d : D) (O₁ : Own) (ht : Tr X n B env O Γ t b) (h1 : b = true → Ex X n B env O Γ body fun f O' Γ' => f = .next ∧ O' = O₁ ∧ Γ' = (x, d) :: Γ) (h2 : b = false → Ex X n B env O Γ orelse fun f O' Γ' => f = .next ∧ O' = O₁ ∧ Γ' = (x, d) :: Γ) :
    Ex1 X n B env O Γ (.If t body orelse pos) fun f O' Γ' => f = .next ∧ O' = O₁ ∧ Γ' = (x, d) :: Γ := Ex1.if ht h1 h2
end
end Mine

end
section
open PySem PySem.Calls PyProof.Rows PySem.W
set_option linter.unusedVariables false
set_option maxRecDepth 100000
namespace Mine
section
variable {X : Cx} {n : Nat} {B : Base} {env : Env} {O : Own} {Γ : Gam}
theorem flat_len3 {r : List Nat} (hp : Plain r) : r.length ≤ (encR r).length := by
  induction r with
  | nil => exact Nat.zero_le _
  | cons c r ih =>
    have h1 := (enc_facts c (hp c (by simp))).2.2.1
    have h2 := ih fun d hd => hp d (by simp [hd])
    unfold encR at h2 ⊢
    simp only [List.map_cons, List.flatten_cons, List.length_append, List.length_cons]; omega
theorem joinT_len_le (b : Nat) : ∀ (rows : List (List Nat)), (∀ r ∈ rows, r.length ≤ b) → (joinT [10] rows).length ≤ rows.length * (b + 1)
  | [], _ => by simp [joinT]
  | [r], h => by have := h r (by simp); simp [joinT]; omega
  | r :: q :: rows, h => by
    have h1 := h r (by simp)
    have h2 := joinT_len_le b (q :: rows) fun t ht => h t (by simp [ht])
    rw [joinT_cons (by simp)]
    simp only [List.length_append, List.length_cons, List.length_nil] at h2 ⊢
    rw [Nat.succ_mul]; omega
theorem Ev.sliceRunS {value lo hi : Expr} {p pos : Pos} {l : List Nat} {a b : Nat} (h : Ev X n B env O Γ value (dS l)) (ha : Ev X n B env O Γ lo (.int a)) (hb : Ev X n B env O Γ hi (.int b)) (hab : a ≤ b) (hbl : b ≤ l.length) (hz : l.length ≤ sizeLine) :
    Ev X n B env O Γ (.Subscript value (.Slice (some lo) (some hi) none p) pos) (dS ((l.drop a).take (b - a))) := by
  have := Ev.sliceS (p := p) (pos := pos) h (EvP.some ha) (EvP.some hb) hz
  rwa [pickL_run l a b hab hbl] at this
theorem Ev.sliceFromS {value lo : Expr} {p pos : Pos} {l : List Nat} {a : Nat} (h : Ev X n B env O Γ value (dS l)) (ha : Ev X n B env O Γ lo (.int a)) (hbl : a ≤ l.length) (hz : l.length ≤ sizeLine) :
    Ev X n B env O Γ (.Subscript value (.Slice (some lo) none none p) pos) (dS (l.drop a)) := by
  have := Ev.sliceS (p := p) (pos := pos) h (EvP.some ha) EvP.none hz
  rwa [pickL_from l a hbl] at this
theorem pieces_sum (m : Nat) (r : List Nat) : ((pieces m r).map List.length).sum + (pieces m r).length ≤ (encR r).length + 3 := by
  unfold pieces
  split
  · simp
  · have : (encR r).length = ((r.map encC).take (cutK (r.map encC) 0 m)).flatten.length + ((r.map encC).drop (cutK (r.map encC) 0 m)).flatten.length := by
      unfold encR
      conv => lhs; rw [← List.take_append_drop (cutK (r.map encC) 0 m) (r.map encC), List.flatten_append, List.length_append]
    simp only [List.map_cons, List.map_nil, List.sum_cons, List.sum_nil, List.length_append, List.length_cons, List.length_nil]
    omega
theorem rows_sum (m b : Nat) : ∀ rows : List (List Nat), (∀ r ∈ rows, (encR r).length ≤ b) → ((rows.flatMap (pieces m)).map List.length).sum + (rows.flatMap (pieces m)).length ≤ rows.length * (b + 3)
  | [], _ => by simp
  | r :: rows, h => by
    have h1 := pieces_sum m r
    have h2 := rows_sum m b rows fun t ht => h t (by simp [ht])
    have h3 := h r (by simp)
    rw [List.flatMap_cons, List.map_append, List.sum_append, List.length_append, List.length_cons, Nat.succ_mul]
    omega
theorem enc_ok (T : Top X) (rows : List (List Nat)) (h0 : rows ≠ []) (hr : ∀ r ∈ rows, r ≠ [] ∧ Plain r) (m : Nat) (hm : 4 ≤ m) (hm2 : m ≤ 60) (hlen : ∀ r ∈ rows, (encR r).length ≤ m + 1) (hn : rows.length ≤ 6) :
    OpN X (n + 1) (fun vs => PySem.call (.ref T.fEnc) vs) [dS (joinT [10] rows), .int m] (dS (joinT [10] (rows.map (rowOut m)))) := by
  obtain ⟨aD, oD, vsD, mD, hoD, hdD, ⟨v76, vNL, rfl, r76, rNL⟩, md, c', doc, ho, hcd, _⟩ := T.dEnc
  have G := T.good
  have hzr : (joinT [10] rows).length ≤ 500 := by
    have := joinT_len_le (m + 1) rows fun r q => Nat.le_trans (flat_len3 (hr r q).2) (hlen r q)
    have := Nat.mul_le_mul hn (show m + 1 + 1 ≤ 62 by omega)
    omega
  have hze : (joinT [10] (rows.map encR)).length ≤ 500 := by
    have := joinT_len_le (m + 1) (rows.map encR) fun r q => by obtain ⟨t, ht, rfl⟩ := List.mem_map.mp q; exact hlen t ht
    rw [List.length_map] at this
    have := Nat.mul_le_mul hn (show m + 1 + 1 ≤ 62 by omega)
    omega
  have hbne : joinT [10] rows ≠ [] := by
    intro q
    obtain ⟨e, he, _⟩ := joinT_last h0 hr
    rw [← enc_join, q] at he; simp at he
  have hchar : ∀ c ∈ joinT [10] rows, c < 256 := by
    have : ∀ (rs : List (List Nat)), (∀ r ∈ rs, Plain r) → ∀ c ∈ joinT [10] rs, c < 256 := by
      intro rs
      induction rs with
      | nil => intro _ c hc; simp [joinT] at hc
      | cons r rs ih =>
        intro h c hc
        have hpl : ∀ c ∈ r, c < 256 := fun c hc => by
          have := h r (by simp) c hc
          simp only [List.mem_cons, List.not_mem_nil, or_false] at this; omega
        by_cases q : rs = []
        · subst q; exact hpl c (by simpa [joinT] using hc)
        · rw [joinT_cons q] at hc
          rcases List.mem_append.mp hc with hc | hc
          · rcases List.mem_append.mp hc with hc | hc
            · exact hpl c hc
            · simp at hc; omega
          · exact ih (fun r hr => h r (by simp [hr])) c hc
    exact this rows fun r q => (hr r q).2
  refine OpN.def (ns := ["body", "maxlinelen", "eol"]) (ds' := [dS (joinT [10] rows), .int m, dS [10]]) G ho rfl hcd rfl rfl ?_ (by decide) (by rfl) ?_
  · intro s S vs r le sub
    obtain ⟨_, _, rfl, ra, rb⟩ := r.inv_two; have r := ra; have r2 := rb
    exact ⟨[_, _, vNL], BindsTo.of_defaults rfl (sub _ _ (le _ _ hoD)) hdD rfl rfl, .cons r (.cons r2 (.cons (rNL.mono le) .nil))⟩
  · intro L B hB
    have t1 : decide ((m : Int) < 4) = false := decide_eq_false (by omega)
    refine Ex.ifFalse (Tr.compare (Ev.local rfl) Ev.cint (t1 ▸ Op2.ltI (m : Int) 4)) ?_
    refine Ex.ifFalse (Tr.cast (Tr.not (Tr.val (Ev.local rfl) (Tru.str _ (sz (by omega))))) (by simpa using hbne)) ?_
    obtain ⟨vT, hvT, hrT⟩ := T.tab
    have htr : OpN X n (fun vs => PySem.call (.builtin "str.translate") vs) [dS (joinT [10] rows), .list (encTab.map fun l => .str (tx l))] (dS (joinT [10] (rows.map encR))) := by
      rw [← enc_join]
      exact OpN.translate hbne (fun c hc => tab_get (hchar c hc)) hchar (by rw [enc_join]; exact sz (by omega))
    refine Ex.step (Ex1.assign (Ev.meth (Ev.local rfl) (fun A s S v pl Q E r k => by cases r; with_reducible exact GM.of (.str _ _) (typeIs_str _ _ _) F.slot_str_translate F.type_str_translate GM.noRef k) (EvL.cons (Ev.glob G hvT hrT) EvL.nil) htr) (.loc rfl)) ?_
    refine Ex.step (Ex1.assign (Ev.binop (Ev.cstr [61]) (Ev.local rfl) (Op2.addS [61] [10] (by decide))) (.loc rfl)) ?_
    refine Ex.step (Ex1.assign (Ev.binop (Ev.local rfl) Ev.cint (Op2.subI m 1)) (.loc rfl)) ?_
    refine Ex.cons (Ex1.ownNew (.loc rfl)) ?_ (fun f O Γ hn h => absurd h.1 hn)
    rintro O₀ Γ₀ ⟨_, a, -, rfl, rfl⟩
    refine Ex.step (Ex1.assign (Ev.appendAttr rfl (updO_self _ _ _)) (.loc rfl)) ?_
    have hspl : OpN X n (fun vs => PySem.call (.builtin "str.splitlines") vs) [dS (joinT [10] (rows.map encR))] (.list ((rows.map encR).map fun l => .str (tx l))) :=
      OpN.splitlines (by simpa using h0) (fun r q => by obtain ⟨t, ht, rfl⟩ := List.mem_map.mp q; exact ⟨encR_ne (hr t ht).1 (hr t ht).2, encR_brk (hr t ht).2⟩) (sz (by omega)) (by rw [List.length_map]; exact sz (by omega))
    refine Ex.cons (Ex1.for (fun i O Γ => O = updO noOwn a (((rows.take i).flatMap (pieces m)).map dS) ∧ Γ.lookup ("maxlinelen" : Str) = some (.int m) ∧ Γ.lookup ("maxlinelen1" : Str) = some (.int ((m : Int) - 1)) ∧ Γ.lookup ("body" : Str) = some (dS (joinT [10] (rows.map encR))) ∧ Γ.lookup ("eol" : Str) = some (dS [10]) ∧ Γ.lookup ("append" : Str) = some (.bm a) ∧ Γ.lookup ("encoded_body" : Str) = some (.own a))
      (EvIt.list (Ev.meth (Ev.local rfl) (fun A s S v pl Q E r k => by cases r; exact GM.splitlines k) EvL.nil hspl)) ⟨rfl, rfl, rfl, rfl, rfl, rfl, rfl⟩ ?_ (.loc rfl)) ?_ (fun f O Γ hn h => absurd h.1 hn)
    · rintro i d O Γ hd ⟨rfl, e1, e2, e3, e4, e5, e6⟩
      obtain ⟨r, hri, rfl⟩ : ∃ r, rows[i]? = some r ∧ d = dS (encR r) := by
        rw [List.getElem?_map, List.getElem?_map] at hd
        cases q : rows[i]? with
        | none => rw [q] at hd; cases hd
        | some r => rw [q] at hd; cases hd; exact ⟨r, rfl, rfl⟩
      have hrm := List.mem_of_getElem? hri
      obtain ⟨hrne, hrp⟩ := hr r hrm
      have hrl := hlen r hrm
      have hle1 : 1 ≤ (encR r).length := List.length_pos_iff.mpr (encR_ne hrne hrp)
      have hnext : (rows.take (i + 1)).flatMap (pieces m) = (rows.take i).flatMap (pieces m) ++ pieces m r := by
        rw [List.take_add_one, hri]; simp
      obtain ⟨e, he, hem⟩ := encR_last hrne hrp
      have hpn : ((rows.take i).flatMap (pieces m)).length ≤ 500 := by
        have q := rows_sum m (m + 1) (rows.take i) fun t ht => hlen t (List.mem_of_mem_take ht)
        have q2 := Nat.mul_le_mul (show (rows.take i).length ≤ 6 by rw [List.length_take]; omega) (show m + 1 + 3 ≤ 64 by omega)
        omega
      have hzl : (encR r).length ≤ sizeLine := sz (by omega)
      refine Ex.step (Ex1.assign Ev.cint (.loc rfl)) ?_
      refine Ex.step (Ex1.assign (Ev.binop (Ev.binop (Ev.call (EvV.blt G T.noLen rfl (by decide)) (EvL.cons (Ev.local rfl) EvL.nil) (.builtin _) (OpN.lenS hzl)) Ev.cint (Op2.subI _ _)) (Ev.local e1) (Op2.subI _ _)) (.loc rfl)) ?_
      refine Ex.cons (Ex1.while (fun kk O Γ => (Γ.lookup ("maxlinelen" : Str) = some (.int m) ∧ Γ.lookup ("maxlinelen1" : Str) = some (.int ((m : Int) - 1)) ∧ Γ.lookup ("body" : Str) = some (dS (joinT [10] (rows.map encR))) ∧ Γ.lookup ("eol" : Str) = some (dS [10]) ∧ Γ.lookup ("append" : Str) = some (.bm a) ∧ Γ.lookup ("encoded_body" : Str) = some (.own a) ∧
          Γ.lookup ("line" : Str) = some (dS (encR r)) ∧ Γ.lookup ("laststart" : Str) = some (.int (((encR r).length : Int) - 1 - m))) ∧
          ((kk = 0 ∧ ∃ (st : Nat) (first : List (List Nat)), pieces m r = first ++ [(encR r).drop st] ∧ st ≤ (encR r).length ∧ first.length ≤ 1 ∧ O = updO noOwn a (((rows.take i).flatMap (pieces m) ++ first).map dS) ∧ Γ.lookup ("start" : Str) = some (.int st) ∧ ¬ (st : Int) ≤ ((encR r).length : Int) - 1 - m) ∨
           (kk = 1 ∧ ¬ (encR r).length ≤ m ∧ O = updO noOwn a (((rows.take i).flatMap (pieces m)).map dS) ∧ Γ.lookup ("start" : Str) = some (.int 0)))) (if (encR r).length ≤ m then 0 else 1) ⟨⟨e1, e2, e3, e4, e5, e6, rfl, rfl⟩, ?_⟩ ?_) ?_ (fun f O Γ hn h => absurd h.1 hn)
      · by_cases q : (encR r).length ≤ m
        · rw [if_pos q]
          exact .inl ⟨rfl, 0, [], by unfold pieces; rw [if_pos q]; rfl, Nat.zero_le _, by decide, by simp, rfl, by omega⟩
        · rw [if_neg q]
          exact .inr ⟨rfl, q, rfl, rfl⟩
      · rintro kk O Γ ⟨⟨g1, g2, g3, g4, g5, g6, g7, g8⟩, ⟨rfl, st, first, hp, hst, hfl, rfl, g9, hnot⟩ | ⟨rfl, hlong, rfl, g9⟩⟩
        · refine ⟨false, ?_, ?_, ?_⟩
          · exact Tr.cast (Tr.compare (Ev.local g9) (Ev.local g8) (Op2.leI _ _)) (decide_eq_false hnot)
          · intro q; cases q
          · intro _; exact ⟨⟨g1, g2, g3, g4, g5, g6, g7, g8⟩, .inl ⟨rfl, st, first, hp, hst, hfl, rfl, g9, hnot⟩⟩
        · have hl1 : (encR r).length = m + 1 := by omega
          have t0 : decide ((0 : Int) ≤ ((encR r).length : Int) - 1 - m) = true := decide_eq_true (by omega)
          refine ⟨true, Tr.cast (Tr.compare (Ev.local g9) (Ev.local g8) (Op2.leI _ _)) t0, fun _ => ?_, fun q => by cases q⟩
          obtain ⟨h, s, hK, es, hh, hhm, hhs, hcase, htake, hdrop, hat⟩ := cut_facts (r.map encC) (fun s hs => by obtain ⟨c, hc, rfl⟩ := List.mem_map.mp hs; exact enc_sg c (hrp c hc)) m hm hl1
          have hat' : h ≠ m - 1 → (encR r)[h]? = some 61 := hat
          change (encR r).take h = _ at htake
          change (encR r).drop h = _ at hdrop
          have hpc : pieces m r = [(encR r).take h ++ [61]] ++ [(encR r).drop h] := by
            unfold pieces; rw [if_neg hlong, htake, hdrop]; rfl
          refine Ex.step (Ex1.assign (d := .int ((m - 1 : Nat))) (Ev.cast (Ev.binop (Ev.local g9) (Ev.local g2) (Op2.addI _ _)) (congrArg D.int (by omega))) (.loc rfl)) ?_
          refine Ex.step (Ex1.ifSetO "start" (.int h) (updO noOwn a (((rows.take i).flatMap (pieces m) ++ [(encR r).take h ++ [61]]).map dS)) (b := decide (h = m - 1 - 2)) ?_ (fun q => ?_) fun q => ?_) (Ex.nil ⟨rfl, 0, by decide, ⟨g1, g2, g3, g4, g5, g6, g7, g8⟩, .inl ⟨rfl, h, [(encR r).take h ++ [61]], hpc, by omega, Nat.le_refl _, rfl, rfl, by omega⟩⟩)
          · obtain ⟨c1, hc1, hb1⟩ : ∃ c, (encR r)[m - 1 - 2]? = some c ∧ ([c] == [61]) = decide (h = m - 1 - 2) := by
              rcases hcase with ⟨q1, q2⟩ | ⟨q1, ⟨c, q2, q3⟩, _⟩ | ⟨q1, ⟨c, q2, q3⟩, _⟩
              · exact ⟨61, q2, by rw [decide_eq_true q1]; rfl⟩
              · exact ⟨c, q2, by rw [decide_eq_false (by omega)]; simpa using q3⟩
              · exact ⟨c, q2, by rw [decide_eq_false (by omega)]; simpa using q3⟩
            exact Tr.cast (Tr.compare (Ev.sub (Ev.local g7) (Ev.binop (Ev.local rfl) Ev.cint (Op2.subI _ _)) (Op2.itemS (c := c1) (by omega) (by rw [show (((m - 1 : Nat) : Int) - 2).toNat = m - 1 - 2 by omega]; exact hc1) hzl)) (Ev.cstr [61]) (Op2.eqS [c1] [61])) hb1
          · have q := of_decide_eq_true q
            have eq1 : ((encR r).drop 0).take (m - 1 - 1 - 0) = (encR r).take h ++ [61] := by
              rw [List.drop_zero, show m - 1 - 1 - 0 = h + 1 by omega, List.take_add_one, hat' (by omega)]; rfl
            refine Ex.step (Ex1.appendB g5 (updO_self _ _ _) (Ev.cast (Ev.sliceRunS (a := 0) (b := m - 1 - 1) (Ev.local g7) (Ev.local g9) (Ev.cast (Ev.binop (Ev.local rfl) Ev.cint (Op2.subI _ _)) (congrArg D.int (by omega))) (by omega) (by omega) hzl) (congrArg dS eq1)) (sz (by rw [List.length_map]; omega))) ?_
            exact Ex.step (Ex1.assign (Ev.cast (Ev.binop (Ev.local rfl) Ev.cint (Op2.subI _ _)) (congrArg D.int (by omega))) (.loc rfl)) (Ex.nil ⟨rfl, by rw [updO_updO]; simp, rfl⟩)
          · have q := of_decide_eq_false q
            refine Ex.step (Ex1.ifSetO "start" (.int h) (updO noOwn a (((rows.take i).flatMap (pieces m) ++ [(encR r).take h ++ [61]]).map dS)) (b := decide (h = m - 1 - 1)) ?_ (fun q' => ?_) fun q' => ?_) (Ex.nil ⟨rfl, rfl, rfl⟩)
            · obtain ⟨c1, hc1, hb1⟩ : ∃ c, (encR r)[m - 1 - 1]? = some c ∧ ([c] == [61]) = decide (h = m - 1 - 1) := by
                rcases hcase with ⟨q1, q2⟩ | ⟨q1, _, q2⟩ | ⟨q1, _, ⟨c, q2, q3⟩⟩
                · exact absurd q1 q
                · exact ⟨61, q2, by rw [decide_eq_true q1]; rfl⟩
                · exact ⟨c, q2, by rw [decide_eq_false (by omega)]; simpa using q3⟩
              exact Tr.cast (Tr.compare (Ev.sub (Ev.local g7) (Ev.binop (Ev.local rfl) Ev.cint (Op2.subI _ _)) (Op2.itemS (c := c1) (by omega) (by rw [show (((m - 1 : Nat) : Int) - 1).toNat = m - 1 - 1 by omega]; exact hc1) hzl)) (Ev.cstr [61]) (Op2.eqS [c1] [61])) hb1
            · have q' := of_decide_eq_true q'
              have eq1 : ((encR r).drop 0).take (m - 1 - 0) = (encR r).take h ++ [61] := by
                rw [List.drop_zero, show m - 1 - 0 = h + 1 by omega, List.take_add_one, hat' (by omega)]; rfl
              refine Ex.step (Ex1.appendB g5 (updO_self _ _ _) (Ev.cast (Ev.sliceRunS (a := 0) (b := m - 1) (Ev.local g7) (Ev.local g9) (Ev.local rfl) (by omega) (by omega) hzl) (congrArg dS eq1)) (sz (by rw [List.length_map]; omega))) ?_
              exact Ex.step (Ex1.assign (Ev.cast (Ev.binop (Ev.local rfl) Ev.cint (Op2.subI _ _)) (congrArg D.int (by omega))) (.loc rfl)) (Ex.nil ⟨rfl, by rw [updO_updO]; simp, rfl⟩)
            · have q' := of_decide_eq_false q'
              have hh1 : h = m - 1 := by rcases hcase with ⟨q1, _⟩ | ⟨q1, _⟩ | ⟨q1, _⟩ <;> omega
              have eq1 : ((encR r).drop 0).take (m - 1 - 0) = (encR r).take h := by rw [List.drop_zero, hh1, Nat.sub_zero]
              refine Ex.step (Ex1.appendB g5 (updO_self _ _ _) (Ev.binop (Ev.cast (Ev.sliceRunS (a := 0) (b := m - 1) (Ev.local g7) (Ev.local g9) (Ev.local rfl) (by omega) (by omega) hzl) (congrArg dS eq1)) (Ev.cstr [61]) (Op2.addS _ _ (sz (by rw [List.length_take]; simp only [List.length_cons, List.length_nil]; omega)))) (sz (by rw [List.length_map]; omega))) ?_
              exact Ex.step (Ex1.assign (Ev.cast (Ev.local rfl) (congrArg D.int (by omega))) (.loc rfl)) (Ex.nil ⟨rfl, by rw [updO_updO]; simp, rfl⟩)
      · rintro O Γ ⟨_, ⟨g1, g2, g3, g4, g5, g6, g7, g8⟩, ⟨_, st, first, hp, hst, hfl, rfl, g9, _⟩ | ⟨q, _⟩⟩
        · have hb : (!(encR r).isEmpty && (false && true)) = false := by simp
          refine Ex.cons (Ψ := fun f O' Γ' => f = .next ∧ O' = updO noOwn a (((rows.take (i + 1)).flatMap (pieces m)).map dS) ∧ Γ'.lookup ("maxlinelen" : Str) = some (.int m) ∧ Γ'.lookup ("maxlinelen1" : Str) = some (.int ((m : Int) - 1)) ∧ Γ'.lookup ("body" : Str) = some (dS (joinT [10] (rows.map encR))) ∧ Γ'.lookup ("eol" : Str) = some (dS [10]) ∧ Γ'.lookup ("append" : Str) = some (.bm a) ∧ Γ'.lookup ("encoded_body" : Str) = some (.own a))
            (Ex1.if (b := false) (Tr.cast (Tr.boolop (TrA.and (Tr.val (Ev.local g7) (Tru.str _ hzl)) (fun _ => TrA.and (b₁ := false) (Tr.compare (Ev.sub (Ev.local g7) (Ev.neg Ev.cint) (Op2.itemSneg (c := e) (by decide) (by omega) (by rw [show (-1 + ((encR r).length : Int)).toNat = (encR r).length - 1 by omega]; exact he) hzl)) (Ev.cstr [32, 9]) ((no_blank e hem).1 ▸ Op2.inS [e] [32, 9])) (fun _ => TrA.andNil)))) hb) (fun q => nomatch q) fun _ => ?_) (fun O' Γ' h => Ex.nil h) (fun f O' Γ' hn h => absurd h.1 hn)
          refine Ex.step (Ex1.appendB g5 (updO_self _ _ _) (Ev.sliceFromS (Ev.local g7) (Ev.local g9) hst hzl) (sz ?_)) (Ex.nil ⟨rfl, ?_, g1, g2, g3, g4, g5, g6⟩)
          · rw [List.length_map, List.length_append]; omega
          · rw [updO_updO, hnext, hp]; simp
        · cases q
    · rintro O Γ ⟨_, rfl, e1, e2, e3, e4, e5, e6⟩
      obtain ⟨e, he, hem⟩ := joinT_last h0 hr
      obtain ⟨vC, hvC, hrC⟩ := T.crlf
      have hl1 : 1 ≤ (joinT [10] (rows.map encR)).length := by
        rcases Nat.eq_zero_or_pos (joinT [10] (rows.map encR)).length with q | q
        · rw [List.eq_nil_of_length_eq_zero q] at he; simp at he
        · exact q
      refine Ex.ifFalse (Tr.compare (Ev.sub (Ev.local e3) (Ev.neg Ev.cint) (Op2.itemSneg (c := e) (by decide) (by omega) (by rw [show (-1 + ((joinT [10] (rows.map encR)).length : Int)).toNat = (joinT [10] (rows.map encR)).length - 1 by omega]; exact he) (sz (by omega)))) (Ev.glob G hvC hrC) ((no_blank e hem).2 ▸ Op2.inS [e] [13, 10])) ?_
      refine Ex.freeze e6 (updO_self _ _ _) ?_
      refine Ex.ret (Ev.join (ts := (rows.take (((rows.map encR).map fun l => D.str (tx l)).length)).flatMap (pieces m)) (Ev.local e4) (Ev.local rfl) ?_) ⟨_, rfl, .inl ?_⟩
      · have q := rows_sum m (m + 1) rows hlen
        have q2 := Nat.mul_le_mul hn (show m + 1 + 3 ≤ 64 by omega)
        rw [show (rows.take (((rows.map encR).map fun l => D.str (tx l)).length)) = rows by simp]
        exact sz (by simp only [List.length_cons, List.length_nil]; omega)
      · simp [joinT_pieces]
end
end Mine

end
section
open PySem PySem.Calls PyProof.Rows PySem.W
set_option linter.unusedVariables false
set_option maxRecDepth 100000
set_option maxHeartbeats 4000000
namespace Mine
theorem str1 (c : Nat) : (⟨#[c]⟩ : Str) = tx [c] := rfl
theorem map_get {α : Type} {l : List α} {g : α → D} {i : Nat} {d : D} (h : (l.map g)[i]? = some d) : ∃ a, l[i]? = some a ∧ d = g a := by
  rw [List.getElem?_map] at h
  cases q : l[i]? with
  | none => rw [q] at h; cases h
  | some a => rw [q] at h; cases h; exact ⟨a, rfl, rfl⟩
theorem rowOut_le {m : Nat} {r : List Nat} (h : (encR r).length ≤ m) : rowOut m r = encR r := if_pos h
theorem range_get {m i : Nat} {d : D} (hd : ((List.range m).map fun i : Nat => D.int (i : Int))[i]? = some d) : d = .int i ∧ i < m := by
  have hi := (List.getElem?_eq_some_iff.mp hd).1
  rw [List.length_map, List.length_range] at hi
  rw [List.getElem?_map, List.getElem?_range hi] at hd
  cases hd
  exact ⟨rfl, hi⟩
section
variable {X : Cx} {n : Nat} {B : Base} {env : Env} {O : Own} {Γ : Gam}
theorem holds_ok (T : Top X) (rows : List (List Nat)) (h0 : rows ≠ []) (hr : ∀ r ∈ rows, r ≠ [] ∧ Plain r) (W : Nat) (hW : 5 ≤ W) (hW2 : W ≤ 60) (hlen : ∀ r ∈ rows, (encR r).length ≤ W) (hn : rows.length ≤ 6) :
    OpN X (n + 2) (fun vs => PySem.call (.ref T.fHolds) vs) [dP rows, .int W, .list (rows.map fun r => .bool (decide ((encR r).length = W)))] (.bool true) := by
  obtain ⟨md, c', doc, ho, hcd, _⟩ := T.dHolds
  have G := T.good
  refine OpN.def (ns := ["rows", "width", "first"]) (ds' := [dP rows, .int W, .list (rows.map fun r => .bool (decide ((encR r).length = W)))]) G ho rfl hcd rfl rfl ?_ (by decide) (by rfl) ?_
  · intro s S vs r _ _
    cases r with
    | cons r r' =>
    cases r' with
    | cons r2 r' =>
    cases r' with
    | cons r3 r' =>
    cases r'
    exact ⟨[_, _, _], BindsTo.of_eq rfl, .cons r (.cons r2 (.cons r3 .nil))⟩
  · intro L B hB
    have hWr : ∀ x, B.W x = true := fun x => by rw [hB]
    have hrz : ∀ r ∈ rows, r.length ≤ 60 := fun r q => Nat.le_trans (flat_len3 (hr r q).2) (Nat.le_trans (hlen r q) hW2)
    have hl6 : ∀ {α : Type} (g : List Nat → α), (rows.map g).length ≤ sizeLine := fun g => by rw [List.length_map]; exact sz (by omega)
    refine Ex.step (Ex1.assign (Ev.ofComp (CompD.map [] [] (ds := rows.map fun r => dP (r.map encC)) (EvIt.list (Ev.local rfl)) trivial trivial (fun C => trivial) rfl (by rw [List.length_map]; omega) (by simp) ?_)) (.cell rfl rfl (hWr _))) ?_
    · intro C B' i d e hd he
      obtain ⟨r, hri, rfl⟩ := map_get hd
      obtain ⟨r', hri', rfl⟩ := map_get he
      rw [hri] at hri'; cases hri'
      have hrm := List.mem_of_getElem? hri
      refine Ev.ofComp (CompD.map [] [] (EvIt.str (Ev.local rfl)) trivial trivial (fun C => trivial) rfl (by rw [List.length_map, tx_cps]; have := hrz r hrm; omega) (by rw [tx_cps]; simp) ?_)
      intro C B' i d e hd he
      rw [tx_cps] at hd
      obtain ⟨c, hci, rfl⟩ := map_get hd
      rw [List.map_map] at he
      obtain ⟨c2, hci', rfl⟩ := map_get he
      rw [hci] at hci'; cases hci'
      have hc := (hr r hrm).2 c (List.mem_of_getElem? hci)
      simp only [List.mem_cons, List.not_mem_nil, or_false] at hc
      rcases hc with rfl | rfl | rfl | rfl
      · exact Ev.ifexp (b := false) (Tr.compare (Ev.local rfl) (Ev.cstr [61]) (Op2.eqS [97] [61])) (fun q => by cases q) fun _ => Ev.ifexp (b := false) (Tr.compare (Ev.local rfl) (Ev.cstr [233]) (Op2.eqS [97] [233])) (fun q => by cases q) fun _ => Ev.local rfl
      · exact Ev.ifexp (b := false) (Tr.compare (Ev.local rfl) (Ev.cstr [61]) (Op2.eqS [46] [61])) (fun q => by cases q) fun _ => Ev.ifexp (b := false) (Tr.compare (Ev.local rfl) (Ev.cstr [233]) (Op2.eqS [46] [233])) (fun q => by cases q) fun _ => Ev.local rfl
      · exact Ev.ifexp (b := true) (Tr.compare (Ev.local rfl) (Ev.cstr [61]) (Op2.eqS [61] [61])) (fun _ => Ev.cstr [61, 51, 68]) fun q => by cases q
      · exact Ev.ifexp (b := false) (Tr.compare (Ev.local rfl) (Ev.cstr [61]) (Op2.eqS [233] [61])) (fun q => by cases q) fun _ => Ev.ifexp (b := true) (Tr.compare (Ev.local rfl) (Ev.cstr [233]) (Op2.eqS [233] [233])) (fun _ => Ev.cstr [61, 69, 57]) fun q => by cases q
    refine Ex.step (Ex1.assign (Ev.ofComp (CompD.map [] [] (ds := rows.map fun r => dS (encR r)) (EvIt.list (Ev.cell rfl)) trivial trivial (fun C => trivial) rfl (by rw [List.length_map]; omega) (by simp) ?_)) (.cell rfl rfl (hWr _))) ?_
    · intro C B' i d e hd he
      obtain ⟨r, hri, rfl⟩ := map_get hd
      obtain ⟨r', hri', rfl⟩ := map_get he
      rw [hri] at hri'; cases hri'
      have hrm := List.mem_of_getElem? hri
      have e1 : encR r = joinT [] (r.map encC) := (joinT_nil _).symm
      rw [e1]
      refine Ev.join (Ev.cstr []) (Ev.local rfl) ?_
      rw [sum_map_len]
      show (encR r).length + _ * 0 ≤ _
      exact sz (by have := hlen r hrm; omega)
    refine Ex.step (Ex1.ofComp (CompD.map [("written", L + 3), ("width", L + 1), ("whole", L + 4), ("first", L + 2)] [("written", .list (rows.map fun r => dP (r.map encC))), ("width", .int W), ("whole", .list (rows.map fun r => dS (encR r))), ("first", .list (rows.map fun r => .bool (decide ((encR r).length = W))))]
      (ds := rows.map fun r => dS (rowOut (W - 1) r)) (EvIt.range (m := rows.length) ?_ (range_small (by omega))) ⟨rfl, rfl, rfl, rfl, trivial⟩ ⟨⟨rfl, rfl⟩, ⟨rfl, rfl⟩, ⟨rfl, rfl⟩, ⟨rfl, rfl⟩, trivial⟩ (fun C => ⟨rfl, rfl, rfl, rfl, trivial⟩) rfl (by simp; omega) (by simp) ?_)) ?_
    · exact Ev.call (EvV.blt G T.noRange rfl (by decide)) (EvL.cons (Ev.cast (Ev.call (EvV.blt G T.noLen rfl (by decide)) (EvL.cons (Ev.local rfl) EvL.nil) (.builtin _) (OpN.lenL (hl6 dS))) (by rw [List.length_map])) EvL.nil) (.type _) OpN.range
    · intro C B' i d e hd he
      obtain ⟨rfl, hi⟩ := range_get hd
      obtain ⟨r, hri, rfl⟩ := map_get he
      have hrm := List.mem_of_getElem? hri
      have at1 : ∀ g : List Nat → D, pyAt (rows.map g) (i : Int) = some (g r) := fun g => by
        unfold pyAt; rw [if_neg (by omega)]; simp [hri]
      refine Ev.ifexp (Tr.val (Ev.sub (Ev.cell rfl) (Ev.local rfl) (Op2.itemP (at1 _) (hl6 _))) (Tru.bool _)) (fun q => ?_) fun q => ?_
      · have q := of_decide_eq_true q
        have e1 : rowOut (W - 1) r = brokenT (r.map encC) (W - 1) := if_neg (by omega)
        rw [e1]
        obtain ⟨h, s, hK, _⟩ := cut_facts (r.map encC) (fun s hs => by obtain ⟨c, hc, rfl⟩ := List.mem_map.mp hs; exact enc_sg c ((hr r hrm).2 c hc)) (W - 1) (by omega) (by show (encR r).length = _; omega)
        refine Ev.call (EvV.glob G T.mBroken) (EvL.cons (Ev.sub (Ev.cell rfl) (Ev.local rfl) (Op2.itemP (at1 _) (hl6 _))) (EvL.cons (Ev.cast (Ev.binop (Ev.cell rfl) Ev.cint (Op2.subI _ _)) (congrArg D.int (by omega))) EvL.nil)) T.kBroken (broken_ok T (r.map encC) (W - 1) hK (by show (encR r).length ≤ _; omega) (by rw [List.length_map]; have := hrz r hrm; omega))
      · have q := of_decide_eq_false q
        have e1 : rowOut (W - 1) r = encR r := if_pos (by have := hlen r hrm; omega)
        rw [e1]
        exact Ev.sub (Ev.cell rfl) (Ev.local rfl) (Op2.itemP (at1 _) (hl6 _))
    have hzr : (rows.map List.length).sum + rows.length * 1 ≤ sizeLine := by
      have : ∀ rs : List (List Nat), (∀ r ∈ rs, r.length ≤ 60) → (rs.map List.length).sum ≤ rs.length * 60 := by
        intro rs
        induction rs with
        | nil => intro _; simp
        | cons r rs ih =>
          intro h
          have h1 := h r (by simp)
          have h2 := ih fun t ht => h t (by simp [ht])
          simp only [List.map_cons, List.sum_cons, List.length_cons, Nat.succ_mul]; omega
      have := this rows hrz
      exact sz (by omega)
    refine Ex.step (Ex1.assign (Ev.join (ts := rows) (Ev.cstr [10]) (Ev.local rfl) hzr) (.loc rfl)) ?_
    have hze : ((rows.map encR).map List.length).sum + (rows.map encR).length * 1 ≤ sizeLine := by
      have : ∀ rs : List (List Nat), (∀ r ∈ rs, (encR r).length ≤ 60) → ((rs.map encR).map List.length).sum ≤ rs.length * 60 := by
        intro rs
        induction rs with
        | nil => intro _; simp
        | cons r rs ih =>
          intro h
          have h1 := h r (by simp)
          have h2 := ih fun t ht => h t (by simp [ht])
          simp only [List.map_cons, List.sum_cons, List.length_cons, Nat.succ_mul]; omega
      have := this rows fun r q => Nat.le_trans (hlen r q) hW2
      rw [List.length_map]
      exact sz (by omega)
    have hlo : ∀ r ∈ rows, (rowOut (W - 1) r).length ≤ 62 := fun r q => by
      have := hlen r q
      unfold rowOut
      split
      · omega
      · have e : (encR r).length = ((r.map encC).take (cutK (r.map encC) 0 (W - 1))).flatten.length + ((r.map encC).drop (cutK (r.map encC) 0 (W - 1))).flatten.length := by
          unfold encR
          conv => lhs; rw [← List.take_append_drop (cutK (r.map encC) 0 (W - 1)) (r.map encC), List.flatten_append, List.length_append]
        unfold brokenT
        simp only [List.length_append, List.length_cons, List.length_nil]; omega
    have hzo : ((rows.map (rowOut (W - 1))).map List.length).sum + (rows.map (rowOut (W - 1))).length * 1 ≤ sizeLine := by
      have : ∀ rs : List (List Nat), (∀ r ∈ rs, (rowOut (W - 1) r).length ≤ 62) → ((rs.map (rowOut (W - 1))).map List.length).sum ≤ rs.length * 62 := by
        intro rs
        induction rs with
        | nil => intro _; simp
        | cons r rs ih =>
          intro h
          have h1 := h r (by simp)
          have h2 := ih fun t ht => h t (by simp [ht])
          simp only [List.map_cons, List.sum_cons, List.length_cons, Nat.succ_mul]; omega
      have := this rows hlo
      rw [List.length_map]
      exact sz (by omega)
    have w1 : rows.map (rowOut W) = rows.map encR := List.map_congr_left fun r q => rowOut_le (hlen r q)
    have b1 : OpN X (n + 1) (fun vs => PySem.call (.ref T.fEnc) vs) [dS (joinT [10] rows), .int W] (dS (joinT [10] (rows.map encR))) := by
      rw [← w1]; exact enc_ok T rows h0 hr W (by omega) hW2 (fun r q => by have := hlen r q; omega) hn
    have b2 : OpN X (n + 1) (fun vs => PySem.call (.ref T.fEnc) vs) [dS (joinT [10] rows), .int ((W - 1 : Nat))] (dS (joinT [10] (rows.map (rowOut (W - 1))))) := enc_ok T rows h0 hr (W - 1) (by omega) (by omega) (fun r q => by have := hlen r q; omega) hn
    refine Ex.ret (Ev.compare (Ev.list (EvL.cons (Ev.call (EvV.glob G T.mEnc) (EvL.cons (Ev.local rfl) (EvL.cons (Ev.cell rfl) EvL.nil)) T.kEnc b1) (EvL.cons (Ev.call (EvV.glob G T.mEnc) (EvL.cons (Ev.local rfl) (EvL.cons (Ev.cast (Ev.binop (Ev.cell rfl) Ev.cint (Op2.subI _ _)) (congrArg D.int (by omega))) EvL.nil)) T.kEnc b2) EvL.nil)))
      (Ev.list (EvL.cons (Ev.join (ts := rows.map encR) (Ev.cstr [10]) (Ev.cast (Ev.cell rfl) (by rw [List.map_map]; rfl)) hze) (EvL.cons (Ev.join (ts := rows.map (rowOut (W - 1))) (Ev.cstr [10]) (Ev.cast (Ev.local rfl) (by rw [List.map_map]; rfl)) hzo) EvL.nil))) (Op2.eqL [true, true] rfl ?_ rfl)) ⟨_, rfl, .inl rfl⟩
    intro i d e q1 q2
    rw [q1] at q2; cases q2
    have hi : i < 2 := (List.getElem?_eq_some_iff.mp q1).1
    have q : ∀ p : List Nat, (p == p) = true := fun p => by simp
    match i, hi with
    | 0, _ => cases q1; exact q _ ▸ Eqs.str (joinT [10] (rows.map encR)) (joinT [10] (rows.map encR))
    | 1, _ => cases q1; exact q _ ▸ Eqs.str (joinT [10] (rows.map (rowOut (W - 1)))) (joinT [10] (rows.map (rowOut (W - 1))))
end
end Mine

end
section
open PySem PySem.Calls PyProof.Rows PySem.W
set_option linter.unusedVariables false
set_option maxRecDepth 100000
set_option maxHeartbeats 4000000
namespace Mine
theorem size_enc {l : List Nat} (h : Plain l) : sizeT l = ((encR l).length : Int) := by
  induction l with
  | nil => rfl
  | cons c l ih =>
    have hc := h c (by simp)
    have := ih fun d hd => h d (by simp [hd])
    unfold sizeT encR at this ⊢
    simp only [List.map_cons, List.sum_cons, List.flatten_cons, List.length_append] at this ⊢
    rw [this]
    simp only [List.mem_cons, List.not_mem_nil, or_false] at hc
    rcases hc with rfl | rfl | rfl | rfl
    · rw [show size1 97 = 1 by decide, show (encC 97).length = 1 by decide]; omega
    · rw [show size1 46 = 1 by decide, show (encC 46).length = 1 by decide]; omega
    · rw [show size1 61 = 3 by decide, show (encC 61).length = 3 by decide]; omega
    · rw [show size1 233 = 3 by decide, show (encC 233).length = 3 by decide]; omega
def rowT (p l : List Nat) : List Nat := [61, 46, 46] ++ p ++ l
theorem rowT_plain {p l : List Nat} (hp : Plain p) (hl : Plain l) : Plain (rowT p l) := by
  unfold rowT
  refine (Plain.app ?_ hp).app hl
  intro c hc
  simp only [List.mem_cons, List.not_mem_nil, or_false] at hc ⊢
  omega
theorem rowT_ne (p l : List Nat) : rowT p l ≠ [] := by unfold rowT; simp
theorem near3_any (a b c : Bool) : (near3 a b c).any (· == 0) = a ∧ (near3 a b c).any (· == 1) = b ∧ (near3 a b c).any (· == 2) = c := by
  cases a <;> cases b <;> cases c <;> decide
section
variable {X : Cx} {n : Nat} {B : Base} {env : Env} {O : Own} {Γ : Gam}
/-- three texts end to end -/
theorem Tr.or2 {e₁ e₂ : Expr} {pos : Pos} (h1 : Tr X n B env O Γ e₁ false) (h2 : Tr X n B env O Γ e₂ false) : Tr X n B env O Γ (.BoolOp .Or [e₁, e₂] pos) false :=
  Tr.boolop (TrA.or (b₁ := false) (b₂ := false) h1 fun _ => TrA.or (b₁ := false) (b₂ := false) h2 fun _ => TrA.orNil)
theorem met_ok (T : Top X) (l0 l1 l2 q0 q1 q2 : List Nat) (hl0 : Plain l0) (hl1 : Plain l1) (hl2 : Plain l2) (hq0 : Plain q0) (hq1 : Plain q1) (hq2 : Plain q2) (s0 s1 s2 M : Nat)
    (e0 : (encR (rowT q0 l0)).length = s0) (e1 : (encR (rowT q1 l1)).length = s1) (e2 : (encR (rowT q2 l2)).length = s2) (b0 : 5 ≤ s0 ∧ s0 ≤ 41) (b1 : 5 ≤ s1 ∧ s1 ≤ 41) (b2 : 5 ≤ s2 ∧ s2 ≤ 41) (hM : M = max3 s0 s1 s2) (hsp : M ≤ s0 + 18 ∧ M ≤ s1 + 18 ∧ M ≤ s2 + 18) :
    OpN X (n + 3) (fun vs => PySem.call (.ref T.fMet) vs) [dP [l0, l1, l2], dP [q0, q1, q2]] (.list [.int M, .list ((near3 (decide (s0 = M)) (decide (s1 = M)) (decide (s2 = M))).map .int)]) := by
  obtain ⟨md, c', doc, ho, hcd, _⟩ := T.dMet
  have G := T.good
  have p0 := rowT_plain hq0 hl0
  have p1 := rowT_plain hq1 hl1
  have p2 := rowT_plain hq2 hl2
  have z0 : (rowT q0 l0).length ≤ 41 := by have := flat_len3 p0; omega
  have z1 : (rowT q1 l1).length ≤ 41 := by have := flat_len3 p1; omega
  have z2 : (rowT q2 l2).length ≤ 41 := by have := flat_len3 p2; omega
  have hM5 : 5 ≤ M ∧ M ≤ 41 := by unfold max3 at hM; omega
  refine OpN.def (ns := ["line", "point"]) (ds' := [dP [l0, l1, l2], dP [q0, q1, q2]]) G ho rfl hcd rfl rfl ?_ (by decide) (by rfl) ?_
  · intro s S vs r _ _
    obtain ⟨_, _, rfl, ra, rb⟩ := r.inv_two; have r := ra; have r2 := rb
    exact ⟨[_, _], BindsTo.of_eq rfl, .cons r (.cons r2 .nil)⟩
  · intro L B hB
    have hWr : ∀ x, B.W x = true := fun x => by rw [hB]
    refine Ex.step (Ex1.ofComp (CompD.map [("point", L + 2), ("line", L + 1)] [("line", dP [l0, l1, l2]), ("point", dP [q0, q1, q2])] (ds := [dS (rowT q0 l0), dS (rowT q1 l1), dS (rowT q2 l2)])
      (EvIt.range (m := 3) (Ev.call (EvV.blt G T.noRange rfl (by decide)) (EvL.cons Ev.cint EvL.nil) (.type _) OpN.range) (range_small (by decide))) ⟨rfl, rfl, trivial⟩ ⟨⟨rfl, rfl⟩, ⟨rfl, rfl⟩, trivial⟩ (fun C => ⟨rfl, rfl, trivial⟩) rfl (by decide) rfl ?_)) ?_
    · intro C B' i d e hd he
      obtain ⟨rfl, hi⟩ := range3_get hd
      obtain ⟨q, l, hq, hl, rfl, hz⟩ : ∃ q l, pyAt ([q0, q1, q2].map dS) (i : Int) = some (dS q) ∧ pyAt ([l0, l1, l2].map dS) (i : Int) = some (dS l) ∧ e = dS (rowT q l) ∧ (rowT q l).length ≤ 41 := by
        match i, hi with
        | 0, _ => exact ⟨q0, l0, rfl, rfl, (Option.some.inj he).symm, z0⟩
        | 1, _ => exact ⟨q1, l1, rfl, rfl, (Option.some.inj he).symm, z1⟩
        | 2, _ => exact ⟨q2, l2, rfl, rfl, (Option.some.inj he).symm, z2⟩
      have hz' : 3 + q.length + l.length ≤ 41 := by unfold rowT at hz; simp only [List.length_append, List.length_cons, List.length_nil] at hz; omega
      exact Ev.binop (Ev.binop (Ev.cstr [61, 46, 46]) (Ev.sub (Ev.cell rfl) (Ev.local rfl) (Op2.itemP hq (Nat.le_of_ble_eq_true rfl))) (Op2.addS _ _ (sz (by show 3 + q.length ≤ 1000; omega)))) (Ev.sub (Ev.cell rfl) (Ev.local rfl) (Op2.itemP hl (Nat.le_of_ble_eq_true rfl))) (Op2.addS _ _ (sz (by rw [List.length_append]; show 3 + q.length + l.length ≤ 1000; omega)))
    refine Ex.step (Ex1.assign (Ev.call (EvV.glob G T.mSeen) (EvL.cons (Ev.ofComp (CompD.map [] [] (ds := [.int s0, .int s1, .int s2]) (EvIt.list (Ev.local rfl)) trivial trivial (fun C => trivial) rfl (Nat.le_of_ble_eq_true rfl) rfl ?_)) EvL.nil) T.kSeen (seen_ok T s0 s1 s2 b0 b1 b2 M hM hsp)) (.cell rfl rfl (hWr _))) ?_
    · intro C B' i d e hd he
      obtain ⟨r, sN, rfl, rfl, hp, hs, hz⟩ : ∃ (r : List Nat) (sN : Nat), d = dS r ∧ e = .int sN ∧ Plain r ∧ (encR r).length = sN ∧ r.length ≤ 41 := by
        have hi : i < 3 := (List.getElem?_eq_some_iff.mp hd).1
        match i, hi with
        | 0, _ => exact ⟨_, s0, (Option.some.inj hd).symm, (Option.some.inj he).symm, p0, e0, z0⟩
        | 1, _ => exact ⟨_, s1, (Option.some.inj hd).symm, (Option.some.inj he).symm, p1, e1, z1⟩
        | 2, _ => exact ⟨_, s2, (Option.some.inj hd).symm, (Option.some.inj he).symm, p2, e2, z2⟩
      exact Ev.cast (Ev.call (EvV.glob G T.mSize) (EvL.cons (Ev.local rfl) EvL.nil) T.kSize (size_ok T r hp (by omega))) (congrArg D.int (by rw [size_enc hp, hs]))
    have hh : OpN X (n + 2) (fun vs => PySem.call (.ref T.fHolds) vs) [dP [rowT q0 l0, rowT q1 l1, rowT q2 l2], .int M, .list [.bool (decide (s0 = M)), .bool (decide (s1 = M)), .bool (decide (s2 = M))]] (.bool true) := by
      have := holds_ok (X := X) (n := n) T [rowT q0 l0, rowT q1 l1, rowT q2 l2] (by simp) (fun r q => ?_) M hM5.1 (by omega) (fun r q => ?_) (by simp)
      · simpa [e0, e1, e2] using this
      · simp only [List.mem_cons, List.not_mem_nil, or_false] at q
        rcases q with rfl | rfl | rfl
        · exact ⟨rowT_ne _ _, p0⟩
        · exact ⟨rowT_ne _ _, p1⟩
        · exact ⟨rowT_ne _ _, p2⟩
      · simp only [List.mem_cons, List.not_mem_nil, or_false] at q
        unfold max3 at hM
        rcases q with rfl | rfl | rfl <;> omega
    refine Ex.ifFalse (Tr.or2 (Tr.compare (Ev.cell rfl) (Ev.list EvL.nil) (Op2.eqLens (by simp))) (Tr.cast (Tr.not (Tr.val (Ev.call (EvV.glob G T.mHolds) (EvL.cons (Ev.local rfl) (EvL.cons (Ev.sub (Ev.cell rfl) Ev.cint (Op2.itemP rfl (Nat.le_of_ble_eq_true rfl))) (EvL.cons (Ev.ofComp (CompD.map [("seen", L + 3)] [("seen", .list [.int M, .list ((near3 (decide (s0 = M)) (decide (s1 = M)) (decide (s2 = M))).map .int)])] (ds := [.bool (decide (s0 = M)), .bool (decide (s1 = M)), .bool (decide (s2 = M))])
      (EvIt.range (m := 3) (Ev.call (EvV.blt G T.noRange rfl (by decide)) (EvL.cons Ev.cint EvL.nil) (.type _) OpN.range) (range_small (by decide))) ⟨rfl, trivial⟩ ⟨⟨rfl, rfl⟩, trivial⟩ (fun C => ⟨rfl, trivial⟩) rfl (by decide) rfl ?_)) EvL.nil))) T.kHolds hh) (Tru.bool true))) rfl)) (Ex.ret (Ev.cell rfl) ⟨_, rfl, .inl rfl⟩)
    intro C B' i d e hd he
    obtain ⟨rfl, hi⟩ := range3_get hd
    obtain ⟨b, hb, rfl⟩ : ∃ b, (near3 (decide (s0 = M)) (decide (s1 = M)) (decide (s2 = M))).any (· == (i : Int)) = b ∧ e = .bool b := by
      have h3 := near3_any (decide (s0 = M)) (decide (s1 = M)) (decide (s2 = M))
      match i, hi with
      | 0, _ => exact ⟨_, h3.1, (Option.some.inj he).symm⟩
      | 1, _ => exact ⟨_, h3.2.1, (Option.some.inj he).symm⟩
      | 2, _ => exact ⟨_, h3.2.2, (Option.some.inj he).symm⟩
    rw [← hb]
    exact Ev.compare (Ev.local rfl) (Ev.sub (Ev.cell rfl) Ev.cint (Op2.itemP rfl (Nat.le_of_ble_eq_true rfl))) Op2.inI
end
end Mine

end
section
open PySem PySem.Calls PyProof.Rows PySem.W
set_option linter.unusedVariables false
set_option maxRecDepth 100000
set_option maxHeartbeats 4000000
namespace Mine
def eL (l : List Nat) : Nat := (encR l).length
theorem eL_app (a b : List Nat) : eL (a ++ b) = eL a + eL b := by unfold eL encR; simp
theorem eL_big {a b : List Nat} (ha : Plain a) (hb : Plain b) : eL (big a b) = max (eL a) (eL b) := by
  unfold big
  rw [size_enc ha, size_enc hb]
  unfold eL
  split <;> omega
theorem big_plain {a b : List Nat} (ha : Plain a) (hb : Plain b) : Plain (big a b) := by unfold big; split <;> assumption
theorem eL_row (p l : List Nat) : eL (rowT p l) = 5 + eL p + eL l := by
  unfold rowT
  rw [eL_app, eL_app]
  rfl
theorem nearNe (a b c : Bool) : (near3 a b c != [0]) = (b || c || !a) ∧ (near3 a b c != [1]) = (a || c || !b) ∧ (near3 a b c != [2]) = (a || b || !c) := by
  cases a <;> cases b <;> cases c <;> decide
theorem own_one {u v d M : Nat} (h : max (max u v) d = M) : (decide (u = M) || decide (v = M) || !decide (d = M)) = decide (max u v = M) := by
  rw [Bool.eq_iff_iff]
  simp only [Bool.or_eq_true, Bool.not_eq_true', decide_eq_true_eq, decide_eq_false_iff_not]
  omega
theorem own_size {a b c y z d1 d2 : Nat} (hb : b ≤ 9) (hc : c ≤ 9) (h1 : y + 32 - b = d1) (h2 : z + 32 - c = d2) : 5 + a + max (b + z) (c + y) + 32 = 5 + (a + b + c) + max d1 d2 := by omega
theorem own_eq {a p t e M W : Nat} (s : 5 + a + p + 32 = 5 + t + e) (h : 23 ≤ e) (hM : 23 ≤ M) (hle : e ≤ M) (hW : 5 + t + M - 32 = W) : decide (e = M) = decide (5 + a + p = W) ∧ 5 + a + p ≤ W := by
  refine ⟨decide_eq_decide.mpr ?_, ?_⟩ <;> omega
theorem own_60 {t M : Nat} (h : t ≤ 27) (h' : M ≤ 41) : 5 + t + M - 32 ≤ 60 := by omega
theorem own_dif {x a d : Nat} (ha : a ≤ 9) (hx : x ≤ 9) (h : x + 32 - a = d) : 23 ≤ d ∧ d ≤ 41 := by omega
theorem own_num {a b c x y z d0 d1 d2 M W : Nat} (ha : a ≤ 9) (hb : b ≤ 9) (hc : c ≤ 9) (hx : x ≤ 9) (hy : y ≤ 9) (hz : z ≤ 9)
    (hd0 : x + 32 - a = d0) (hd1 : y + 32 - b = d1) (hd2 : z + 32 - c = d2) (hM : max (max d0 d1) d2 = M) (hW : 5 + (a + b + c) + M - 32 = W) :
    ((decide (d1 = M) || decide (d2 = M) || !decide (d0 = M)) = decide (5 + a + max (b + z) (c + y) = W) ∧ (decide (d0 = M) || decide (d2 = M) || !decide (d1 = M)) = decide (5 + b + max (c + x) (a + z) = W) ∧
      (decide (d0 = M) || decide (d1 = M) || !decide (d2 = M)) = decide (5 + c + max (a + y) (b + x) = W)) ∧
    (5 + a + max (b + z) (c + y) ≤ W ∧ 5 + b + max (c + x) (a + z) ≤ W ∧ 5 + c + max (a + y) (b + x) ≤ W) ∧ 5 ≤ W ∧ W ≤ 60 ∧ (23 ≤ d0 ∧ d0 ≤ 41) ∧ (23 ≤ d1 ∧ d1 ≤ 41) ∧ (23 ≤ d2 ∧ d2 ≤ 41) := by
  have s0 := own_size (a := a) hb hc hd1 hd2
  have s1 := own_size (a := b) hc ha hd2 hd0
  have s2 := own_size (a := c) ha hb hd0 hd1
  rw [show b + c + a = a + b + c by ac_rfl, Nat.max_comm d2 d0] at s1
  rw [show c + a + b = a + b + c by ac_rfl] at s2
  have b0 := own_dif ha hx hd0
  have b1 := own_dif hb hy hd1
  have b2 := own_dif hc hz hd2
  have g2 : d2 ≤ M := hM ▸ Nat.le_max_right _ _
  have g1 : d1 ≤ M := hM ▸ Nat.le_trans (Nat.le_max_right _ _) (Nat.le_max_left _ _)
  have g0 : d0 ≤ M := hM ▸ Nat.le_trans (Nat.le_max_left _ _) (Nat.le_max_left _ _)
  have hM41 : M ≤ 41 := hM ▸ Nat.max_le.mpr ⟨Nat.max_le.mpr ⟨b0.2, b1.2⟩, b2.2⟩
  have hM23 := Nat.le_trans b0.1 g0
  have ht : a + b + c ≤ 27 := Nat.add_le_add (Nat.add_le_add ha hb) hc
  have m0 : max (max d1 d2) d0 = M := by rw [← hM]; ac_rfl
  have m1 : max (max d0 d2) d1 = M := by rw [← hM]; ac_rfl
  rw [own_one m0, own_one m1, own_one hM]
  have l0 : 23 ≤ max d1 d2 := Nat.le_trans b1.1 (Nat.le_max_left _ _)
  have l1 : 23 ≤ max d0 d2 := Nat.le_trans b0.1 (Nat.le_max_left _ _)
  have l2 : 23 ≤ max d0 d1 := Nat.le_trans b0.1 (Nat.le_max_left _ _)
  have w0 := own_eq s0 l0 hM23 (Nat.max_le.mpr ⟨g1, g2⟩) hW
  have w1 := own_eq s1 l1 hM23 (Nat.max_le.mpr ⟨g0, g2⟩) hW
  have w2 := own_eq s2 l2 hM23 (Nat.max_le.mpr ⟨g0, g1⟩) hW
  have h60 : W ≤ 60 := by rw [← hW]; exact own_60 ht hM41
  exact ⟨⟨w0.1, w1.1, w2.1⟩, ⟨w0.2, w1.2, w2.2⟩, Nat.le_trans (Nat.le_trans (Nat.le_add_right 5 a) (Nat.le_add_right _ _)) w0.2, h60, b0, b1, b2⟩
theorem own_row {a b c y z : Nat} (ha : a ≤ 9) (hb : b ≤ 9) (hc : c ≤ 9) (hy : y ≤ 9) (hz : z ≤ 9) : 5 + a + max (b + z) (c + y) ≤ 41 := by omega
section
variable {X : Cx} {n : Nat} {B : Base} {env : Env} {O : Own} {Γ : Gam}
theorem Op2.neOne {ns : List Int} {k : Int} : Op2 X n (compareOp .NotEq) (.list (ns.map .int)) (.list [.int k]) (.bool (ns != [k])) := by
  by_cases h : ns.length = 1
  · obtain ⟨x, rfl⟩ := List.length_eq_one_iff.mp h
    have := Op2.neL (X := X) (n := n) (xs := [.int x]) (ys := [.int k]) [x == k] rfl (fun i d e h1 h2 => by
      match i with
      | 0 => cases h1; cases h2; exact .int x k
      | i + 1 => simp at h1) rfl
    have e : (!([x == k].all id)) = ([x] != [k]) := by
      rw [Bool.eq_iff_iff]; simp
    rw [e] at this
    exact this
  · have := Op2.neLens (X := X) (n := n) (xs := ns.map .int) (ys := [.int k]) (by simpa using h)
    have e : (ns != [k]) = true := by
      rw [bne_iff_ne]; rintro rfl; exact h rfl
    rw [e]; exact this
theorem own_ok (T : Top X) (q0 q1 q2 o0 o1 o2 : List Nat) (hq0 : Plain q0) (hq1 : Plain q1) (hq2 : Plain q2) (ho0 : Plain o0) (ho1 : Plain o1) (ho2 : Plain o2)
    (a0 : eL q0 ≤ 9) (a1 : eL q1 ≤ 9) (a2 : eL q2 ≤ 9) (c0 : eL o0 ≤ 9) (c1 : eL o1 ≤ 9) (c2 : eL o2 ≤ 9) :
    OpN X (n + 3) (fun vs => PySem.call (.ref T.fOwn) vs) [dP [q0, q1, q2], dP [o0, o1, o2]] (.bool true) := by
  obtain ⟨md, c', doc, ho, hcd, _⟩ := T.dOwn
  have G := T.good
  have lq0 : q0.length ≤ 9 := Nat.le_trans (flat_len3 hq0) a0
  have lq1 : q1.length ≤ 9 := Nat.le_trans (flat_len3 hq1) a1
  have lq2 : q2.length ≤ 9 := Nat.le_trans (flat_len3 hq2) a2
  have lo0 : o0.length ≤ 9 := Nat.le_trans (flat_len3 ho0) c0
  have lo1 : o1.length ≤ 9 := Nat.le_trans (flat_len3 ho1) c1
  have lo2 : o2.length ≤ 9 := Nat.le_trans (flat_len3 ho2) c2
  generalize hd0 : eL o0 + 32 - eL q0 = d0
  generalize hd1 : eL o1 + 32 - eL q1 = d1
  generalize hd2 : eL o2 + 32 - eL q2 = d2
  generalize hM : max3 d0 d1 d2 = M
  have hM' : M = max3 d0 d1 d2 := hM.symm
  unfold max3 at hM
  generalize hl0 : big (q1 ++ o2) (q2 ++ o1) = l0
  generalize hl1 : big (q2 ++ o0) (q0 ++ o2) = l1
  generalize hl2 : big (q0 ++ o1) (q1 ++ o0) = l2
  have pl0 : Plain l0 := hl0 ▸ big_plain (hq1.app ho2) (hq2.app ho1)
  have pl1 : Plain l1 := hl1 ▸ big_plain (hq2.app ho0) (hq0.app ho2)
  have pl2 : Plain l2 := hl2 ▸ big_plain (hq0.app ho1) (hq1.app ho0)
  have s0 : eL (rowT q0 l0) = 5 + eL q0 + max (eL q1 + eL o2) (eL q2 + eL o1) := by rw [eL_row, ← hl0, eL_big (hq1.app ho2) (hq2.app ho1), eL_app, eL_app]
  have s1 : eL (rowT q1 l1) = 5 + eL q1 + max (eL q2 + eL o0) (eL q0 + eL o2) := by rw [eL_row, ← hl1, eL_big (hq2.app ho0) (hq0.app ho2), eL_app, eL_app]
  have s2 : eL (rowT q2 l2) = 5 + eL q2 + max (eL q0 + eL o1) (eL q1 + eL o0) := by rw [eL_row, ← hl2, eL_big (hq0.app ho1) (hq1.app ho0), eL_app, eL_app]
  generalize hW : 5 + (eL q0 + eL q1 + eL q2) + M - 32 = W
  have z0 : (rowT q0 l0).length ≤ 41 := Nat.le_trans (flat_len3 (rowT_plain hq0 pl0)) (by show eL _ ≤ 41; rw [s0]; exact own_row a0 a1 a2 c1 c2)
  have z1 : (rowT q1 l1).length ≤ 41 := Nat.le_trans (flat_len3 (rowT_plain hq1 pl1)) (by show eL _ ≤ 41; rw [s1]; exact own_row a1 a2 a0 c2 c0)
  have z2 : (rowT q2 l2).length ≤ 41 := Nat.le_trans (flat_len3 (rowT_plain hq2 pl2)) (by show eL _ ≤ 41; rw [s2]; exact own_row a2 a0 a1 c0 c1)
  obtain ⟨⟨f0, f1, f2⟩, ⟨w0, w1, w2⟩, hW5, hW60, ⟨b0, b0'⟩, ⟨b1, b1'⟩, b2, b2'⟩ := own_num a0 a1 a2 c0 c1 c2 hd0 hd1 hd2 hM hW
  rw [← s0] at f0 w0
  rw [← s1] at f1 w1
  rw [← s2] at f2 w2
  have k0 : (d0 : Int) = eL o0 - eL q0 + 32 := by clear f0 f1 f2 w0 w1 w2 s0 s1 s2 hW hM hM'; omega
  have k1 : (d1 : Int) = eL o1 - eL q1 + 32 := by clear f0 f1 f2 w0 w1 w2 s0 s1 s2 hW hM hM'; omega
  have k2 : (d2 : Int) = eL o2 - eL q2 + 32 := by clear f0 f1 f2 w0 w1 w2 s0 s1 s2 hW hM hM'; omega
  have kW : (5 : Int) + ((eL q0 + eL q1 + eL q2 : Nat) : Int) + M - 32 = W := by
    have : 23 ≤ M := by rw [← hM]; exact Nat.le_trans b2 (Nat.le_max_right _ _)
    clear f0 f1 f2 w0 w1 w2 s0 s1 s2 hM hM' k0 k1 k2
    omega
  have hM41 : M ≤ 41 := hM ▸ Nat.max_le.mpr ⟨Nat.max_le.mpr ⟨b0', b1'⟩, b2'⟩
  have sp : ∀ {d : Nat}, 23 ≤ d → M ≤ d + 18 := fun h => Nat.le_trans hM41 (Nat.add_le_add_right h 18)
  clear hW hM hd0 hd1 hd2
  refine OpN.def (ns := ["point", "other"]) (ds' := [dP [q0, q1, q2], dP [o0, o1, o2]]) G ho rfl hcd rfl rfl ?_ (by decide) (by rfl) ?_
  · intro s S vs r _ _
    obtain ⟨_, _, rfl, ra, rb⟩ := r.inv_two; have r := ra; have r2 := rb
    exact ⟨[_, _], BindsTo.of_eq rfl, .cons r (.cons r2 .nil)⟩
  · intro L B hB
    have hWr : ∀ x, B.W x = true := fun x => by rw [hB]
    have hth : OpN X (n + 2) (fun vs => PySem.call (.ref T.fThrough) vs) [dP [q0, q1, q2], dP [o0, o1, o2]] (dP [l0, l1, l2]) := by
      have := through_ok (X := X) (n := n) T q0 q1 q2 o0 o1 o2 hq0 hq1 hq2 ho0 ho1 ho2 (by omega) (by omega) (by omega) (by omega) (by omega) (by omega)
      change OpN X (n + 2) (fun vs => PySem.call (.ref T.fThrough) vs) [dP [q0, q1, q2], dP [o0, o1, o2]] (dP [big (q1 ++ o2) (q2 ++ o1), big (q2 ++ o0) (q0 ++ o2), big (q0 ++ o1) (q1 ++ o0)]) at this
      rw [hl0, hl1, hl2] at this
      exact this
    refine Ex.step (Ex1.assign (Ev.call (EvV.glob G T.mThrough) (EvL.cons (Ev.cell rfl) (EvL.cons (Ev.cell rfl) EvL.nil)) T.kThrough hth) (.cell rfl rfl (hWr _))) ?_
    refine Ex.step (Ex1.assign (Ev.call (EvV.glob G T.mSeen) (EvL.cons (Ev.ofComp (CompD.map [("point", L + 1), ("other", L + 2)] [("point", dP [q0, q1, q2]), ("other", dP [o0, o1, o2])] (ds := [.int d0, .int d1, .int d2])
      (EvIt.range (m := 3) (Ev.call (EvV.blt G T.noRange rfl (by decide)) (EvL.cons Ev.cint EvL.nil) (.type _) OpN.range) (range_small (by decide))) ⟨rfl, rfl, trivial⟩ ⟨⟨rfl, rfl⟩, ⟨rfl, rfl⟩, trivial⟩ (fun C => ⟨rfl, rfl, trivial⟩) rfl (by decide) rfl ?_)) EvL.nil) T.kSeen (seen_ok T d0 d1 d2 ⟨Nat.le_trans (by decide) b0, b0'⟩ ⟨Nat.le_trans (by decide) b1, b1'⟩ ⟨Nat.le_trans (by decide) b2, b2'⟩ M hM' ⟨sp b0, sp b1, sp b2⟩)) (.cell rfl rfl (hWr _))) ?_
    · intro C B' i d e hd he
      obtain ⟨rfl, hi⟩ := range3_get hd
      obtain ⟨q, o, dk, hq, hoo, rfl, pq, po, lq, lo, hdk⟩ : ∃ (q o : List Nat) (dk : Nat), pyAt ([q0, q1, q2].map dS) (i : Int) = some (dS q) ∧ pyAt ([o0, o1, o2].map dS) (i : Int) = some (dS o) ∧ e = .int dk ∧ Plain q ∧ Plain o ∧ q.length ≤ 9 ∧ o.length ≤ 9 ∧ (dk : Int) = eL o - eL q + 32 := by
        match i, hi with
        | 0, _ => exact ⟨q0, o0, d0, rfl, rfl, (Option.some.inj he).symm, hq0, ho0, lq0, lo0, k0⟩
        | 1, _ => exact ⟨q1, o1, d1, rfl, rfl, (Option.some.inj he).symm, hq1, ho1, lq1, lo1, k1⟩
        | 2, _ => exact ⟨q2, o2, d2, rfl, rfl, (Option.some.inj he).symm, hq2, ho2, lq2, lo2, k2⟩
      refine Ev.cast (Ev.binop (Ev.binop (Ev.call (EvV.glob G T.mSize) (EvL.cons (Ev.sub (Ev.cell rfl) (Ev.local rfl) (Op2.itemP hoo (Nat.le_of_ble_eq_true rfl))) EvL.nil) T.kSize (size_ok T o po (by omega))) (Ev.call (EvV.glob G T.mSize) (EvL.cons (Ev.sub (Ev.cell rfl) (Ev.local rfl) (Op2.itemP hq (Nat.le_of_ble_eq_true rfl))) EvL.nil) T.kSize (size_ok T q pq (by omega))) (Op2.subI _ _)) Ev.cint (Op2.addI _ _)) (congrArg D.int ?_)
      rw [size_enc po, size_enc pq]
      exact hdk.symm
    refine Ex.ifFalse (Tr.compare (Ev.cell rfl) (Ev.list EvL.nil) (Op2.eqLens (by simp))) ?_
    refine Ex.step (Ex1.ofComp (CompD.map [("point", L + 1), ("line", L + 3)] [("line", dP [l0, l1, l2]), ("point", dP [q0, q1, q2])] (ds := [dS (rowT q0 l0), dS (rowT q1 l1), dS (rowT q2 l2)])
      (EvIt.range (m := 3) (Ev.call (EvV.blt G T.noRange rfl (by decide)) (EvL.cons Ev.cint EvL.nil) (.type _) OpN.range) (range_small (by decide))) ⟨rfl, rfl, trivial⟩ ⟨⟨rfl, rfl⟩, ⟨rfl, rfl⟩, trivial⟩ (fun C => ⟨rfl, rfl, trivial⟩) rfl (by decide) rfl ?_)) ?_
    · intro C B' i d e hd he
      obtain ⟨rfl, hi⟩ := range3_get hd
      obtain ⟨q, l, hq, hl, rfl, hz⟩ : ∃ q l, pyAt ([q0, q1, q2].map dS) (i : Int) = some (dS q) ∧ pyAt ([l0, l1, l2].map dS) (i : Int) = some (dS l) ∧ e = dS (rowT q l) ∧ (rowT q l).length ≤ 41 := by
        match i, hi with
        | 0, _ => exact ⟨q0, l0, rfl, rfl, (Option.some.inj he).symm, z0⟩
        | 1, _ => exact ⟨q1, l1, rfl, rfl, (Option.some.inj he).symm, z1⟩
        | 2, _ => exact ⟨q2, l2, rfl, rfl, (Option.some.inj he).symm, z2⟩
      have hz' : 3 + q.length + l.length ≤ 41 := by unfold rowT at hz; simp only [List.length_append, List.length_cons, List.length_nil] at hz; omega
      exact Ev.binop (Ev.binop (Ev.cstr [61, 46, 46]) (Ev.sub (Ev.cell rfl) (Ev.local rfl) (Op2.itemP hq (Nat.le_of_ble_eq_true rfl))) (Op2.addS _ _ (sz (by show 3 + q.length ≤ 1000; omega)))) (Ev.sub (Ev.cell rfl) (Ev.local rfl) (Op2.itemP hl (Nat.le_of_ble_eq_true rfl))) (Op2.addS _ _ (sz (by rw [List.length_append]; show 3 + q.length + l.length ≤ 1000; omega)))
    have n3 := nearNe (decide (d0 = M)) (decide (d1 = M)) (decide (d2 = M))
    have hh : OpN X (n + 2) (fun vs => PySem.call (.ref T.fHolds) vs) [dP [rowT q0 l0, rowT q1 l1, rowT q2 l2], .int W, .list [.bool (decide (eL (rowT q0 l0) = W)), .bool (decide (eL (rowT q1 l1) = W)), .bool (decide (eL (rowT q2 l2) = W))]] (.bool true) := by
      refine holds_ok (X := X) (n := n) T [rowT q0 l0, rowT q1 l1, rowT q2 l2] (by simp) (fun r q => ?_) W hW5 hW60 (fun r q => ?_) (by simp)
      · simp only [List.mem_cons, List.not_mem_nil, or_false] at q
        rcases q with rfl | rfl | rfl
        · exact ⟨rowT_ne _ _, rowT_plain hq0 pl0⟩
        · exact ⟨rowT_ne _ _, rowT_plain hq1 pl1⟩
        · exact ⟨rowT_ne _ _, rowT_plain hq2 pl2⟩
      · simp only [List.mem_cons, List.not_mem_nil, or_false] at q
        rcases q with rfl | rfl | rfl
        · exact w0
        · exact w1
        · exact w2
    have hjl : (joinT [] [q0, q1, q2]) = q0 ++ q1 ++ q2 := by rw [joinT_nil]; simp
    have hsz : OpN X (n + 2) (fun vs => PySem.call (.ref T.fSize) vs) [dS (joinT [] [q0, q1, q2])] (.int ((eL q0 + eL q1 + eL q2 : Nat))) := by
      have pj : Plain (q0 ++ q1 ++ q2) := (hq0.app hq1).app hq2
      rw [hjl, ← eL_app, ← eL_app]
      have := size_ok (X := X) (n := n + 1) T (q0 ++ q1 ++ q2) pj (by simp; omega)
      rw [size_enc pj] at this
      exact this
    refine Ex.ret (Ev.call (EvV.glob G T.mHolds) (EvL.cons (Ev.local rfl) (EvL.cons (Ev.cast (Ev.binop (Ev.binop (Ev.binop Ev.cint (Ev.call (EvV.glob G T.mSize) (EvL.cons (Ev.join (ts := [q0, q1, q2]) (Ev.cstr []) (Ev.cell rfl) ?_) EvL.nil) T.kSize hsz) (Op2.addI _ _)) (Ev.sub (Ev.cell rfl) Ev.cint (Op2.itemP rfl (Nat.le_of_ble_eq_true rfl))) (Op2.addI _ _)) Ev.cint (Op2.subI _ _)) (congrArg D.int ?_)) (EvL.cons (Ev.ofComp (CompD.map [("seen", L + 4)] [("seen", .list [.int M, .list ((near3 (decide (d0 = M)) (decide (d1 = M)) (decide (d2 = M))).map .int)])] (ds := [.bool (decide (eL (rowT q0 l0) = W)), .bool (decide (eL (rowT q1 l1) = W)), .bool (decide (eL (rowT q2 l2) = W))])
      (EvIt.range (m := 3) (Ev.call (EvV.blt G T.noRange rfl (by decide)) (EvL.cons Ev.cint EvL.nil) (.type _) OpN.range) (range_small (by decide))) ⟨rfl, trivial⟩ ⟨⟨rfl, rfl⟩, trivial⟩ (fun C => ⟨rfl, trivial⟩) rfl (by decide) rfl ?_)) EvL.nil))) T.kHolds hh) ⟨_, rfl, .inl rfl⟩
    · exact sz (by show q0.length + (q1.length + (q2.length + 0)) + 3 * 0 ≤ 1000; clear f0 f1 f2 w0 w1 w2 s0 s1 s2 k0 k1 k2 kW; omega)
    · exact kW
    · intro C B' i d e hd he
      obtain ⟨rfl, hi⟩ := range3_get hd
      obtain ⟨b, hb, rfl⟩ : ∃ b, (near3 (decide (d0 = M)) (decide (d1 = M)) (decide (d2 = M)) != [(i : Int)]) = b ∧ e = .bool b := by
        match i, hi with
        | 0, _ => exact ⟨_, n3.1.trans f0, (Option.some.inj he).symm⟩
        | 1, _ => exact ⟨_, n3.2.1.trans f1, (Option.some.inj he).symm⟩
        | 2, _ => exact ⟨_, n3.2.2.trans f2, (Option.some.inj he).symm⟩
      rw [← hb]
      exact Ev.compare (Ev.sub (Ev.cell rfl) Ev.cint (Op2.itemP rfl (Nat.le_of_ble_eq_true rfl))) (Ev.list (EvL.cons (Ev.local rfl) EvL.nil)) Op2.neOne
end
end Mine

end
section
open PySem PySem.Calls PyProof.Rows PySem.W
set_option linter.unusedVariables false
set_option maxRecDepth 100000
set_option maxHeartbeats 4000000
namespace Mine
/-! ### a list comprehension with two generators -/
theorem compTurn_inner (elt target iter : Expr) (ifs : List Expr) (g : Comprehension) (scope : Scope) (pos : Pos) (it acc : Value) (env : Env) :
    compTurn (.ListComp elt [g, ⟨target, iter, ifs, 0⟩] scope pos) 1 it acc env = (do
      standAt iter.pos
      match ← pyNext it with
      | none => pure (.done .next)
      | some v =>
        letOwnedTupleGo target it v
        assign target env v
        let mut ok := true
        for c in ifs do
          if ok then ok ← isTrue c env (eval c env)
        if ok then
          (do let _ ← call (.builtin "list.append") [acc, ← eval elt env])
        again (.compLoop (.ListComp elt [g, ⟨target, iter, ifs, 0⟩] scope pos) 1 it acc env)) := by rfl
theorem compTurn_outer (elt target iter iter2 target2 : Expr) (ifs2 : List Expr) (scope : Scope) (pos : Pos) (it acc : Value) (env : Env) :
    compTurn (.ListComp elt [⟨target, iter, [], 0⟩, ⟨target2, iter2, ifs2, 0⟩] scope pos) 0 it acc env = (do
      standAt iter.pos
      match ← pyNext it with
      | none => pure (.done .next)
      | some v =>
        letOwnedTupleGo target it v
        assign target env v
        let x ← eval iter2 env
        standAt iter2.pos
        let x ← foldedSetIterable iter2 env x
        let _ ← runOwn (.compStart (.ListComp elt [⟨target, iter, [], 0⟩, ⟨target2, iter2, ifs2, 0⟩] scope pos) 1 (← holding [x] (pyIter x)) acc env) env
        again (.compLoop (.ListComp elt [⟨target, iter, [], 0⟩, ⟨target2, iter2, ifs2, 0⟩] scope pos) 0 it acc env)) := by rfl
section
variable {X : Cx} {n : Nat} {B : Base} {env : Env} {O : Own} {Γ : Gam}
theorem LoopPrin.inner {A : Around} {elt iter : Expr} {x : Str} {px pos : Pos} {ifs : List Expr} {g : Comprehension} {scope : Scope} {J Da : Addr} :
    LoopPrin X A env elt x px ifs J Da (.compLoop (.ListComp elt [g, ⟨.Name x px, iter, ifs, 0⟩] scope pos) 1 (.ref J) (.ref Da) env) := fun R s I turn n h => by
  refine codeAny_loop rfl I (fun n s hI => ?_) n h
  show wpAny _ A ((compTurn (.ListComp elt [g, ⟨.Name x px, iter, ifs, 0⟩] scope pos) 1 (.ref J) (.ref Da) env).onRaise (fun x => do noteFrame x env; theTreesLotGoes x)) _ _ s
  refine wpAny_noted ?_
  rw [compTurn_inner]
  refine wpAny_bind (wpAny_standAt (wpAny_bind (wpAny_mono (turn n s hI) (fun r s₁ h₁ => ?_) fun _ _ h' => h')))
  cases r with
  | none => exact wpAny_pure h₁
  | some v =>
    refine wpAny_bind (wpAny_of_eq (show letOwnedTupleGo (.Name x px) (.ref J) v = pure () from rfl) ?_)
    refine wpAny_bind (wpAny_mono h₁ (fun _ s₂ h₂ => wpAny_bind (wpAny_mono h₂ (fun ok s₃ h₃ => ?_) fun _ _ h' => h')) fun _ _ h' => h')
    cases ok with
    | false => exact wpAny_pure ⟨rfl, h₃⟩
    | true =>
      exact wpAny_bind (wpAny_bind (wpAny_mono h₃ (fun x s₄ h₄ => wpAny_bind (wpAny_mono h₄ (fun _ s₅ h₅ => wpAny_pure (wpAny_pure ⟨rfl, h₅⟩)) fun _ _ h' => h')) fun _ _ h' => h'))
theorem compStart_inner {A : Around} {elt t1 i1 t2 i2 : Expr} {ifs1 ifs2 : List Expr} {scope : Scope} {pos : Pos} {it acc : Value} {R : Result → Shared → Prop} {s : Shared}
    (h0 : codeAny X.M A (.compLoop (.ListComp elt [⟨t1, i1, ifs1, 0⟩, ⟨t2, i2, ifs2, 0⟩] scope pos) 1 it acc env) R s)
    (h : wpAny X.M A (pyIter it) (fun it' s' => codeAny X.M A (.compLoop (.ListComp elt [⟨t1, i1, ifs1, 0⟩, ⟨t2, i2, ifs2, 0⟩] scope pos) 1 it' acc env) R s') (notedBy X.M A env fun x s' => R (.error x) s') s) :
    codeAny X.M A (.compStart (.ListComp elt [⟨t1, i1, ifs1, 0⟩, ⟨t2, i2, ifs2, 0⟩] scope pos) 1 it acc env) R s := by
  refine codeAny_of_tree ?_
  show wpAny _ _ ((compStart (.ListComp elt [⟨t1, i1, ifs1, 0⟩, ⟨t2, i2, ifs2, 0⟩] scope pos) 1 it acc env).onRaise (fun x => do noteFrame x env; standAt theWindowsPlace)) _ _ s
  refine wpAny_notedAt ?_
  unfold compStart
  show wpAny _ _ (ask >>= _) _ _ s
  refine wpAny_bind (wpAny_askSetting (wpAny_ite ?_))
  split
  · first
      | exact wpAny_bind (wpAny_pure (wpAny_pure (And.intro rfl h0)))
      | exact wpAny_pure (And.intro rfl h0)
  · first
      | exact wpAny_bind (wpAny_rule (wpAny_bind (wpAny_standAt (wpAny_bind (wpAny_mono h (fun it' s' h' => wpAny_pure (And.intro rfl h')) fun _ _ x => x)))))
      | (refine wpAny_bind (wpAny_rule ?_); show wpAny _ _ (standAt i2.pos >>= _) _ _ s; exact wpAny_bind (wpAny_standAt (wpAny_bind (wpAny_mono h (fun it' s' h' => wpAny_pure (And.intro rfl h')) fun _ _ x => x))))
end
end Mine

end
section
open PySem PySem.Calls PyProof.Rows PySem.W
set_option linter.unusedVariables false
set_option maxRecDepth 100000
set_option maxHeartbeats 4000000
namespace Mine
def resTwo (p : Nat → Nat → Bool) (f : Nat → Nat → D) (m : Nat) : Nat → List D
  | 0 => []
  | i + 1 => resTwo p f m i ++ resOf (p i) (f i) m
theorem resTwo_len (p : Nat → Nat → Bool) (f : Nat → Nat → D) (m : Nat) : ∀ i, (resTwo p f m i).length ≤ i * m
  | 0 => by simp [resTwo]
  | i + 1 => by
    have h1 := resTwo_len p f m i
    have h2 := resOf_len (p i) (f i) m
    rw [resTwo, List.length_append, Nat.succ_mul]; omega
section
variable {X : Cx} {n : Nat} {B : Base} {env : Env} {O : Own} {Γ : Gam}
theorem comp_outer {A : Around} {s : Shared} {S : PM} {elt iter iter2 : Expr} {x y : Str} {px py pos : Pos} {ifs2 : List Expr} {scope : Scope} {J Da : Addr} {xs ys : List D} {fp : List Addr} {P : Nat → Value → Prop} {St : Nat → Heap → Prop} {p : Nat → Nat → Bool} {f : Nat → Nat → D}
    {R : Result → Shared → Prop} (ok : Ok n A) (F : Frm X B S env noOwn s.heap Γ) (it : ItAt X A S s.heap J xs fp P St) (oJ : Out B S env noOwn J) (oD : Out B S env noOwn Da) (hJD : J ≠ Da) (hacc : s.heap.PlainList Da #[])
    (stx : Sto B env x) (sty : Sto B env y) (hk : env.scope.kind = .function) (hxΓ : Γ.lookup x = none) (hyΓ : ∀ d, ((x, d) :: Γ).lookup y = none) (hsz : (xs.length + 1) * ys.length ≤ 1000)
    (hs2 : ∀ v, foldedSetIterable iter2 env v = pure v)
    (hit2 : ∀ (i : Nat) (d : D), xs[i]? = some d → EvIt X n B env noOwn ((x, d) :: Γ) iter2 ys)
    (htest : ∀ (i : Nat) (d : D) (j : Nat) (e : D), xs[i]? = some d → ys[j]? = some e → TrS X n B env noOwn ((y, e) :: (x, d) :: Γ) ifs2 (p i j)) (helt : ∀ (i : Nat) (d : D) (j : Nat) (e : D), xs[i]? = some d → ys[j]? = some e → p i j = true → Ev X n B env noOwn ((y, e) :: (x, d) :: Γ) elt (f i j))
    (hR : ∀ h' tk S' vs, Le S S' → (∀ b o, (s.heap.get? b).isSome = true → S' b = some o → S b = some o) → Frm X B S' env noOwn h' Γ → Out B S' env noOwn Da → h'.PlainList Da vs → RdL S' vs.toList (resTwo p f ys.length xs.length) → R (.ok .next) { s with heap := h', toks := tk }) :
    codeAny X.M A (.compLoop (.ListComp elt [⟨.Name x px, iter, [], 0⟩, ⟨.Name y py, iter2, ifs2, 0⟩] scope pos) 0 (.ref J) (.ref Da) env) R s := by
  have hw : ∀ {d : D} {y : Str} {e : D}, Γ.lookup y = some e → ((x, d) :: Γ).lookup y = some e := fun {d y e} h => by
    rw [List.lookup_cons]
    have : y ≠ x := by rintro rfl; rw [hxΓ] at h; cases h
    rw [beq_eq_false_iff_ne.mpr this]; exact h
  refine codeAny_loop rfl (fun kk s' => ∃ i S' h₂ t₂ vs, s' = { s with heap := h₂, toks := t₂ } ∧ i ≤ xs.length ∧ kk = xs.length + 1 - i ∧ St i h₂ ∧ Frm X B S' env noOwn h₂ Γ ∧ Out B S' env noOwn J ∧ Out B S' env noOwn Da ∧ h₂.PlainList Da vs ∧ RdL S' vs.toList (resTwo p f ys.length i) ∧ Le S S' ∧
      (∀ b o, (s.heap.get? b).isSome = true → S' b = some o → S b = some o) ∧ (∀ b, b ≠ J → (s.heap.get? b).isSome = true → (h₂.get? b).isSome = true)) ?_ (xs.length + 1) ⟨0, S, s.heap, s.toks, #[], rfl, Nat.zero_le _, rfl, it.st, F, oJ, oD, hacc, .nil, .refl S, fun _ _ _ e => e, fun _ _ e => e⟩
  rintro kk s' ⟨i, S', h₂, t₂, vs, rfl, hi, rfl, hst, F', oJ', oD', hpl, hrd, le, hnew, halv⟩
  show wpAny _ A ((compTurn (.ListComp elt [⟨.Name x px, iter, [], 0⟩, ⟨.Name y py, iter2, ifs2, 0⟩] scope pos) 0 (.ref J) (.ref Da) env).onRaise (fun x => do noteFrame x env; theTreesLotGoes x)) _ _ _
  refine wpAny_noted ?_
  rw [compTurn_outer]
  refine wpAny_bind (wpAny_standAt (wpAny_bind ?_))
  by_cases hlt : i < xs.length
  · refine it.W.item i _ _ _ hlt hst fun v h₃ t₃ hP hst₃ hk₃ => ?_
    have hk₃' : ∀ b o, b ≠ J → h₂.get? b = some o → h₃.get? b = some o := fun b o q e => hk₃ b o (by simpa using q) e
    have F₃ : Frm X B S' env noOwn h₃ Γ := F'.extBut oJ' hk₃'
    obtain ⟨d, hd⟩ : ∃ d, xs[i]? = some d := ⟨xs[i], by simp [hlt]⟩
    have alJ := it.stal _ _ hst₃
    have hpl₃ : h₃.PlainList Da vs := hpl.at fun o e => hk₃' _ _ (Ne.symm hJD) e
    have alD : (h₃.get? Da).isSome = true := by obtain ⟨k, hq⟩ := hpl₃; rw [hq]; rfl
    refine wpAny_bind (wpAny_of_eq (show letOwnedTupleGo (.Name x px) (.ref J) v = pure () from rfl) ?_)
    refine wpAny_bind (wpAny_assign_Name (storeName_F F₃ stx ((it.rd i v d hP hd).mono le) (kindOk_of hk) fun h₄ t₄ ev₄ F₄ => ?_))
    refine wpAny_bind (wpAny_mono (hit2 i d hd A _ S' (fun itv s₂ => wpAny X.M A (do let _ ← runOwn (.compStart (.ListComp elt [⟨.Name x px, iter, [], 0⟩, ⟨.Name y py, iter2, ifs2, 0⟩] scope pos) 1 itv (.ref Da) env) env; again (.compLoop (.ListComp elt [⟨.Name x px, iter, [], 0⟩, ⟨.Name y py, iter2, ifs2, 0⟩] scope pos) 0 (.ref J) (.ref Da) env)) _ _ s₂) _ ok F₄ fun S₅ h₅ J2 h₆ t₆ fp2 P2 St2 a₅ ext₆ hJ2 it2 => ?_)
      (fun v s₁ hv => wpAny_bind (wpAny_standAt (wpAny_bind (wpAny_of_eq (hs2 v) (wpAny_bind (wpAny_holding hv)))))) fun _ _ e => e)
    have a5' : Evo env noOwn S' h₃ noOwn S₅ h₅ := ev₄.trans a₅.evo
    have F₅ := F₄.adv a₅
    have oJ₅ := oJ'.evo a5' alJ
    have oD₅ := oD'.evo a5' alD
    have hpl₅ : h₅.PlainList Da vs := hpl₃.at fun o e => a5'.ext _ _ e oD'.l oD'.c oD'.o
    have al5 : ∀ b, (h₃.get? b).isSome = true → (h₅.get? b).isSome = true := a5'.alv
    have oJ2 : Out B S₅ env noOwn J2 := F₅.out hJ2
    have F₆ : Frm X B S₅ env noOwn h₆ ((x, d) :: Γ) := F₅.adv (Adv.of_ext F₅.sub ext₆)
    have hpl₆ : h₆.PlainList Da vs := hpl₅.at fun o e => ext₆ _ _ e
    have hJ2D : J2 ≠ Da := by rintro rfl; obtain ⟨k, hq⟩ := hpl₅; rw [hJ2] at hq; cases hq
    have hJ2J : J2 ≠ J := by rintro rfl; have := al5 _ alJ; rw [hJ2] at this; cases this
    have hlen : (resTwo p f ys.length i).length + ys.length ≤ sizeLine := by
      have h1 := resTwo_len p f ys.length i
      have h2 : i * ys.length ≤ xs.length * ys.length := Nat.mul_le_mul_right _ hi
      rw [Nat.succ_mul] at hsz
      exact sz (by omega)
    refine wpAny_bind (wpAny_runOwn ?_)
    have loop : ∀ R' : Result → Shared → Prop, (∀ h' tk S₇ vs', St (i + 1) h' → Frm X B S₇ env noOwn h' Γ → Out B S₇ env noOwn J → Out B S₇ env noOwn Da → h'.PlainList Da vs' → RdL S₇ vs'.toList (resTwo p f ys.length (i + 1)) → Le S S₇ → (∀ b o, (s.heap.get? b).isSome = true → S₇ b = some o → S b = some o) → (∀ b, b ≠ J → (s.heap.get? b).isSome = true → (h'.get? b).isSome = true) → R' (.ok .next) { s with heap := h', toks := tk }) →
        codeAny X.M A (.compLoop (.ListComp elt [⟨.Name x px, iter, [], 0⟩, ⟨.Name y py, iter2, ifs2, 0⟩] scope pos) 1 (.ref J2) (.ref Da) env) R' { s with heap := h₆, toks := t₆ } := by
      intro R' hR'
      refine comp_loop (ds₀ := resTwo p f ys.length i) (p := p i) (f := f i) .inner ok F₆ it2 oJ2 oD₅ hJ2D hpl₆ (hrd.mono (a5'.le)) sty hk (hyΓ d) hlen (fun j e he => htest i d j e hd he) (fun j e he => helt i d j e hd he) fun h' tk S₇ vs' ev hext F₇ oD₇ hpl₇ hr₇ => ?_
      have hold : ∀ b o, b ≠ J2 → b ≠ Da → b ≠ env.locals → (∀ y, env.cells.lookup y ≠ some b) → h₅.get? b = some o → h'.get? b = some o := fun b o n1 n2 n3 n4 e => hext b o n1 n2 n3 n4 (ext₆ b o e)
      have hJ' : ∀ o, h₃.get? J = some o → h'.get? J = some o := fun o e => hold J o (Ne.symm hJ2J) hJD oJ'.l oJ'.c (a5'.ext _ _ e oJ'.l oJ'.c oJ'.o)
      have hnew7 : ∀ b o, (h₆.get? b).isSome = true → S₇ b = some o → S₅ b = some o := fun b o e e' => ev.new b o e e' rfl
      have al36 : ∀ b, (h₃.get? b).isSome = true → (h₆.get? b).isSome = true := fun b e => by
        obtain ⟨o, q⟩ := Option.isSome_iff_exists.mp (al5 b e)
        rw [ext₆ _ _ q]; rfl
      have alv3 : ∀ b, (s.heap.get? b).isSome = true → (h₃.get? b).isSome = true := fun b e => by
        by_cases q : b = J
        · subst q; exact alJ
        · obtain ⟨o, e'⟩ := Option.isSome_iff_exists.mp (halv b q e)
          rw [hk₃' b o q e']; rfl
      refine hR' h' tk S₇ vs' ?_ (F₇.weaken fun y e => hw) ?_ oD₇ hpl₇ (by rw [resTwo]; exact hr₇) ((le.trans a5'.le).trans ev.le) ?_ ?_
      · refine it.W.frame _ _ _ hst₃ fun b hb o e => ?_
        by_cases hbJ : b = J
        · subst hbJ; exact hJ' o e
        · obtain ⟨o', hS⟩ := it.fp b hb hbJ
          have hs' := le _ _ hS
          have h1 := F₃.sub _ _ hs'
          rw [e] at h1; cases h1
          exact F₇.sub _ _ (ev.le _ _ (a5'.le _ _ hs'))
      · have hsJ : S₇ J = none := by
          cases q : S₇ J with
          | none => rfl
          | some o => have := hnew7 J o (al36 J alJ) q; rw [oJ₅.s] at this; cases this
        exact ⟨hsJ, oJ₅.H, oJ₅.l, oJ₅.c, oJ₅.o⟩
      · intro b o e e'
        exact hnew b o e (a5'.new b o (alv3 b e) (hnew7 b o (al36 b (alv3 b e)) e') rfl)
      · intro b n1 e
        have e3 := alv3 b e
        by_cases q1 : b = Da
        · subst q1; obtain ⟨k, hq⟩ := hpl₇; rw [hq]; rfl
        by_cases q2 : b = env.locals
        · subst q2; obtain ⟨m, ⟨o, es, ep, ho, _⟩, _⟩ := F₇.ns; rw [ho]; rfl
        by_cases q3 : ∃ z, env.cells.lookup z = some b
        · obtain ⟨z, hz⟩ := q3
          obtain ⟨_, ⟨o, ho, _⟩, _⟩ := F₇.cells z b hz
          rw [ho]; rfl
        have q4 : b ≠ J2 := by rintro rfl; have := al5 _ e3; rw [hJ2] at this; cases this
        obtain ⟨o, ho⟩ := Option.isSome_iff_exists.mp (al5 b e3)
        rw [hold b o q4 q1 q2 (fun z hz => q3 ⟨z, hz⟩) ho]; rfl
    refine compStart_inner (loop _ fun h' tk S₇ vs' g1 g2 g3 g4 g5 g6 g7 g8 g9 => ?_) (it2.W.self 0 _ _ _ it2.st (loop _ fun h' tk S₇ vs' g1 g2 g3 g4 g5 g6 g7 g8 g9 => ?_))
    · exact wpAny_pure ⟨rfl, xs.length + 1 - (i + 1), by omega, i + 1, S₇, h', tk, vs', rfl, hlt, rfl, g1, g2, g3, g4, g5, g6, g7, g8, g9⟩
    · exact wpAny_pure ⟨rfl, xs.length + 1 - (i + 1), by omega, i + 1, S₇, h', tk, vs', rfl, hlt, rfl, g1, g2, g3, g4, g5, g6, g7, g8, g9⟩
  · obtain rfl : i = xs.length := by omega
    refine it.W.done _ _ _ hst fun h₃ t₃ hk₃ => ?_
    have hk₃' : ∀ b o, b ≠ J → h₂.get? b = some o → h₃.get? b = some o := fun b o q e => hk₃ b o (by simpa using q) e
    exact wpAny_pure (hR h₃ t₃ S' vs le hnew (F'.extBut oJ' hk₃') oD' (hpl.at fun o e => hk₃' _ _ (Ne.symm hJD) e) hrd)
end
end Mine

end
section
open PySem PySem.Calls PyProof.Rows PySem.W
set_option linter.unusedVariables false
set_option maxRecDepth 100000
set_option maxHeartbeats 4000000
namespace Mine
section
variable {X : Cx} {n : Nat} {B : Base} {env : Env} {O : Own} {Γ : Gam}
/-- two generators, nothing captured -/
theorem CompD.two {elt iter iter2 : Expr} {x y : Str} {px py pos : Pos} {ifs2 : List Expr} {scope : Scope} {xs ys ds : List D} (p : Nat → Nat → Bool) (f : Nat → Nat → D) (hit : EvIt X n B env O Γ iter xs) (hsz : (xs.length + 1) * ys.length ≤ 1000) (hds : resTwo p f ys.length xs.length = ds) (hxy : x ≠ y)
    (hs2 : ∀ C v, foldedSetIterable iter2 (compEnvC scope [] C env) v = pure v)
    (hit2 : ∀ C B' (i : Nat) (d : D), xs[i]? = some d → EvIt X n B' (compEnvC scope [] C env) noOwn [(x, d)] iter2 ys)
    (htest : ∀ C B' (i : Nat) (d : D) (j : Nat) (e : D), xs[i]? = some d → ys[j]? = some e → TrS X n B' (compEnvC scope [] C env) noOwn [(y, e), (x, d)] ifs2 (p i j))
    (helt : ∀ C B' (i : Nat) (d : D) (j : Nat) (e : D), xs[i]? = some d → ys[j]? = some e → p i j = true → Ev X n B' (compEnvC scope [] C env) noOwn [(y, e), (x, d)] elt (f i j))
    (hcell : ∀ y ∈ scope.names, y.2 ≠ .cell := by decide) (hkind : scope.kind = .function := by rfl) (hx : scope.names.lookup x = some .local := by rfl) (hy : scope.names.lookup y = some .local := by rfl) :
    CompD X n B env O Γ (.ListComp elt [⟨.Name x px, iter, [], 0⟩, ⟨.Name y py, iter2, ifs2, 0⟩] scope pos) scope [] iter ds := by
  subst hds
  intro A s S RR E ok F k
  refine hit A s S _ _ ok F fun S₁ h₁ J h' tk fp P St a₁ ext hJ it => ?_
  have F₁ := F.adv a₁
  refine wpAny_newObj_type (wpAny_newFunctionEnv hcell (by intro y hy; simp at hy) (fun h₃ hns₃ hsb₃ => ?_) hkind)
  dsimp only at hns₃ hsb₃ ⊢
  generalize hH2 : h'.push { cls := .type "list", dict := none, data := .seq ([] : List Value).toArray } = H2 at hns₃ hsb₃ ⊢
  have hC : H2.objs.size = h'.objs.size + 1 := by rw [← hH2, Heap.size_push]
  have hDC : h'.objs.size ≠ H2.objs.size := by rw [hC]; exact Nat.ne_of_lt (Nat.lt_succ_self _)
  have fresh : ∀ a, h'.objs.size ≤ a → h'.get? a = none := fun a ha => by
    cases e : h'.get? a with
    | none => rfl
    | some o' => exact absurd (Heap.lt_size e) (Nat.not_lt.mpr ha)
  have hD0 := fresh _ (Nat.le_refl _)
  have hC0 : h'.get? H2.objs.size = none := fresh _ (by rw [hC]; exact Nat.le_succ _)
  have ext3 : Ext h' h₃ := fun b o e => hsb₃.extBut b o (fun q => by rw [q, hC0] at e; cases e) (Heap.get?_push_of_some _ (hH2 ▸ Heap.get?_push_of_some _ e))
  have hacc : h₃.PlainList h'.objs.size #[] := ⟨_, hsb₃.extBut _ _ hDC (Heap.get?_push_of_some _ (hH2 ▸ Heap.get?_push_size _ rfl))⟩
  have sees : Sees env scope [] Γ [] x := ⟨fun _ _ e => (by cases e), fun _ _ e => (by cases e), rfl⟩
  have Fc := comp_frame F₁ sees (none_of_ext ext hC0) (by simpa using hns₃) (ext.trans ext3) (fun y d e => by cases e) hkind
  have oJ : Out ⟨h₁, S₁, fun _ => false⟩ S₁ (compEnvC scope [] H2.objs.size env) noOwn J := ⟨(F₁.out hJ).s, hJ, (fun q => by have := it.al; rw [q] at this; rw [show (compEnvC scope [] H2.objs.size env).locals = H2.objs.size from rfl, hC0] at this; cases this), fun y e => (by cases e), rfl⟩
  have oD : Out ⟨h₁, S₁, fun _ => false⟩ S₁ (compEnvC scope [] H2.objs.size env) noOwn h'.objs.size := ⟨(F₁.out (none_of_ext ext hD0)).s, none_of_ext ext hD0, hDC, fun y e => (by cases e), rfl⟩
  have hJD : J ≠ h'.objs.size := fun q => by have := it.al; rw [q, hD0] at this; cases this
  have it3 : ItAt X A S₁ h₃ J xs fp P St := ⟨it.W, it.W.frame _ _ _ it.st fun b _ o e => ext3 b o e, it.fp, by obtain ⟨o, q⟩ := Option.isSome_iff_exists.mp it.al; rw [ext3 _ _ q]; rfl, it.stal, it.rd⟩
  have loop : ∀ s₃ : Shared, s₃ = { s with heap := h₃, toks := tk + ([] : List (Str × Value)).length } →
      codeAny X.M A (.compLoop (.ListComp elt [⟨.Name x px, iter, [], 0⟩, ⟨.Name y py, iter2, ifs2, 0⟩] scope pos) 0 (.ref J) (.ref h'.objs.size) (compEnvC scope [] H2.objs.size env)) (RR (.ref h'.objs.size) H2.objs.size) s₃ := by
    rintro s₃ rfl
    refine comp_outer (B := ⟨h₁, S₁, fun _ => false⟩) (p := p) (f := f) (ys := ys) ok Fc it3 oJ oD hJD hacc (.loc (lookup_relabel_local hx)) (.loc (lookup_relabel_local hy)) (by simp [compEnvC, relabel, hkind]) rfl (fun d => ?_) hsz (hs2 _) (hit2 H2.objs.size _) (htest H2.objs.size _) (helt H2.objs.size _) fun h₇ t₇ S₇ vs le new F' oD' hpl hrd => ?_
    · rw [List.lookup_cons, beq_eq_false_iff_ne.mpr (Ne.symm hxy)]; rfl
    obtain ⟨m, hm, _⟩ := F'.ns
    exact k _ _ h₇ t₇ S₇ vs m (a₁.trans ⟨le, F'.sub, F'.keep, F'.old⟩) (none_of_ext (a₁.ext.trans ext) hD0) (none_of_ext (a₁.ext.trans ext) hC0) F'.loc oD'.s hDC hm hpl hrd
  exact codeAny_compStart_list (loop _ rfl) (it3.W.self 0 _ _ _ it3.st (loop _ rfl))
end
end Mine

end
section
open PySem PySem.Calls PyProof.Rows PySem.W
set_option linter.unusedVariables false
set_option maxRecDepth 100000
set_option maxHeartbeats 4000000
namespace Mine
abbrev orders6 : List (Nat × Nat × Nat) := [(0, 1, 2), (0, 2, 1), (1, 0, 2), (1, 2, 0), (2, 0, 1), (2, 1, 0)]
abbrev ordD (o : Nat × Nat × Nat) : D := .list [.int o.1, .int o.2.1, .int o.2.2]
/-- a table of nine texts -/
abbrev rowD (t : Nat → Nat → List Nat) (k : Nat) : D := dP [t k 0, t k 1, t k 2]
abbrev tabD (t : Nat → Nat → List Nat) : D := .list [rowD t 0, rowD t 1, rowD t 2]
def six1 (t : Nat → Nat → List Nat) (o : Nat × Nat × Nat) : List Nat := [61, 46, 46] ++ t 0 o.1 ++ t 1 o.2.1 ++ t 2 o.2.2
abbrev nearL (b : Nat → Nat → Bool) (k : Nat) : List Int := near3 (b k 0) (b k 1) (b k 2)
abbrev nearD (b : Nat → Nat → Bool) : D := .list [.list ((nearL b 0).map .int), .list ((nearL b 1).map .int), .list ((nearL b 2).map .int)]
theorem nearL_any (b : Nat → Nat → Bool) (k j : Nat) (hj : j < 3) : (nearL b k).any (· == (j : Int)) = b k j := by
  have h := near3_any (b k 0) (b k 1) (b k 2)
  match j, hj with
  | 0, _ => exact h.1
  | 1, _ => exact h.2.1
  | 2, _ => exact h.2.2
theorem six1_plain {t : Nat → Nat → List Nat} (hp : ∀ i j, Plain (t i j)) (o : Nat × Nat × Nat) : Plain (six1 t o) := by
  unfold six1
  refine (((Plain.app ?_ (hp _ _)).app (hp _ _)).app (hp _ _))
  intro c hc
  simp only [List.mem_cons, List.not_mem_nil, or_false] at hc ⊢
  omega
theorem eL_six1 (t : Nat → Nat → List Nat) (o : Nat × Nat × Nat) : eL (six1 t o) = 5 + eL (t 0 o.1) + eL (t 1 o.2.1) + eL (t 2 o.2.2) := by
  unfold six1
  rw [eL_app, eL_app, eL_app]
  rfl
theorem ord_lt : ∀ o ∈ orders6, o.1 < 3 ∧ o.2.1 < 3 ∧ o.2.2 < 3 := by decide
section
variable {X : Cx} {n : Nat} {B : Base} {env : Env} {O : Own} {Γ : Gam}
theorem row_at (t : Nat → Nat → List Nat) (k j : Nat) (hj : j < 3) : pyAt ([t k 0, t k 1, t k 2].map dS) (j : Int) = some (dS (t k j)) := by
  match j, hj with
  | 0, _ => rfl
  | 1, _ => rfl
  | 2, _ => rfl
theorem look1 {α : Type} {k y : Str} {v c : α} (e : List.lookup y [(k, v)] = some c) : y = k ∧ c = v := by
  rw [List.lookup_cons] at e
  by_cases q : y = k
  · subst q; rw [beq_self_eq_true] at e; cases e; exact ⟨rfl, rfl⟩
  · rw [beq_eq_false_iff_ne.mpr q] at e; cases e
theorem six_ok (T : Top X) (t : Nat → Nat → List Nat) (hp : ∀ i j, Plain (t i j)) (hl : ∀ i j, eL (t i j) ≤ 9) (b : Nat → Nat → Bool) (W : Nat) (hW : 5 ≤ W) (hW2 : W ≤ 60)
    (hlen : ∀ o ∈ orders6, eL (six1 t o) ≤ W) (hb : ∀ o ∈ orders6, (b 0 o.1 && (b 1 o.2.1 && b 2 o.2.2)) = decide (eL (six1 t o) = W)) :
    OpN X (n + 3) (fun vs => PySem.call (.ref T.fSix) vs) [tabD t, .int W, nearD b] (.bool true) := by
  obtain ⟨md, c', doc, ho, hcd, _⟩ := T.dSix
  have G := T.good
  have hz : ∀ i j, (t i j).length ≤ 9 := fun i j => Nat.le_trans (flat_len3 (hp i j)) (hl i j)
  refine OpN.def (ns := ["table", "width", "near"]) (ds' := [tabD t, .int W, nearD b]) G ho rfl hcd rfl rfl ?_ (by decide) (by rfl) ?_
  · intro s S vs r _ _
    cases r with
    | cons r r' =>
    cases r' with
    | cons r2 r' =>
    cases r' with
    | cons r3 r' =>
    cases r'
    exact ⟨[_, _, _], BindsTo.of_eq rfl, .cons r (.cons r2 (.cons r3 .nil))⟩
  · intro L B hB
    have r3 : ∀ {B : Base} {env : Env} {O : Own} {Γ : Gam} {p p1 p2 : Pos} {k : Nat}, (env.kindOf "range" = some .globalImplicit) → env.scope.kind = .function → env.globals = mainGlobals → env.builtins = builtinsNs → EvIt X (n + 2) B env O Γ (.Call (.Name "range" p) [.Constant (.int 3) k p1] [] p2) ((List.range 3).map fun i : Nat => D.int (i : Int)) :=
      fun h1 h2 h3 h4 => EvIt.range (m := 3) (Ev.call (EvV.blt G T.noRange rfl (by decide) h1 h2 h3 h4) (EvL.cons Ev.cint EvL.nil) (.type _) OpN.range) (range_small (by decide))
    refine Ex.step (Ex1.ofComp (CompD.two (ds := orders6.map ordD) (fun i j => (i : Int) != j) (fun i j => .list [.int i, .int j, .int (3 - i - j)]) (r3 rfl rfl rfl rfl) (by decide) rfl (by decide) (fun C v => rfl) (fun C B' i d hd => r3 rfl rfl rfl rfl) ?_ ?_)) ?_
    · intro C B' i d j e hd he
      obtain ⟨rfl, hi⟩ := range_get hd
      obtain ⟨rfl, hj⟩ := range_get he
      exact TrS.one (Tr.compare (Ev.local rfl) (Ev.local rfl) (Op2.neI _ _))
    · intro C B' i d j e hd he _
      obtain ⟨rfl, hi⟩ := range_get hd
      obtain ⟨rfl, hj⟩ := range_get he
      exact Ev.list (EvL.cons (Ev.local rfl) (EvL.cons (Ev.local rfl) (EvL.cons (Ev.binop (Ev.binop Ev.cint (Ev.local rfl) (Op2.subI _ _)) (Ev.local rfl) (Op2.subI _ _)) EvL.nil)))
    refine Ex.step (Ex1.ofComp (CompD.map [("table", L + 1)] [("table", tabD t)] (ds := orders6.map fun o => dS (six1 t o)) (EvIt.list (Ev.local rfl)) ⟨rfl, trivial⟩ ⟨⟨rfl, rfl⟩, trivial⟩ (fun C => ⟨rfl, trivial⟩) rfl (by decide) rfl ?_)) ?_
    · intro C B' i d e hd he
      obtain ⟨o, hoi, rfl⟩ := map_get hd
      obtain ⟨o', hoi', rfl⟩ := map_get he
      rw [hoi] at hoi'; cases hoi'
      obtain ⟨h1, h2, h3⟩ := ord_lt o (List.mem_of_getElem? hoi)
      have z1 := hz 0 o.1
      have z2 := hz 1 o.2.1
      have z3 := hz 2 o.2.2
      exact Ev.binop (Ev.binop (Ev.binop (Ev.cstr [61, 46, 46])
        (Ev.sub (Ev.sub (Ev.cell rfl) Ev.cint (Op2.itemP (d := rowD t 0) rfl (Nat.le_of_ble_eq_true rfl))) (Ev.sub (Ev.local rfl) Ev.cint (Op2.itemP (d := .int o.1) rfl (Nat.le_of_ble_eq_true rfl))) (Op2.itemP (row_at t 0 o.1 h1) (Nat.le_of_ble_eq_true rfl))) (Op2.addS _ _ (sz (by show 3 + (t 0 o.1).length ≤ 1000; omega))))
        (Ev.sub (Ev.sub (Ev.cell rfl) Ev.cint (Op2.itemP (d := rowD t 1) rfl (Nat.le_of_ble_eq_true rfl))) (Ev.sub (Ev.local rfl) Ev.cint (Op2.itemP (d := .int o.2.1) rfl (Nat.le_of_ble_eq_true rfl))) (Op2.itemP (row_at t 1 o.2.1 h2) (Nat.le_of_ble_eq_true rfl))) (Op2.addS _ _ (sz (by rw [List.length_append]; show 3 + (t 0 o.1).length + _ ≤ 1000; omega))))
        (Ev.sub (Ev.sub (Ev.cell rfl) Ev.cint (Op2.itemP (d := rowD t 2) rfl (Nat.le_of_ble_eq_true rfl))) (Ev.sub (Ev.local rfl) Ev.cint (Op2.itemP (d := .int o.2.2) rfl (Nat.le_of_ble_eq_true rfl))) (Op2.itemP (row_at t 2 o.2.2 h3) (Nat.le_of_ble_eq_true rfl))) (Op2.addS _ _ (sz (by rw [List.length_append, List.length_append]; show 3 + (t 0 o.1).length + _ + _ ≤ 1000; omega)))
    have hh : OpN X (n + 2) (fun vs => PySem.call (.ref T.fHolds) vs) [.list (orders6.map fun o => dS (six1 t o)), .int W, .list (orders6.map fun o => .bool (decide (eL (six1 t o) = W)))] (.bool true) := by
      have := holds_ok (X := X) (n := n) T (orders6.map (six1 t)) (by simp) (fun r q => ?_) W hW hW2 (fun r q => ?_) (by simp)
      · exact this
      · obtain ⟨o, _, rfl⟩ := List.mem_map.mp q
        exact ⟨by unfold six1; simp, six1_plain hp o⟩
      · obtain ⟨o, hom, rfl⟩ := List.mem_map.mp q
        exact hlen o hom
    refine Ex.ret (Ev.call (EvV.glob G T.mHolds) (EvL.cons (Ev.local rfl) (EvL.cons (Ev.local rfl) (EvL.cons (Ev.ofComp (ds := orders6.map fun o => .bool (decide (eL (six1 t o) = W))) (cl := [("near", L + 2)]) ?_) EvL.nil))) T.kHolds hh) ⟨_, rfl, .inl rfl⟩
    have hd6 : resOf (fun _ => true) (fun i => ((orders6.map fun o => D.bool (decide (eL (six1 t o) = W))).getD i .none)) (orders6.map ordD).length = orders6.map fun o => .bool (decide (eL (six1 t o) = W)) := by rfl
    rw [← hd6]
    refine CompD.cellx (Γc := [("near", nearD b)]) (fun _ => true) _ (EvIt.list (Ev.local rfl)) ⟨fun y c e => ?_, fun y d e => ?_, rfl⟩ (fun C y d e => ?_) (sz (by decide)) (fun C B' i d _ => TrS.nil) ?_
    · obtain ⟨rfl, rfl⟩ := look1 e
      rfl
    · obtain ⟨rfl, rfl⟩ := look1 e
      exact ⟨rfl, rfl⟩
    · obtain ⟨rfl, rfl⟩ := look1 e
      rw [show (compEnvC _ _ C _).kindOf "near" = some NameKind.cell from rfl]
      decide
    · intro C B' i d hd _
      obtain ⟨o, hoi, rfl⟩ := map_get hd
      have hom := List.mem_of_getElem? hoi
      obtain ⟨h1, h2, h3⟩ := ord_lt o hom
      rw [List.getD_eq_getElem?_getD, List.getElem?_map, hoi]
      show Ev _ _ _ _ _ _ _ (.bool (decide (eL (six1 t o) = W)))
      rw [← hb o hom]
      have hall : OpN X (n + 2) (fun vs => PySem.call (.builtin "all") vs) [.list [.bool (b 0 o.1), .bool (b 1 o.2.1), .bool (b 2 o.2.2)]] (.bool (b 0 o.1 && (b 1 o.2.1 && b 2 o.2.2))) := by
        have := OpN.all (X := X) (n := n + 2) (bs := [b 0 o.1, b 1 o.2.1, b 2 o.2.2])
        simpa using this
      refine Ev.call (EvV.blt G T.noAll rfl (by decide)) (EvL.cons (Ev.ofComp (CompD.map [("one", C + 1), ("near", L + 2)] [("one", ordD o), ("near", nearD b)] (ds := [.bool (b 0 o.1), .bool (b 1 o.2.1), .bool (b 2 o.2.2)]) (r3 rfl rfl rfl rfl) ⟨rfl, rfl, trivial⟩ ⟨⟨rfl, rfl⟩, ⟨rfl, rfl⟩, trivial⟩ (fun C => ⟨rfl, rfl, trivial⟩) rfl (by decide) rfl ?_)) EvL.nil) (.builtin _) hall
      intro C' B'' i d e hd he
      obtain ⟨rfl, hi⟩ := range_get hd
      obtain ⟨j, hj, q1, q2⟩ : ∃ j : Nat, j < 3 ∧ pyAt [D.int o.1, D.int o.2.1, D.int o.2.2] (i : Int) = some (.int j) ∧ e = .bool ((nearL b i).any (· == (j : Int))) := by
        match i, hi with
        | 0, _ => exact ⟨o.1, h1, rfl, by rw [nearL_any b 0 _ h1]; exact (Option.some.inj he).symm⟩
        | 1, _ => exact ⟨o.2.1, h2, rfl, by rw [nearL_any b 1 _ h2]; exact (Option.some.inj he).symm⟩
        | 2, _ => exact ⟨o.2.2, h3, rfl, by rw [nearL_any b 2 _ h3]; exact (Option.some.inj he).symm⟩
      have q3 : pyAt [D.list ((nearL b 0).map .int), .list ((nearL b 1).map .int), .list ((nearL b 2).map .int)] (i : Int) = some (.list ((nearL b i).map .int)) := by
        match i, hi with
        | 0, _ => rfl
        | 1, _ => rfl
        | 2, _ => rfl
      rw [q2]
      exact Ev.compare (Ev.sub (Ev.cell rfl) (Ev.local rfl) (Op2.itemP q1 (Nat.le_of_ble_eq_true rfl))) (Ev.sub (Ev.cell rfl) (Ev.local rfl) (Op2.itemP q3 (Nat.le_of_ble_eq_true rfl))) Op2.inI
end
end Mine

end
section
open PySem PySem.Calls PyProof.Rows PySem.W
set_option linter.unusedVariables false
set_option maxRecDepth 100000
set_option maxHeartbeats 4000000
namespace Mine
/-! ### the plain law: a table of nine sizes -/
def mS (w : Nat → Nat → Nat) (k j : Nat) : Nat := 5 + w k j + max (w ((k + 1) % 3) ((j + 1) % 3) + w ((k + 2) % 3) ((j + 2) % 3)) (w ((k + 1) % 3) ((j + 2) % 3) + w ((k + 2) % 3) ((j + 1) % 3))
def pm (w : Nat → Nat → Nat) (o : Nat × Nat × Nat) : Nat := w 0 o.1 + w 1 o.2.1 + w 2 o.2.2
def mW (w : Nat → Nat → Nat) : Nat := 5 + max (max (pm w (0, 1, 2)) (pm w (0, 2, 1))) (max (max (pm w (1, 0, 2)) (pm w (1, 2, 0))) (max (pm w (2, 0, 1)) (pm w (2, 1, 0))))
theorem five {z x y P Q : Nat} (h1 : z + x = P) (h2 : z + y = Q) : 5 + z + max x y = 5 + max P Q := by
  rw [← h1, ← h2, Nat.add_assoc, Nat.add_max_add_left]
theorem five' {z x y P Q : Nat} (h1 : z + x = P) (h2 : z + y = Q) : 5 + z + max x y = 5 + max Q P := by
  rw [five h1 h2, Nat.max_comm]
theorem s0 (z a b : Nat) : z + (a + b) = z + a + b := (Nat.add_assoc _ _ _).symm
theorem s1 (z a b : Nat) : z + (b + a) = a + z + b := by rw [Nat.add_left_comm, Nat.add_comm z a, ← Nat.add_assoc, Nat.add_comm b, Nat.add_assoc, Nat.add_assoc]; exact congrArg (a + ·) (Nat.add_comm b z ▸ rfl)
theorem s2 (z a b : Nat) : z + (a + b) = a + b + z := Nat.add_comm _ _
theorem mS_eqs (w : Nat → Nat → Nat) :
    (mS w 0 0 = 5 + max (pm w (0, 1, 2)) (pm w (0, 2, 1)) ∧ mS w 0 1 = 5 + max (pm w (1, 0, 2)) (pm w (1, 2, 0)) ∧ mS w 0 2 = 5 + max (pm w (2, 0, 1)) (pm w (2, 1, 0))) ∧
    (mS w 1 0 = 5 + max (pm w (1, 0, 2)) (pm w (2, 0, 1)) ∧ mS w 1 1 = 5 + max (pm w (0, 1, 2)) (pm w (2, 1, 0)) ∧ mS w 1 2 = 5 + max (pm w (0, 2, 1)) (pm w (1, 2, 0))) ∧
    (mS w 2 0 = 5 + max (pm w (1, 2, 0)) (pm w (2, 1, 0)) ∧ mS w 2 1 = 5 + max (pm w (0, 2, 1)) (pm w (2, 0, 1)) ∧ mS w 2 2 = 5 + max (pm w (0, 1, 2)) (pm w (1, 0, 2))) :=
  ⟨⟨five (s0 _ _ _) (s0 _ _ _), five' (s0 _ _ _) (s0 _ _ _), five (s0 _ _ _) (s0 _ _ _)⟩, ⟨five' (s1 _ _ _) (s1 _ _ _), five (s1 _ _ _) (s1 _ _ _), five' (s1 _ _ _) (s1 _ _ _)⟩, five (s2 _ _ _) (s2 _ _ _), five' (s2 _ _ _) (s2 _ _ _), five (s2 _ _ _) (s2 _ _ _)⟩
theorem pm_sum (w : Nat → Nat → Nat) : pm w (0, 1, 2) + pm w (1, 2, 0) + pm w (2, 0, 1) = pm w (0, 2, 1) + pm w (1, 0, 2) + pm w (2, 1, 0) := by
  simp only [pm]; omega
theorem pm_le (w : Nat → Nat → Nat) : 5 + pm w (0, 1, 2) ≤ mW w ∧ 5 + pm w (0, 2, 1) ≤ mW w ∧ 5 + pm w (1, 0, 2) ≤ mW w ∧ 5 + pm w (1, 2, 0) ≤ mW w ∧ 5 + pm w (2, 0, 1) ≤ mW w ∧ 5 + pm w (2, 1, 0) ≤ mW w :=
  ⟨Nat.add_le_add_left (Nat.le_trans (Nat.le_max_left _ _) (Nat.le_max_left _ _)) 5, Nat.add_le_add_left (Nat.le_trans (Nat.le_max_right _ _) (Nat.le_max_left _ _)) 5,
    Nat.add_le_add_left (Nat.le_trans (Nat.le_trans (Nat.le_max_left _ _) (Nat.le_max_left _ _)) (Nat.le_max_right _ _)) 5, Nat.add_le_add_left (Nat.le_trans (Nat.le_trans (Nat.le_max_right _ _) (Nat.le_max_left _ _)) (Nat.le_max_right _ _)) 5,
    Nat.add_le_add_left (Nat.le_trans (Nat.le_trans (Nat.le_max_left _ _) (Nat.le_max_right _ _)) (Nat.le_max_right _ _)) 5, Nat.add_le_add_left (Nat.le_trans (Nat.le_trans (Nat.le_max_right _ _) (Nat.le_max_right _ _)) (Nat.le_max_right _ _)) 5⟩
theorem max3_five (a b c : Nat) : max3 (5 + a) (5 + b) (5 + c) = 5 + max a (max b c) := by
  unfold max3
  rw [Nat.add_max_add_left, Nat.add_max_add_left, Nat.max_assoc]
theorem max3_mW (w : Nat → Nat → Nat) (k : Nat) (hk : k < 3) : max3 (mS w k 0) (mS w k 1) (mS w k 2) = mW w := by
  obtain ⟨⟨a0, a1, a2⟩, ⟨b0, b1, b2⟩, c0, c1, c2⟩ := mS_eqs w
  unfold mW
  match k, hk with
  | 0, _ => rw [a0, a1, a2, max3_five]
  | 1, _ => rw [b0, b1, b2, max3_five]; ac_rfl
  | 2, _ => rw [c0, c1, c2, max3_five]; ac_rfl
theorem near_six {p p2 p3 p6 q5 q4 W : Nat} (hs : p + q4 + q5 = p2 + p3 + p6) (h : 5 + p ≤ W) (h2 : 5 + p2 ≤ W) (h3 : 5 + p3 ≤ W) (h6 : 5 + p6 ≤ W) (h4 : 5 + q4 ≤ W) (h5 : 5 + q5 ≤ W) :
    (decide (5 + max p p2 = W) && (decide (5 + max p p3 = W) && decide (5 + max p p6 = W))) = decide (5 + p = W) := by
  rw [Bool.eq_iff_iff]
  simp only [Bool.and_eq_true, decide_eq_true_eq]
  constructor
  · rintro ⟨h1, h2', h3'⟩
    by_cases q : 5 + p = W
    · exact q
    · rw [Nat.max_eq_right (by omega)] at h1 h2' h3'
      omega
  · intro q
    rw [Nat.max_eq_left (by omega), Nat.max_eq_left (by omega), Nat.max_eq_left (by omega)]
    exact ⟨q, q, q⟩
theorem near_mS (w : Nat → Nat → Nat) : ∀ o ∈ orders6, (decide (mS w 0 o.1 = mW w) && (decide (mS w 1 o.2.1 = mW w) && decide (mS w 2 o.2.2 = mW w))) = decide (5 + pm w o = mW w) := by
  obtain ⟨⟨a0, a1, a2⟩, ⟨b0, b1, b2⟩, c0, c1, c2⟩ := mS_eqs w
  have hs := pm_sum w
  obtain ⟨l1, l2, l3, l4, l5, l6⟩ := pm_le w
  intro o ho
  simp only [List.mem_cons, List.not_mem_nil, or_false] at ho
  rcases ho with rfl | rfl | rfl | rfl | rfl | rfl <;> dsimp only
  · rw [a0, b1, c2]
    exact near_six (q4 := pm w (1, 2, 0)) (q5 := pm w (2, 0, 1)) (by omega) l1 l2 l6 l3 l4 l5
  · rw [a0, b2, c1, Nat.max_comm (pm w (0, 1, 2))]
    exact near_six (q4 := pm w (1, 0, 2)) (q5 := pm w (2, 1, 0)) (by omega) l2 l1 l4 l5 l3 l6
  · rw [a1, b0, c2, Nat.max_comm (pm w (0, 1, 2))]
    exact near_six (q4 := pm w (0, 2, 1)) (q5 := pm w (2, 1, 0)) (by omega) l3 l4 l5 l1 l2 l6
  · rw [a1, b2, c0, Nat.max_comm (pm w (1, 0, 2)), Nat.max_comm (pm w (0, 2, 1))]
    exact near_six (q4 := pm w (0, 1, 2)) (q5 := pm w (2, 0, 1)) (by omega) l4 l3 l2 l6 l1 l5
  · rw [a2, b0, c1, Nat.max_comm (pm w (1, 0, 2)), Nat.max_comm (pm w (0, 2, 1))]
    exact near_six (q4 := pm w (0, 1, 2)) (q5 := pm w (1, 2, 0)) (by omega) l5 l6 l3 l2 l1 l4
  · rw [a2, b1, c0, Nat.max_comm (pm w (2, 0, 1)), Nat.max_comm (pm w (0, 1, 2)), Nat.max_comm (pm w (1, 2, 0))]
    exact near_six (q4 := pm w (0, 2, 1)) (q5 := pm w (1, 0, 2)) (by omega) l6 l5 l1 l4 l2 l3
theorem pm_mem_le (w : Nat → Nat → Nat) : ∀ o ∈ orders6, 5 + pm w o ≤ mW w := by
  obtain ⟨l1, l2, l3, l4, l5, l6⟩ := pm_le w
  intro o ho
  simp only [List.mem_cons, List.not_mem_nil, or_false] at ho
  rcases ho with rfl | rfl | rfl | rfl | rfl | rfl <;> assumption
theorem d1 {a b c d z : Nat} (h1 : a ≤ 9) (h2 : b ≤ 9) : z + a + b ≤ z + c + d + 18 := by omega
theorem d2 {a b c d z : Nat} (h1 : a ≤ 9) (h2 : b ≤ 9) : a + z + b ≤ c + z + d + 18 := by omega
theorem d3 {a b c d z : Nat} (h1 : a ≤ 9) (h2 : b ≤ 9) : a + b + z ≤ c + d + z + 18 := by omega
theorem six_le {a b c d e f B : Nat} (h1 : a ≤ B) (h2 : b ≤ B) (h3 : c ≤ B) (h4 : d ≤ B) (h5 : e ≤ B) (h6 : f ≤ B) : 5 + max (max a b) (max (max c d) (max e f)) ≤ 5 + B :=
  Nat.add_le_add_left (Nat.max_le.mpr ⟨Nat.max_le.mpr ⟨h1, h2⟩, Nat.max_le.mpr ⟨Nat.max_le.mpr ⟨h3, h4⟩, Nat.max_le.mpr ⟨h5, h6⟩⟩⟩) 5
theorem mr {a b q : Nat} (h : q ≤ b + 18) : q ≤ max a b + 18 := Nat.le_trans h (Nat.add_le_add_right (Nat.le_max_right _ _) 18)
theorem ml {a b q : Nat} (h : q ≤ a + 18) : q ≤ max a b + 18 := Nat.le_trans h (Nat.add_le_add_right (Nat.le_max_left _ _) 18)
theorem near18 (w : Nat → Nat → Nat) (h : ∀ i j, w i j ≤ 9) (k j : Nat) (hk : k < 3) (hj : j < 3) : mW w ≤ mS w k j + 18 := by
  have e12 : pm w (0, 1, 2) ≤ pm w (0, 2, 1) + 18 := d1 (h _ _) (h _ _)
  have o21 : pm w (0, 2, 1) ≤ pm w (0, 1, 2) + 18 := d1 (h _ _) (h _ _)
  have e13 : pm w (0, 1, 2) ≤ pm w (1, 0, 2) + 18 := d3 (h _ _) (h _ _)
  have o31 : pm w (1, 0, 2) ≤ pm w (0, 1, 2) + 18 := d3 (h _ _) (h _ _)
  have e16 : pm w (0, 1, 2) ≤ pm w (2, 1, 0) + 18 := d2 (h _ _) (h _ _)
  have o61 : pm w (2, 1, 0) ≤ pm w (0, 1, 2) + 18 := d2 (h _ _) (h _ _)
  have e42 : pm w (1, 2, 0) ≤ pm w (0, 2, 1) + 18 := d2 (h _ _) (h _ _)
  have o24 : pm w (0, 2, 1) ≤ pm w (1, 2, 0) + 18 := d2 (h _ _) (h _ _)
  have e43 : pm w (1, 2, 0) ≤ pm w (1, 0, 2) + 18 := d1 (h _ _) (h _ _)
  have o34 : pm w (1, 0, 2) ≤ pm w (1, 2, 0) + 18 := d1 (h _ _) (h _ _)
  have e46 : pm w (1, 2, 0) ≤ pm w (2, 1, 0) + 18 := d3 (h _ _) (h _ _)
  have o64 : pm w (2, 1, 0) ≤ pm w (1, 2, 0) + 18 := d3 (h _ _) (h _ _)
  have e52 : pm w (2, 0, 1) ≤ pm w (0, 2, 1) + 18 := d3 (h _ _) (h _ _)
  have o25 : pm w (0, 2, 1) ≤ pm w (2, 0, 1) + 18 := d3 (h _ _) (h _ _)
  have e53 : pm w (2, 0, 1) ≤ pm w (1, 0, 2) + 18 := d2 (h _ _) (h _ _)
  have o35 : pm w (1, 0, 2) ≤ pm w (2, 0, 1) + 18 := d2 (h _ _) (h _ _)
  have e56 : pm w (2, 0, 1) ≤ pm w (2, 1, 0) + 18 := d1 (h _ _) (h _ _)
  have o65 : pm w (2, 1, 0) ≤ pm w (2, 0, 1) + 18 := d1 (h _ _) (h _ _)
  obtain ⟨⟨a0, a1, a2⟩, ⟨b0, b1, b2⟩, c0, c1, c2⟩ := mS_eqs w
  unfold mW
  match k, hk, j, hj with
  | 0, _, 0, _ => rw [a0, Nat.add_assoc]; exact six_le (mr e12) (ml o21) (ml o31) (mr e42) (mr e52) (ml o61)
  | 0, _, 1, _ => rw [a1, Nat.add_assoc]; exact six_le (ml e13) (mr o24) (mr o34) (ml e43) (ml e53) (mr o64)
  | 0, _, 2, _ => rw [a2, Nat.add_assoc]; exact six_le (mr e16) (ml o25) (ml o35) (mr e46) (mr e56) (ml o65)
  | 1, _, 0, _ => rw [b0, Nat.add_assoc]; exact six_le (ml e13) (mr o25) (mr o35) (ml e43) (ml e53) (mr o65)
  | 1, _, 1, _ => rw [b1, Nat.add_assoc]; exact six_le (mr e16) (ml o21) (ml o31) (mr e46) (mr e56) (ml o61)
  | 1, _, 2, _ => rw [b2, Nat.add_assoc]; exact six_le (ml e12) (mr o24) (mr o34) (ml e42) (ml e52) (mr o64)
  | 2, _, 0, _ => rw [c0, Nat.add_assoc]; exact six_le (mr e16) (ml o24) (ml o34) (mr e46) (mr e56) (ml o64)
  | 2, _, 1, _ => rw [c1, Nat.add_assoc]; exact six_le (ml e12) (mr o25) (mr o35) (ml e42) (ml e52) (mr o65)
  | 2, _, 2, _ => rw [c2, Nat.add_assoc]; exact six_le (mr e13) (ml o21) (ml o31) (mr e43) (mr e53) (ml o61)
/-! ### the pieces of the table -/
theorem piece_go_plain : ∀ (k : Nat) (x : Int), Plain (pieceGo k x)
  | 0, _ => fun c hc => by simp [pieceGo] at hc
  | k + 1, x => fun c hc => by
    rw [pieceGo] at hc
    rcases List.mem_cons.mp hc with rfl | hc
    · unfold sign3
      split
      · decide
      · split
        · decide
        · decide
    · exact piece_go_plain k _ c hc
theorem piece_go_len : ∀ (k : Nat) (x : Int), (pieceGo k x).length = k
  | 0, _ => rfl
  | k + 1, x => by rw [pieceGo, List.length_cons, piece_go_len k]
theorem eL_len3 {l : List Nat} (h : Plain l) : eL l ≤ 3 * l.length := by
  induction l with
  | nil => exact Nat.zero_le _
  | cons c l ih =>
    have hc := h c (by simp)
    have := ih fun d hd => h d (by simp [hd])
    rw [show c :: l = [c] ++ l from rfl, eL_app]
    have h1 : eL [c] ≤ 3 := by
      simp only [List.mem_cons, List.not_mem_nil, or_false] at hc
      rcases hc with rfl | rfl | rfl | rfl <;> decide
    simp only [List.length_append, List.length_cons, List.length_nil]
    omega
theorem piece_plain (x : Int) : Plain (pieceT x) := piece_go_plain _ _
theorem piece_size (x : Int) : eL (pieceT x) ≤ 9 := by
  have h := eL_len3 (piece_plain x)
  have h4 : 0 ≤ x.fmod 4 ∧ x.fmod 4 < 4 := ⟨Int.fmod_nonneg_of_pos _ (by decide), Int.fmod_lt_of_pos _ (by decide)⟩
  have : (pieceT x).length = (x.fmod 4).toNat := piece_go_len _ _
  omega
end Mine

end
section
open PySem PySem.Calls PyProof.Rows PySem.W
set_option linter.unusedVariables false
set_option maxRecDepth 100000
set_option maxHeartbeats 4000000
namespace Mine
section
variable {X : Cx} {n : Nat} {B : Base} {env : Env} {O : Own} {Γ : Gam}
abbrev wT (t : Nat → Nat → List Nat) : Nat → Nat → Nat := fun i j => eL (t i j)
abbrev bT (t : Nat → Nat → List Nat) : Nat → Nat → Bool := fun k j => decide (mS (wT t) k j = mW (wT t))
abbrev metD (t : Nat → Nat → List Nat) (k : Nat) : D := .list [.int (mW (wT t)), .list ((nearL (bT t) k).map .int)]
abbrev lineL (a b : Nat → List Nat) : List (List Nat) := [big (a 1 ++ b 2) (a 2 ++ b 1), big (a 2 ++ b 0) (a 0 ++ b 2), big (a 0 ++ b 1) (a 1 ++ b 0)]
theorem line_ok (T : Top X) (t : Nat → Nat → List Nat) (hp : ∀ i j, Plain (t i j)) (hl : ∀ i j, eL (t i j) ≤ 9) (i j : Nat) : OpN X (n + 3) (fun vs => PySem.call (.ref T.fThrough) vs) [rowD t i, rowD t j] (dP (lineL (t i) (t j))) := by
  have hz : ∀ i j, (t i j).length ≤ 400 := fun i j => Nat.le_trans (flat_len3 (hp i j)) (Nat.le_trans (hl i j) (by decide))
  exact through_ok (n := n + 1) T _ _ _ _ _ _ (hp _ _) (hp _ _) (hp _ _) (hp _ _) (hp _ _) (hp _ _) (hz _ _) (hz _ _) (hz _ _) (hz _ _) (hz _ _) (hz _ _)
theorem tab_met (T : Top X) (t : Nat → Nat → List Nat) (hp : ∀ i j, Plain (t i j)) (hl : ∀ i j, eL (t i j) ≤ 9) (k : Nat) (hk : k < 3) :
    OpN X (n + 3) (fun vs => PySem.call (.ref T.fMet) vs) [dP (lineL (t ((k + 1) % 3)) (t ((k + 2) % 3))), rowD t k] (metD t k) := by
  have hb : ∀ j, 5 ≤ mS (wT t) k j ∧ mS (wT t) k j ≤ 41 := fun j =>
    ⟨Nat.le_trans (Nat.le_add_right 5 _) (Nat.le_add_right _ _), Nat.le_trans (Nat.add_le_add (Nat.add_le_add_left (hl k j) 5) (Nat.max_le.mpr ⟨Nat.add_le_add (hl _ _) (hl _ _), Nat.add_le_add (hl _ _) (hl _ _)⟩)) (by decide)⟩
  have e : ∀ (q a b c d : List Nat), Plain a → Plain b → Plain c → Plain d → (encR (rowT q (big (a ++ b) (c ++ d)))).length = 5 + eL q + max (eL a + eL b) (eL c + eL d) := fun q a b c d ha hb hc hd => by
    show eL _ = _
    rw [eL_row, eL_big (ha.app hb) (hc.app hd), eL_app, eL_app]
  exact met_ok (X := X) (n := n) T _ _ _ _ _ _ (big_plain ((hp _ _).app (hp _ _)) ((hp _ _).app (hp _ _))) (big_plain ((hp _ _).app (hp _ _)) ((hp _ _).app (hp _ _))) (big_plain ((hp _ _).app (hp _ _)) ((hp _ _).app (hp _ _))) (hp _ _) (hp _ _) (hp _ _)
    (mS (wT t) k 0) (mS (wT t) k 1) (mS (wT t) k 2) (mW (wT t)) (e _ _ _ _ _ (hp _ _) (hp _ _) (hp _ _) (hp _ _)) (e _ _ _ _ _ (hp _ _) (hp _ _) (hp _ _) (hp _ _)) (e _ _ _ _ _ (hp _ _) (hp _ _) (hp _ _) (hp _ _)) (hb 0) (hb 1) (hb 2) (max3_mW (wT t) k hk).symm ⟨near18 (wT t) hl k 0 hk (by decide), near18 (wT t) hl k 1 hk (by decide), near18 (wT t) hl k 2 hk (by decide)⟩
theorem tab_six (T : Top X) (t : Nat → Nat → List Nat) (hp : ∀ i j, Plain (t i j)) (hl : ∀ i j, eL (t i j) ≤ 9) :
    OpN X (n + 3) (fun vs => PySem.call (.ref T.fSix) vs) [tabD t, .int (mW (wT t)), nearD (bT t)] (.bool true) := by
  have e : ∀ o, eL (six1 t o) = 5 + pm (wT t) o := fun o => by rw [eL_six1, Nat.add_assoc, Nat.add_assoc]; unfold pm wT; rw [Nat.add_assoc]
  have hq : ∀ o, pm (wT t) o ≤ 27 := fun o => Nat.add_le_add (Nat.add_le_add (hl 0 o.1) (hl 1 o.2.1)) (hl 2 o.2.2)
  have h1 : mW (wT t) ≤ 32 := six_le (hq _) (hq _) (hq _) (hq _) (hq _) (hq _)
  refine six_ok (X := X) (n := n) T t hp hl (bT t) (mW (wT t)) (Nat.le_add_right 5 _) (Nat.le_trans h1 (by decide)) (fun o ho => ?_) fun o ho => ?_
  · rw [e]; exact pm_mem_le _ o ho
  · rw [e]; exact near_mS _ o ho
theorem row3 (t : Nat → Nat → List Nat) (i : Nat) (hi : i < 3) : pyAt [rowD t 0, rowD t 1, rowD t 2] ((i : Int) - 2) = some (rowD t ((i + 1) % 3)) ∧ pyAt [rowD t 0, rowD t 1, rowD t 2] ((i : Int) - 1) = some (rowD t ((i + 2) % 3)) ∧ pyAt [rowD t 0, rowD t 1, rowD t 2] (i : Int) = some (rowD t i) := by
  match i, hi with
  | 0, _ => exact ⟨rfl, rfl, rfl⟩
  | 1, _ => exact ⟨rfl, rfl, rfl⟩
  | 2, _ => exact ⟨rfl, rfl, rfl⟩
theorem met3_get {t : Nat → Nat → List Nat} {i : Nat} {e : D} (hi : i < 3) (he : [metD t 0, metD t 1, metD t 2][i]? = some e) : e = metD t i := by
  match i, hi with
  | 0, _ => exact (Option.some.inj he).symm
  | 1, _ => exact (Option.some.inj he).symm
  | 2, _ => exact (Option.some.inj he).symm
theorem nine {ys : List Int} (h : ys.length = 9) : ∃ y0 y1 y2 y3 y4 y5 y6 y7 y8, ys = [y0, y1, y2, y3, y4, y5, y6, y7, y8] := by
  match ys, h with
  | [y0, y1, y2, y3, y4, y5, y6, y7, y8], _ => exact ⟨_, _, _, _, _, _, _, _, _, rfl⟩
def ysOf (xs : List Int) : List Int := xs.take 9 ++ ([5, 1, 0, 2, 6, 1, 0, 18, 9] : List Int).drop (xs.take 9).length
theorem ysOf_len (xs : List Int) : (ysOf xs).length = 9 := by
  unfold ysOf
  simp only [List.length_append, List.length_drop, List.length_take, List.length_cons, List.length_nil]
  omega
abbrev tOf (ys : List Int) : Nat → Nat → List Nat := fun i j => pieceT (ys.getD (3 * i + j) 0)
theorem law_ok (T : Top X) (xs : List Int) (hx : xs.length ≤ 1000) : OpN X (n + 4) (fun vs => PySem.call (.ref T.fLaw) vs) [.list (xs.map .int)] (.bool true) := by
  obtain ⟨md, c', doc, ho, hcd, _⟩ := T.dLaw
  have G := T.good
  refine OpN.def (ns := ["script"]) (ds' := [.list (xs.map .int)]) G ho rfl hcd rfl rfl ?_ (by decide) (by rfl) ?_
  · intro s S vs r _ _
    obtain ⟨_, rfl, ra⟩ := r.inv_one; have r := ra
    exact ⟨[_], BindsTo.of_eq rfl, .cons r .nil⟩
  · intro L B hB
    have hWr : ∀ x, B.W x = true := fun x => by rw [hB]
    have r3 : ∀ {B : Base} {env : Env} {O : Own} {Γ : Gam} {p p1 p2 : Pos} {k : Nat}, (env.kindOf "range" = some .globalImplicit) → env.scope.kind = .function → env.globals = mainGlobals → env.builtins = builtinsNs → EvIt X (n + 3) B env O Γ (.Call (.Name "range" p) [.Constant (.int 3) k p1] [] p2) ((List.range 3).map fun i : Nat => D.int (i : Int)) :=
      fun h1 h2 h3 h4 => EvIt.range (m := 3) (Ev.call (EvV.blt G T.noRange rfl (by decide) h1 h2 h3 h4) (EvL.cons Ev.cint EvL.nil) (.type _) OpN.range) (range_small (by decide))
    refine Ex.step (Ex1.assign (Ev.sliceTo (k := 9) (Ev.local rfl) Ev.cint (by rw [List.length_map]; exact sz hx)) (.loc rfl)) ?_
    have htk : ((xs.map D.int).take 9) = (xs.take 9).map .int := by rw [List.map_take]
    rw [htk]
    have hlen : OpN X (n + 3) (fun vs => PySem.call (.builtin "len") vs) [.list ((xs.take 9).map .int)] (.int (((xs.take 9).length : Nat) : Int)) := by
      have := OpN.lenL (X := X) (n := n + 3) (xs := (xs.take 9).map .int) (by simp [sizeLine]; omega)
      rwa [List.length_map] at this
    have hk9 : (xs.take 9).length ≤ 9 := by rw [List.length_take]; omega
    have hys := ysOf_len xs
    have hyd : (xs.take 9).map D.int ++ ([.int 5, .int 1, .int 0, .int 2, .int 6, .int 1, .int 0, .int 18, .int 9] : List D).drop (xs.take 9).length = (ysOf xs).map .int := by
      unfold ysOf
      rw [List.map_append, List.map_drop]
      rfl
    obtain ⟨y0, y1, y2, y3, y4, y5, y6, y7, y8, hy⟩ := nine hys
    generalize hyg : ysOf xs = ys at hys hyd hy
    have hpl : ∀ i j, Plain (tOf ys i j) := fun i j => piece_plain _
    have hsz : ∀ i j, eL (tOf ys i j) ≤ 9 := fun i j => piece_size _
    generalize ht : tOf ys = t at hpl hsz
    have hpd : ys.map (fun y => dS (pieceT y)) = [dS (t 0 0), dS (t 0 1), dS (t 0 2), dS (t 1 0), dS (t 1 1), dS (t 1 2), dS (t 2 0), dS (t 2 1), dS (t 2 2)] := by
      rw [← ht, hy]; rfl
    refine Ex.step (Ex1.assign (d := .list [dS (t 0 0), dS (t 0 1), dS (t 0 2), dS (t 1 0), dS (t 1 1), dS (t 1 2), dS (t 2 0), dS (t 2 1), dS (t 2 2)]) (Ev.cast (Ev.ofComp (CompD.map [] [] (ds := ys.map fun y => dS (pieceT y)) (xs := ys.map .int)
      (EvIt.list (Ev.cast (Ev.binop (Ev.local rfl) (Ev.sliceFrom (k := (xs.take 9).length) (Ev.list (EvL.cons Ev.cint (EvL.cons Ev.cint (EvL.cons Ev.cint (EvL.cons Ev.cint (EvL.cons Ev.cint (EvL.cons Ev.cint (EvL.cons Ev.cint (EvL.cons Ev.cint (EvL.cons Ev.cint EvL.nil))))))))))
        (Ev.call (EvV.blt G T.noLen rfl (by decide)) (EvL.cons (Ev.local rfl) EvL.nil) (.builtin _) hlen) hk9 (sz (by decide))) (Op2.addL _ _ ?_)) (congrArg D.list hyd))) trivial trivial (fun C => trivial) rfl (by rw [List.length_map]; omega) (by simp) ?_)) (congrArg D.list hpd)) (.cell rfl rfl (hWr _))) ?_
    · rw [List.length_map, List.length_drop]; exact sz (by simp only [List.length_cons, List.length_nil]; omega)
    · intro C B' i d e hd he
      obtain ⟨y, hyi, rfl⟩ := map_get hd
      obtain ⟨y', hyi', rfl⟩ := map_get he
      rw [hyi] at hyi'; cases hyi'
      exact Ev.call (EvV.glob G T.mPiece) (EvL.cons (Ev.local rfl) EvL.nil) T.kPiece (piece_ok (n := n + 2) T y)
    generalize hP : ([dS (t 0 0), dS (t 0 1), dS (t 0 2), dS (t 1 0), dS (t 1 1), dS (t 1 2), dS (t 2 0), dS (t 2 1), dS (t 2 2)] : List D) = P
    have hPl : P.length ≤ sizeLine := by rw [← hP]; exact sz (Nat.le_of_ble_eq_true rfl)
    have p0 : pickL P (some 0) (some 3) none = [dS (t 0 0), dS (t 0 1), dS (t 0 2)] := by rw [← hP]; rfl
    have p1 : pickL P (some 3) (some 6) none = [dS (t 1 0), dS (t 1 1), dS (t 1 2)] := by rw [← hP]; rfl
    have p2 : pickL P (some 6) (some 9) none = [dS (t 2 0), dS (t 2 1), dS (t 2 2)] := by rw [← hP]; rfl
    refine Ex.step (Ex1.assign (d := tabD t) (Ev.list (EvL.cons (Ev.cast (Ev.sliceL (Ev.cell rfl) (EvP.some Ev.cint) (EvP.some Ev.cint) EvP.none (by simp) hPl) (congrArg D.list p0)) (EvL.cons (Ev.cast (Ev.sliceL (Ev.cell rfl) (EvP.some Ev.cint) (EvP.some Ev.cint) EvP.none (by simp) hPl) (congrArg D.list p1)) (EvL.cons (Ev.cast (Ev.sliceL (Ev.cell rfl) (EvP.some Ev.cint) (EvP.some Ev.cint) EvP.none (by simp) hPl) (congrArg D.list p2)) EvL.nil)))) (.cell rfl rfl (hWr _))) ?_
    have hpt : ∀ i j, Plain ((fun i j => t j i) i j) := fun i j => hpl j i
    have hst : ∀ i j, eL ((fun i j => t j i) i j) ≤ 9 := fun i j => hsz j i
    generalize htt : (fun i j => t j i) = u at hpt hst
    have pc : ∀ i : Nat, i < 3 → D.list (pickL P (some (i : Int)) none (some 3)) = rowD u i := fun i hi => by
      rw [← hP, ← htt]
      unfold pickL
      match i, hi with
      | 0, _ => exact congrArg (fun l => D.list (l.filterMap (fun i => ([dS (t 0 0), dS (t 0 1), dS (t 0 2), dS (t 1 0), dS (t 1 1), dS (t 1 2), dS (t 2 0), dS (t 2 1), dS (t 2 2)] : List D)[i]?))) (by decide +kernel : sliceRange (sliceBounds (some ((0 : Nat) : Int)) none (some 3) 9).1 (sliceBounds (some ((0 : Nat) : Int)) none (some 3) 9).2.1 (sliceBounds (some ((0 : Nat) : Int)) none (some 3) 9).2.2 = [0, 3, 6])
      | 1, _ => exact congrArg (fun l => D.list (l.filterMap (fun i => ([dS (t 0 0), dS (t 0 1), dS (t 0 2), dS (t 1 0), dS (t 1 1), dS (t 1 2), dS (t 2 0), dS (t 2 1), dS (t 2 2)] : List D)[i]?))) (by decide +kernel : sliceRange (sliceBounds (some ((1 : Nat) : Int)) none (some 3) 9).1 (sliceBounds (some ((1 : Nat) : Int)) none (some 3) 9).2.1 (sliceBounds (some ((1 : Nat) : Int)) none (some 3) 9).2.2 = [1, 4, 7])
      | 2, _ => exact congrArg (fun l => D.list (l.filterMap (fun i => ([dS (t 0 0), dS (t 0 1), dS (t 0 2), dS (t 1 0), dS (t 1 1), dS (t 1 2), dS (t 2 0), dS (t 2 1), dS (t 2 2)] : List D)[i]?))) (by decide +kernel : sliceRange (sliceBounds (some ((2 : Nat) : Int)) none (some 3) 9).1 (sliceBounds (some ((2 : Nat) : Int)) none (some 3) 9).2.1 (sliceBounds (some ((2 : Nat) : Int)) none (some 3) 9).2.2 = [2, 5, 8])
    refine Ex.step (Ex1.assign (d := tabD u) (Ev.ofComp (CompD.map [("pieces", L + 1)] [("pieces", .list P)] (ds := [rowD u 0, rowD u 1, rowD u 2]) (r3 rfl rfl rfl rfl) ⟨rfl, trivial⟩ ⟨⟨rfl, rfl⟩, trivial⟩ (fun C => ⟨rfl, trivial⟩) rfl (by decide) rfl ?_)) (.cell rfl rfl (hWr _))) ?_
    · intro C B' i d e hd he
      obtain ⟨rfl, hi⟩ := range_get hd
      have q : e = rowD u i := by
        match i, hi with
        | 0, _ => exact (Option.some.inj he).symm
        | 1, _ => exact (Option.some.inj he).symm
        | 2, _ => exact (Option.some.inj he).symm
      rw [q]
      exact Ev.cast (Ev.sliceL (Ev.cell rfl) (EvP.some (Ev.local rfl)) EvP.none (EvP.some Ev.cint) (by simp) hPl) (pc i hi)
    clear pc p0 p1 p2 hPl hP htt
    refine Ex.step (Ex1.ofComp (CompD.map [("rows", L + 2)] [("rows", tabD t)] (ds := [metD t 0, metD t 1, metD t 2]) (r3 rfl rfl rfl rfl) ⟨rfl, trivial⟩ ⟨⟨rfl, rfl⟩, trivial⟩ (fun C => ⟨rfl, trivial⟩) rfl (by decide) rfl ?_)) ?_
    · intro C B' i d e hd he
      obtain ⟨rfl, hi⟩ := range_get hd
      obtain ⟨h1, h2, h3⟩ := row3 t i hi
      rw [met3_get hi he]
      exact Ev.call (EvV.glob G T.mMet) (EvL.cons (Ev.call (EvV.glob G T.mThrough) (EvL.cons (Ev.sub (Ev.cell rfl) (Ev.binop (Ev.local rfl) Ev.cint (Op2.subI _ _)) (Op2.itemP h1 (Nat.le_of_ble_eq_true rfl))) (EvL.cons (Ev.sub (Ev.cell rfl) (Ev.binop (Ev.local rfl) Ev.cint (Op2.subI _ _)) (Op2.itemP h2 (Nat.le_of_ble_eq_true rfl))) EvL.nil)) T.kThrough (line_ok T t hpl hsz _ _))
        (EvL.cons (Ev.sub (Ev.cell rfl) (Ev.local rfl) (Op2.itemP h3 (Nat.le_of_ble_eq_true rfl))) EvL.nil)) T.kMet (tab_met T t hpl hsz i hi)
    refine Ex.step (Ex1.ofComp (CompD.map [("columns", L + 3)] [("columns", tabD u)] (ds := [metD u 0, metD u 1, metD u 2]) (r3 rfl rfl rfl rfl) ⟨rfl, trivial⟩ ⟨⟨rfl, rfl⟩, trivial⟩ (fun C => ⟨rfl, trivial⟩) rfl (by decide) rfl ?_)) ?_
    · intro C B' i d e hd he
      obtain ⟨rfl, hi⟩ := range_get hd
      obtain ⟨h1, h2, h3⟩ := row3 u i hi
      rw [met3_get hi he]
      exact Ev.call (EvV.glob G T.mMet) (EvL.cons (Ev.call (EvV.glob G T.mThrough) (EvL.cons (Ev.sub (Ev.cell rfl) (Ev.binop (Ev.local rfl) Ev.cint (Op2.subI _ _)) (Op2.itemP h1 (Nat.le_of_ble_eq_true rfl))) (EvL.cons (Ev.sub (Ev.cell rfl) (Ev.binop (Ev.local rfl) Ev.cint (Op2.subI _ _)) (Op2.itemP h2 (Nat.le_of_ble_eq_true rfl))) EvL.nil)) T.kThrough (line_ok T u hpt hst _ _))
        (EvL.cons (Ev.sub (Ev.cell rfl) (Ev.local rfl) (Op2.itemP h3 (Nat.le_of_ble_eq_true rfl))) EvL.nil)) T.kMet (tab_met T u hpt hst i hi)
    have own3 : ∀ i : Nat, i < 3 → OpN X (n + 3) (fun vs => PySem.call (.ref T.fOwn) vs) [rowD t i, rowD t ((i + 2) % 3)] (.bool true) := fun i hi =>
      own_ok (n := n) T _ _ _ _ _ _ (hpl _ _) (hpl _ _) (hpl _ _) (hpl _ _) (hpl _ _) (hpl _ _) (hsz _ _) (hsz _ _) (hsz _ _) (hsz _ _) (hsz _ _) (hsz _ _)
    refine Ex.ifFalse (Tr.or2 (Tr.compare (Ev.list EvL.nil) (Ev.binop (Ev.local rfl) (Ev.local rfl) (Op2.addL [metD t 0, metD t 1, metD t 2] [metD u 0, metD u 1, metD u 2] (sz (Nat.le_of_ble_eq_true rfl))))
      (Op2.inNil (ns := [[.int (mW (wT t)), .list ((nearL (bT t) 0).map .int)], [.int (mW (wT t)), .list ((nearL (bT t) 1).map .int)], [.int (mW (wT t)), .list ((nearL (bT t) 2).map .int)], [.int (mW (wT u)), .list ((nearL (bT u) 0).map .int)], [.int (mW (wT u)), .list ((nearL (bT u) 1).map .int)], [.int (mW (wT u)), .list ((nearL (bT u) 2).map .int)]]) ?_))
      (Tr.cast (Tr.compare Ev.cbool (Ev.ofComp (CompD.map [("rows", L + 2)] [("rows", tabD t)] (ds := [true, true, true].map .bool) (r3 rfl rfl rfl rfl) ⟨rfl, trivial⟩ ⟨⟨rfl, rfl⟩, trivial⟩ (fun C => ⟨rfl, trivial⟩) rfl (by decide) rfl ?_)) Op2.inB) rfl)) ?_
    · intro l hl
      simp only [List.mem_cons, List.not_mem_nil, or_false] at hl
      rcases hl with rfl | rfl | rfl | rfl | rfl | rfl <;> simp
    · intro C B' i d e hd he
      obtain ⟨rfl, hi⟩ := range_get hd
      obtain ⟨h1, h2, h3⟩ := row3 t i hi
      have q : e = .bool true := by
        match i, hi with
        | 0, _ => exact (Option.some.inj he).symm
        | 1, _ => exact (Option.some.inj he).symm
        | 2, _ => exact (Option.some.inj he).symm
      rw [q]
      exact Ev.call (EvV.glob G T.mOwn) (EvL.cons (Ev.sub (Ev.cell rfl) (Ev.local rfl) (Op2.itemP h3 (Nat.le_of_ble_eq_true rfl))) (EvL.cons (Ev.sub (Ev.cell rfl) (Ev.binop (Ev.local rfl) Ev.cint (Op2.subI _ _)) (Op2.itemP h2 (Nat.le_of_ble_eq_true rfl))) EvL.nil)) T.kOwn (own3 i hi)
    have met3 : ∀ (v : Nat → Nat → List Nat) (i : Nat) (d : D), [metD v 0, metD v 1, metD v 2][i]? = some d → ∃ k, k < 3 ∧ i = k ∧ d = metD v k := fun v i d hd => by
      have hi : i < 3 := (List.getElem?_eq_some_iff.mp hd).1
      exact ⟨i, hi, rfl, met3_get hi hd⟩
    refine Ex.ifFalse (Tr.cast (Tr.not (Tr.val (Ev.call (EvV.glob G T.mSix) (EvL.cons (Ev.cell rfl) (EvL.cons (Ev.call (EvV.blt G T.noMin rfl (by decide)) (EvL.cons (Ev.ofComp (CompD.map [] [] (ds := (List.replicate (2 + 1) ((mW (wT t) : Nat) : Int)).map .int) (EvIt.list (Ev.local rfl)) trivial trivial (fun C => trivial) rfl (Nat.le_of_ble_eq_true rfl) rfl ?_)) EvL.nil) (.builtin _) OpN.minSame)
      (EvL.cons (Ev.ofComp (CompD.map [] [] (ds := [.list ((nearL (bT t) 0).map .int), .list ((nearL (bT t) 1).map .int), .list ((nearL (bT t) 2).map .int)]) (EvIt.list (Ev.local rfl)) trivial trivial (fun C => trivial) rfl (Nat.le_of_ble_eq_true rfl) rfl ?_)) EvL.nil))) T.kSix (tab_six T t hpl hsz)) (Tru.bool true))) rfl) ?_
    · intro C B' i d e hd he
      obtain ⟨k, hk, rfl, rfl⟩ := met3 t i d hd
      have q : e = .int (mW (wT t)) := by
        match i, hk with
        | 0, _ => exact (Option.some.inj he).symm
        | 1, _ => exact (Option.some.inj he).symm
        | 2, _ => exact (Option.some.inj he).symm
      rw [q]
      exact Ev.sub (Ev.local rfl) Ev.cint (Op2.itemP rfl (Nat.le_of_ble_eq_true rfl))
    · intro C B' i d e hd he
      obtain ⟨k, hk, rfl, rfl⟩ := met3 t i d hd
      have q : e = .list ((nearL (bT t) i).map .int) := by
        match i, hk with
        | 0, _ => exact (Option.some.inj he).symm
        | 1, _ => exact (Option.some.inj he).symm
        | 2, _ => exact (Option.some.inj he).symm
      rw [q]
      exact Ev.sub (Ev.local rfl) Ev.cint (Op2.itemP rfl (Nat.le_of_ble_eq_true rfl))
    refine Ex.ret (Ev.call (EvV.glob G T.mSix) (EvL.cons (Ev.cell rfl) (EvL.cons (Ev.call (EvV.blt G T.noMax rfl (by decide)) (EvL.cons (Ev.ofComp (CompD.map [] [] (ds := (List.replicate (2 + 1) ((mW (wT u) : Nat) : Int)).map .int) (EvIt.list (Ev.local rfl)) trivial trivial (fun C => trivial) rfl (Nat.le_of_ble_eq_true rfl) rfl ?_)) EvL.nil) (.builtin _) OpN.maxSame)
      (EvL.cons (Ev.ofComp (CompD.map [] [] (ds := [.list ((nearL (bT u) 0).map .int), .list ((nearL (bT u) 1).map .int), .list ((nearL (bT u) 2).map .int)]) (EvIt.list (Ev.local rfl)) trivial trivial (fun C => trivial) rfl (Nat.le_of_ble_eq_true rfl) rfl ?_)) EvL.nil))) T.kSix (tab_six T u hpt hst)) ⟨_, rfl, .inl rfl⟩
    · intro C B' i d e hd he
      obtain ⟨k, hk, rfl, rfl⟩ := met3 u i d hd
      have q : e = .int (mW (wT u)) := by
        match i, hk with
        | 0, _ => exact (Option.some.inj he).symm
        | 1, _ => exact (Option.some.inj he).symm
        | 2, _ => exact (Option.some.inj he).symm
      rw [q]
      exact Ev.sub (Ev.local rfl) Ev.cint (Op2.itemP rfl (Nat.le_of_ble_eq_true rfl))
    · intro C B' i d e hd he
      obtain ⟨k, hk, rfl, rfl⟩ := met3 u i d hd
      have q : e = .list ((nearL (bT u) i).map .int) := by
        match i, hk with
        | 0, _ => exact (Option.some.inj he).symm
        | 1, _ => exact (Option.some.inj he).symm
        | 2, _ => exact (Option.some.inj he).symm
      rw [q]
      exact Ev.sub (Ev.local rfl) Ev.cint (Op2.itemP rfl (Nat.le_of_ble_eq_true rfl))
end
end Mine

end
section
open PySem PySem.Calls PyProof.Rows PySem.W
set_option linter.unusedVariables false
set_option maxRecDepth 100000
namespace Mine
/-! ### adequacy: a top that ends, seen just before its end -/
theorem last_step {den : Code → Sem Fin} {prog : Program} {w : World} {o : Outcome} {s' : Shared} : ∀ {n : Nat} {s : Shared} {t : Thread}, runN den prog w n s t = .halted o s' →
    ∃ m s₁ t₁, runN den prog w m s t = .running s₁ t₁ ∧ step den prog w s₁ t₁ = .halt o s'
  | 0, s, t, h => by cases h
  | n + 1, s, t, h => by
    simp only [runN] at h
    cases hs : step den prog w s t with
    | go s₂ t₂ =>
      simp only [hs] at h
      obtain ⟨m, s₁, t₁, h1, h2⟩ := last_step h
      exact ⟨m + 1, s₁, t₁, by simp only [runN, hs]; exact h1, h2⟩
    | halt o₂ s₂ =>
      simp only [hs] at h
      injection h with e1 e2
      subst e1 e2
      exact ⟨0, s, t, rfl, hs⟩
theorem through_of_halt {den : Code → Sem Fin} {prog : Program} {w : World} {f : Flow} {s s' : Shared} {t : Thread} (h : step den prog w s t = .halt (.done f) s') : through t = true := by
  obtain ⟨heap, gens, drawn, toks, os⟩ := s
  obtain ⟨cur, code, pos, stack⟩ := t
  cases cur with
  | pure a =>
    cases a with
    | again c => simp only [step, finish] at h; (repeat' split at h) <;> simp_all
    | done g =>
      cases stack with
      | nil => rfl
      | cons fr rest => simp only [step, finish] at h; (repeat' split at h) <;> simp_all
  | _ => simp only [step, finish] at h <;> (repeat' split at h) <;> simp_all
theorem top_ends {prog : Program} {w : World} {t : Sem Fin} {s : Shared} {P : Shared → Prop} (hreg : s.asleep)
    (h : wpAny (model prog w) callerA t (fun fin s' => ∃ f, fin = .done f ∧ (P s' ∧ s'.gens = #[])) (fun _ _ => False) s) :
    ∃ s₁, (∃ n th, schedN (denote table) prog w n (.single s ⟨t, .builtin "claim.caller" {}, default, []⟩) = .running (.single s₁ th) ∧ through th = true) ∧ s₁.heap.life = s.heap.life ∧ P s₁ ∧ s₁.gens = #[] := by
  let R : Result → Shared → Prop := fun r s' => (∃ f, r = .ok f) ∧ P s' ∧ s'.gens = #[]
  have h' := wp_of_wpAny_done (Γ := ⟨.builtin "claim.caller" {}, none, none, [], none⟩) (R := fun r s' => R r s' ∧ leftWithCleanup s'.gens = false) caller_in (wpAny_mono h (fun fin s' q => by
    obtain ⟨f, e, hP, hg⟩ := q
    exact ⟨f, e, ⟨⟨f, rfl⟩, hP, hg⟩, by rw [hg]; simp [leftWithCleanup]⟩) fun _ _ q => q.elim) default
  obtain ⟨n, r, s', hn, ⟨f, rfl⟩, hP, hg⟩ := (wp_iff_halts (M := model prog w) t R default s).mp h'
  obtain ⟨s'', hr, hf, hc⟩ := runNI_real (denote table) prog w hn (outcomeOf_ends _)
  obtain rfl := Shared.eq_of_forget_eq hf hg
  obtain ⟨m, s₁, t₁, h1, h2⟩ := last_step hr
  obtain rfl := step_halt_same _ _ _ _ _ _ _ h2
  have hne : ∀ k s₂, runN (denote table) prog w k s ⟨t, .builtin "claim.caller" {}, default, []⟩ ≠ .halted (.unsupported "lifetime:generator-with-cleanup-left-suspended") s₂ := by
    intro k s₂ hk
    have a := runN_mono (denote table) prog w n k s _ _ _ hr
    have b := runN_mono (denote table) prog w k n s _ _ s₂ hk
    rw [Nat.add_comm, b] at a
    injection a with a1 _
    cases a1
  have e := schedN_eq_runN (denote table) prog w s _ hreg ⟨hc, hne⟩ m
  rw [h1] at e
  exact ⟨s'', ⟨m, t₁, e, through_of_halt h2⟩, runN_life _ _ _ hr, hP, hg⟩
end Mine

end
section
open PySem PySem.Calls PyProof.Rows PySem.W
set_option linter.unusedVariables false
set_option maxRecDepth 100000
namespace Mine
/-! ### rules for the top: names of the module, octets, chr, ord, % -/
section
variable {X : Cx} {n : Nat} {B : Base} {env : Env} {O : Own} {Γ : Gam}
structure Cx.MGood (X : Cx) : Prop where
  b : X.h₀.Ns builtinsNs X.mb
  boot : ∀ x : Str, x ≠ "__name__" → X.mb x = bootBuiltins x
theorem EvV.mblt (G : X.MGood) {x : Str} {pos : Pos} {v : Value} (hx : X.m₀ x = none) (hv : bootBuiltins x = some v) (hn : x ≠ "__name__") (hl : env.kindOf x = some .globalImplicit := by rfl) (hk : env.scope.kind = .module := by rfl)
    (hle : env.locals = env.globals := by rfl) (hbs : env.builtins = builtinsNs := by rfl) (hb : (x == ("__debug__" : Str)) = false := by rfl) : EvV X B env O Γ (.Name x pos) v := by
  intro A s S Q E F k
  obtain ⟨m, hm, hneg⟩ := F.neg hk
  have hx' : m x = none := (hneg x (by rw [hl]; decide)).trans hx
  rw [hle] at hm
  have hbn : s.heap.Ns env.builtins X.mb := by rw [hbs]; exact G.b.keeps fun a o e => F.sub a o (F.base a o e)
  exact Name_module hk hle (loadGlobal_builtin hm hx' hbn ((G.boot x hn).trans hv) k) hb
theorem Ev.mname {x : Str} {pos : Pos} {d : D} (hd : Γ.lookup x = some d) (hl : env.kindOf x = some .local := by rfl) (hk : env.scope.kind = .module := by rfl)
    (hle : env.locals = env.globals := by rfl) (hb : (x == ("__debug__" : Str)) = false := by rfl) : Ev X n B env O Γ (.Name x pos) d := by
  intro A s S Q E ok F k
  obtain ⟨m, hm, hv⟩ := F.ns
  obtain ⟨v, e, r⟩ := hv x d hd hl
  rw [hle] at hm
  exact Name_module hk hle (loadGlobal_global hm e (k S v s.heap s.toks (.refl F.sub) r)) hb
theorem Ev.cbytes {b : List UInt8} {k : Nat} {pos : Pos} : Ev X n B env O Γ (.Constant (.bytes b) k pos) (.byt b) := by
  intro A s S Q E ok F k
  exact (fun _ _ _ => k S (.bytes b.toArray s.toks) _ _ (.refl F.sub) (.byt b.toArray _) : wpAny X.M A (mkTextBytes b.toArray) Q E s)
theorem Op2.addB (a b : List UInt8) (h : a.length + b.length ≤ 16777216) : Op2 X n (binaryOp .Add) (.byt a) (.byt b) (.byt (a ++ b)) := by
  intro A s S v₁ v₂ Q E ok sub base r1 r2 k
  cases r1 with
  | byt b1 t1 =>
  cases r2 with
  | byt b2 t2 =>
  refine KBy.add_bytes (by simpa using h) fun t' k' => ?_
  have := Rd.byt (S := S) (b1 ++ b2) t'
  rw [Array.toList_append] at this
  exact k S _ s.heap k' (.refl sub) this
theorem EvIt.bytes {e : Expr} {b : List UInt8} (h : Ev X n B env O Γ e (.byt b)) : EvIt X n B env O Γ e (b.map fun c => .int (c.toNat : Int)) := by
  intro A s S Q E ok F k
  refine h A s S _ _ ok F fun S₁ v h₁ t₁ a₁ r₁ => ?_
  cases r₁ with
  | byt b t =>
    refine KBw.pyIter_bytes (s := { s with heap := h₁, toks := t₁ }) ?_
    refine k S₁ h₁ h₁.objs.size _ t₁ [h₁.objs.size] (fun i v => ∃ c u, b[i]? = some c ∧ v = .int (c.toNat : Int) u) (fun i h => KBw.IsBytesIter h h₁.objs.size b t i) a₁ (Ext.push _ _) (none_size _) ⟨?_, ?_, ?_, ?_, ?_, ?_⟩
    · have := KBw.walks (prog := X.prog) (w := X.w) (A := A) ok.1 h₁.objs.size b t
      rw [show b.size = (b.toList.map fun c => D.int (c.toNat : Int)).length by simp] at this
      exact this
    · exact ⟨_, Heap.get?_push_size _ rfl, rfl, rfl⟩
    · intro b hb hn; simp at hb; exact absurd hb hn
    · rw [Heap.get?_push_size _ rfl]; rfl
    · rintro i h ⟨o, ho, _⟩; rw [ho]; rfl
    · rintro i v d ⟨c, u, hc, rfl⟩ hd
      rw [List.getElem?_map, Array.getElem?_toList, hc] at hd
      cases hd
      exact .int _ _
theorem OpN.chr {i : Nat} (h : i < 256) : OpN X n (fun vs => PySem.call (.builtin "chr") vs) [.int i] (.str (tx [i])) := by
  intro A s S vs Q E ok sub base r k
  obtain ⟨_, rfl, ra⟩ := r.inv_one; have r := ra; obtain ⟨t, rfl⟩ := r.inv_int
  refine PySem.P.chr_of_int (by simp; omega) ?_
  exact k S _ s.heap _ (.refl sub) (.str _ _)
theorem OpN.ord {c : Nat} : OpN X n (fun vs => PySem.call (.builtin "ord") vs) [.str (tx [c])] (.int c) := by
  intro A s S vs Q E ok sub base r k
  obtain ⟨_, rfl, ra⟩ := r.inv_one; have r := ra; obtain ⟨t, rfl⟩ := r.inv_str
  refine PySem.P.ord_of_char ?_
  exact k S _ s.heap _ (.refl sub) (.int _ _)
end
/-! encode: of the two texts that the top encodes -/
def asciiT : List Nat := [97, 115, 99, 105, 105]
def lettersT : List Nat := (List.range 26).map (97 + ·) ++ (List.range 26).map (65 + ·)
def digitsT : List Nat := (List.range 10).map (48 + ·)
set_option maxHeartbeats 4000000 in
theorem encode_letters (t u : Tok) : Builtin.«str.encode» ⟨[.str (tx lettersT) t, .str (tx asciiT) u], []⟩ = (do ret (← mkBytes (lettersT.map fun c => UInt8.ofNat c).toArray)) := by kernel_rfl
set_option maxHeartbeats 4000000 in
theorem encode_digits (t u : Tok) : Builtin.«str.encode» ⟨[.str (tx digitsT) t, .str (tx asciiT) u], []⟩ = (do ret (← mkBytes (digitsT.map fun c => UInt8.ofNat c).toArray)) := by kernel_rfl
section
variable {X : Cx} {n : Nat} {B : Base} {env : Env} {O : Own} {Γ : Gam}
theorem OpN.encode {l : List Nat} (h : ∀ t u, Builtin.«str.encode» ⟨[.str (tx l) t, .str (tx asciiT) u], []⟩ = (do ret (← mkBytes (l.map fun c => UInt8.ofNat c).toArray))) (hz : l.length ≤ 1000) :
    OpN X n (fun vs => PySem.call (.builtin "str.encode") vs) [.str (tx l), .str (tx asciiT)] (.byt (l.map fun c => UInt8.ofNat c)) := by
  intro A s S vs Q E ok sub base r k
  obtain ⟨_, _, rfl, ra, rb⟩ := r.inv_two; have r := ra; have r2 := rb
  obtain ⟨t, rfl⟩ := r.inv_str
  obtain ⟨u, rfl⟩ := r2.inv_str
  refine wpAny_call_entry F.slot_str_encode (typeIs_str _ _ _) F.entry_str_encode ?_ (F.args_str_encode_2 _ _)
  rw [h t u]
  refine wpAny_bind (wpAny_mkBytes (wpAny_pure ⟨_, rfl, ?_⟩) ?_)
  · exact k S _ s.heap _ (.refl sub) (.byt _ _)
  · simp [sizeLine]; omega
end
end Mine

end
section
open PySem PySem.Calls PyProof.Rows PySem.W
set_option linter.unusedVariables false
set_option maxRecDepth 100000
namespace Mine
def hx (n : Nat) : Nat := if n < 10 then 48 + n else 55 + n
def qp (i : Nat) : List Nat := [61, hx (i / 16), hx (i % 16)]
open Builtin Builtin.Str in
def pcF : Percent := { ljust := false, sign := false, blank := false, alt := false, zero := true, width := some 2, prec := none, type := 88 }
open Builtin Builtin.Str in
def pcT (i : Nat) : List Nat := percentInt pcF false ((Nat.toDigits 16 i).map Char.toNat)
open Builtin Builtin.Str in
theorem pc_all : ∀ i : _root_.Fin 256, (percentField pcF true (pcT i.val)).getD (pcT i.val) = [hx (i.val / 16), hx (i.val % 16)] := by decide +kernel
open Builtin Builtin.Str in
theorem fmt_meets (i : Nat) (hi : i < 256) (t u : Tok) : Meets («str.__mod__» ⟨[.str ⟨#[61, 37, 48, 50, 88]⟩ t, .int i u], []⟩) (fun _ R s => ∀ t' k, R (.ok (.ret (.str (tx (qp i)) t'))) { s with toks := k }) := by
  apply KPc.meets_of
  intro prog w A s Q E h
  rw [KPc.entry_is]
  unfold Builtin.Str.percentFormat
  refine wpAny_bind (wpAny_isInstance (typeIs_int _ _ _) F.sub_int_tuple ?_)
  refine wpAny_bind (wpAny_of_eq (a := none) rfl ?_)
  refine wpAny_bind (wpAny_of_eq (KPc.fills _ _) ?_)
  kpc_if
  refine wpAny_bind (wpAny_pure ?_)
  refine wpAny_bind ?_
  rw [KPc.range_list]
  refine KPc.start ?_
  intro w' g
  refine KPc.turn ?_
  kpc_check
  (repeat kpc_if)
  refine wpAny_pure ?_
  kpc_piece
  refine KPc.turn ?_
  kpc_check
  (repeat kpc_if)
  refine wpAny_bind ?_
  refine wpAny_holding ?_
  (repeat kpc_if)
  refine wpAny_bind (wpAny_of_eq (a := (i : Int)) rfl ?_)
  (repeat kpc_if)
  refine wpAny_bind (wpAny_pure ?_)
  refine wpAny_pure ?_
  have hneg : decide ((i : Int) < 0) = false := decide_eq_false (by omega)
  rw [hneg]
  have key := pc_all ⟨i, hi⟩
  show wpAny _ _ (match percentField pcF true (pcT i) with | none => _ | some laid => _) _ _ _
  generalize percentField pcF true (pcT i) = r at key ⊢
  rename_i w1 g1
  cases r with
  | none =>
    refine wpAny_pure ?_
    refine KPc.after_add (y := tx [hx (i / 16), hx (i % 16)]) g1 (congrArg (fun l => (⟨l.toArray⟩ : PySem.Str)) key) (by kpc_obj) ?_
    intro w2 g2
    replace g2 := KPc.good_mono (K := 3) g2 (Nat.le_of_ble_eq_true rfl)
    clear g g1
    refine KPc.turn ?_
    kpc_check
    (repeat kpc_if)
    refine wpAny_pure ?_
    kpc_if
    exact KPc.finish_ok (w := w2) (T := Str.ofString "=" ++ tx [hx (i / 16), hx (i % 16)]) (N := 3) (T' := tx (qp i)) g2 (by decide) (by rfl) h
  | some laid =>
    refine wpAny_pure ?_
    refine KPc.after_add (y := tx [hx (i / 16), hx (i % 16)]) g1 (congrArg (fun l => (⟨l.toArray⟩ : PySem.Str)) key) (by kpc_obj) ?_
    intro w2 g2
    replace g2 := KPc.good_mono (K := 3) g2 (Nat.le_of_ble_eq_true rfl)
    clear g g1
    refine KPc.turn ?_
    kpc_check
    (repeat kpc_if)
    refine wpAny_pure ?_
    kpc_if
    exact KPc.finish_ok (w := w2) (T := Str.ofString "=" ++ tx [hx (i / 16), hx (i % 16)]) (N := 3) (T' := tx (qp i)) g2 (by decide) (by rfl) h
section
variable {X : Cx} {n : Nat} {B : Base} {env : Env} {O : Own} {Γ : Gam}
theorem Op2.qp {i : Nat} (hi : i < 256) : Op2 X n (binaryOp .Mod) (.str (tx [61, 37, 48, 50, 88])) (.int i) (.str (tx (qp i))) := by
  intro A s S v₁ v₂ Q E ok sub base r1 r2 k
  obtain ⟨t, rfl⟩ := r1.inv_str
  obtain ⟨u, rfl⟩ := r2.inv_int
  refine KPc.mod_lit (X' := ⟨#[61, 37, 48, 50, 88]⟩) rfl ?_ (fun _ _ => fmt_meets i hi t u) fun t' k' => k S _ s.heap k' (.refl sub) (.str _ _)
  have : (i : Int).natAbs < 2 ^ 1919 := by
    have : (256 : Nat) ≤ 2 ^ 1919 := by decide +kernel
    omega
  rcases Nat.eq_zero_or_pos i with q | q
  · subst q; decide +kernel
  · exact Nat.lt_trans ((Nat.log2_lt (by omega)).mpr this) (by decide)
end
end Mine

end
section
open PySem PySem.Calls PyProof.Rows PySem.W
set_option linter.unusedVariables false
set_option maxRecDepth 100000
namespace Mine
theorem setItem_plain {prog : Program} {w : World} {A : Around} {E : Value → Shared → Prop} {s : Shared} {l : Addr} {items : Array Value} {k : Int} {t : Tok} {v : Value} {Q : Unit → Shared → Prop} (hl : s.heap.PlainList l items)
    (h0 : 0 ≤ k) (hfit : k < 2 ^ 63) (hn : k < items.size)
    (hQ : ∀ h', h'.PlainList l (items.setIfInBounds k.toNat v) → Heap.SameBut l s.heap h' → Q () { s with heap := h' }) :
    wpAny (model prog w) A (setItem (.ref l) (.int k t) v) Q E s := by
  obtain ⟨n, ho⟩ := hl
  exact ki_setAt ho h0 hfit hn (hQ _ ⟨_, Heap.get?_update_self (Obj.mapSeq (·.setIfInBounds k.toNat v)) ho rfl⟩ (Heap.SameBut.update ..))
theorem RdL.set {S : PM} {vs : List Value} {ds : List D} (h : RdL S vs ds) {v : Value} {d : D} (r : Rd S v d) : ∀ i, RdL S (vs.set i v) (ds.set i d) := by
  induction vs generalizing ds with
  | nil => cases h; intro i; exact .nil
  | cons w ws ih =>
    cases h with
    | cons h1 h2 =>
      intro i
      cases i with
      | zero => exact .cons r h2
      | succ i => exact .cons h1 (ih h2 i)
theorem pickL_all {α : Type} (xs : List α) : pickL xs none none none = xs := by
  have h := pickL_run xs 0 xs.length (Nat.zero_le _) (Nat.le_refl _)
  have e : sliceBounds none none none xs.length = sliceBounds (some ((0 : Nat) : Int)) (some (xs.length : Int)) none xs.length := by
    unfold sliceBounds
    simp
    refine ⟨by omega, ?_⟩
    rw [if_neg (by omega)]
    omega
  unfold pickL at h ⊢
  rw [e, h]
  simp
section
variable {X : Cx} {n : Nat} {B : Base} {env : Env} {O : Own} {Γ : Gam}
/-- an own list's content is turned -/
theorem Frm.reown {S : PM} {h h' : Heap} {a : Addr} {ds es : List D} {vs : Array Value} (F : Frm X B S env O h Γ) (e : O a = some ds) (r : RdL S vs.toList es) (hl : h'.PlainList a vs) (hs : Heap.SameBut a h h') :
    Frm X B S env (updO O a es) h' Γ where
  base := F.base
  sub := fun b o e' => (hs.2 b (fun q => by rw [q, (F.own a ds e).1] at e'; cases e')).trans (F.sub b o e')
  keep := fun b o e' => (hs.2 b (fun q => by rw [q, (F.own a ds e).2.1] at e'; cases e')).trans (F.keep b o e')
  old := F.old
  loc := F.loc
  locH := F.locH
  ns := by
    obtain ⟨m, hm, hv⟩ := F.ns
    exact ⟨m, hm.sameBut hs (F.ownNe e).1, hv⟩
  neg := fun q => let ⟨m, hm, hv⟩ := F.neg q; ⟨m, hm.sameBut hs (F.ownNe e).1, hv⟩
  cells := fun x c hx => by
    obtain ⟨v, hc, hv⟩ := F.cells x c hx
    exact ⟨v, hc.sameBut hs (fun q => (F.ownNe e).2 x (q ▸ hx)), hv⟩
  wr := F.wr
  apart := F.apart
  own := fun b es' hb => by
    by_cases q : b = a
    · subst q
      rw [updO_self] at hb; cases hb
      obtain ⟨n, ho⟩ := hl
      exact ⟨(F.own _ ds e).1, (F.own _ ds e).2.1, _, vs, n, ho, ⟨rfl, rfl, rfl⟩, rfl, r⟩
    · have hb' : O b = some es' := by simpa [updO, q] using hb
      obtain ⟨h1, h2, o, vs, n, ho, hc, hd, r⟩ := F.own b es' hb'
      exact ⟨h1, h2, o, vs, n, (hs.2 b q).trans ho, hc, hd, r⟩
/-- x[i] = e, of an own list -/
theorem Ex1.setItem {o e₁ e₂ : Expr} {sp pos : Pos} {a : Addr} {ds : List D} {i : Nat} {d : D} (hx : Ev X n B env O Γ o (.own a)) (hO : O a = some ds) (h1 : Ev X n B env O Γ e₁ (.int i)) (h2 : Ev X n B env O Γ e₂ d) (hi : i < ds.length) (hz : ds.length ≤ 100000)
    (hs : swapsWith e₂ (some (.Subscript o e₁ sp)) pos.line env = pure false := by rfl) :
    Ex1 X n B env O Γ (.Assign [.Subscript o e₁ sp] e₂ pos) fun f O' Γ' => f = .next ∧ O' = updO O a (ds.set i d) ∧ Γ' = Γ := by
  intro A s S Q E ok F k
  refine wpAny_Assign_Subscript (h2 A s S _ _ ok F fun S₁ v h₁ t₁ a₁ r₁ => ?_) hs
  have F₁ := F.adv a₁
  refine hx A _ S₁ _ _ ok F₁ fun S₂ ov h₂ t₂ a₂ r₂ => ?_
  cases r₂
  have F₂ := F₁.adv a₂
  refine h1 A _ S₂ _ _ ok F₂ fun S₃ iv h₃ t₃ a₃ r₃ => ?_
  obtain ⟨t, rfl⟩ := r₃.inv_int
  have F₃ := F₂.adv a₃
  obtain ⟨vs, hp, hr⟩ := F₃.plain hO
  have hlen : vs.size = ds.length := by have := hr.length; simpa using this
  refine setItem_plain (s := { s with heap := h₃, toks := t₃ }) hp (by omega) (by omega) (by omega) fun h₄ hl₄ hs₄ => ?_
  rw [Int.toNat_natCast] at hl₄
  have r4 : RdL S₃ (vs.setIfInBounds i v).toList (ds.set i d) := by
    rw [Array.toList_setIfInBounds]
    exact hr.set ((r₁.mono a₂.le).mono a₃.le) i
  exact k S₃ .next .next _ _ h₄ t₃ ((a₁.trans (a₂.trans a₃)).evo.trans (Evo.append hO hl₄ hs₄)) (F₃.reown hO r4 hl₄ hs₄) .next ⟨rfl, rfl, rfl⟩
/-- a new list, kept as an own one -/
theorem Frm.newOwn {S : PM} {h : Heap} {vs : Array Value} {ds : List D} (F : Frm X B S env O h Γ) (r : RdL S vs.toList ds) : O h.objs.size = none ∧ Frm X B S env (updO O h.objs.size ds) (h.push { cls := .type "list", data := .seq vs }) Γ ∧
    Evo env O S h (updO O h.objs.size ds) S (h.push { cls := .type "list", data := .seq vs }) := by
  have ext := Ext.push h ({ cls := .type "list", data := .seq vs } : Obj)
  have hn := none_size h
  have a₁ := Adv.of_ext F.sub ext
  have hO : O h.objs.size = none := by
    cases e : O h.objs.size with
    | none => rfl
    | some ds => obtain ⟨_, _, o, _, _, ho, _⟩ := F.own _ _ e; rw [hn] at ho; cases ho
  refine ⟨hO, { F.adv a₁ with
      own := fun b es hb => by
        by_cases q : b = h.objs.size
        · subst q
          rw [updO_self] at hb; cases hb
          refine ⟨?_, ?_, _, vs, 0, Heap.get?_push_size _ rfl, ⟨rfl, rfl, rfl⟩, rfl, r⟩
          · cases e : S h.objs.size with
            | none => rfl
            | some o => have := F.sub _ _ e; rw [hn] at this; cases this
          · cases e : B.H.get? h.objs.size with
            | none => rfl
            | some o => have := F.keep _ _ e; rw [hn] at this; cases this
        · exact (F.adv a₁).own b es (by simpa [updO, q] using hb) }, ?_⟩
  refine ⟨.refl S, fun _ _ _ e _ => e, fun b o e _ _ _ => ext b o e, fun b e => ?_, fun b e q => ?_⟩
  · obtain ⟨o, e⟩ := Option.isSome_iff_exists.mp e
    rw [ext _ _ e]; rfl
  · have : b ≠ h.objs.size := by rintro rfl; rw [hn] at e; cases e
    simpa [updO, this] using q
/-- x = y[:] -/
theorem Ex1.ownSlice {x : Str} {px p sp pos : Pos} {value : Expr} {ds : List D} (h : Ev X n B env O Γ value (.list ds)) (hz : ds.length ≤ sizeLine) (st : Sto B env x) (hk : kindOk env = true := by rfl)
    (hs : swapsWith (.Subscript value (.Slice none none none p) sp) (some (.Name x px)) pos.line env = pure false := by rfl) :
    Ex1 X n B env O Γ (.Assign [.Name x px] (.Subscript value (.Slice none none none p) sp) pos) fun f O' Γ' => f = .next ∧ ∃ a, O a = none ∧ O' = updO O a ds ∧ Γ' = (x, .own a) :: Γ := by
  intro A s S Q E ok F k
  refine wpAny_Assign_Name ?_ hs
  refine Subscript_ (h A s S _ _ ok F fun S₁ v₁ h₁ t₁ a₁ r₁ => ?_)
  refine wpAny_Slice (evalPart_none_step (evalPart_none_step (evalPart_none_step ?_)))
  obtain ⟨l, vs, rfl, hl, hr⟩ := r₁.isList a₁.sub
  have a5 : Adv S₁ h₁ S₁ (h₁.push { cls := .type "slice", data := .fields #[.none, .none, .none] }) := Adv.of_ext a₁.sub (Ext.push _ _)
  have hl' : (h₁.push { cls := .type "slice", data := .fields #[.none, .none, .none] }).IsList l vs.toArray := hl.push _
  refine subTail (s := { s with heap := h₁.push { cls := .type "slice", data := .fields #[.none, .none, .none] }, toks := t₁ }) hl'.typeIs slot_list_getitem.lookup
    (wpAny_getItem_list_slice (s := { s with heap := h₁.push { cls := .type "slice", data := .fields #[.none, .none, .none] }, toks := t₁ }) hl' (Heap.IsSliceOf.new ..) .none .none .none (by simp) ?_ (by rw [List.size_toArray, hr.length]; exact hz))
  have F5 := F.adv (a₁.trans a5)
  have hpick : (slicePick vs.toArray none none none).toList = vs := by
    have := pickL_all vs
    unfold slicePick
    unfold pickL at this
    simpa using this
  obtain ⟨hO, F₆, ev₆⟩ := F5.newOwn (vs := slicePick vs.toArray none none none) (ds := ds) (by rw [hpick]; exact hr)
  refine storeName_F (s := { s with heap := _, toks := t₁ }) F₆ st (.own _) hk fun h' tk ev F' => ?_
  refine k S₁ .next .next _ _ h' tk ((a₁.trans a5).evo.trans (ev₆.trans ev)) F' .next ⟨rfl, _, ?_, rfl, rfl⟩
  exact hO
/-- del x -/
theorem Ex1.del {x : Str} {p pos : Pos} {d₀ : D} {Γ₁ : Gam} (hx : Γ.lookup x = some d₀) (hΓ : ∀ y d, Γ₁.lookup y = some d → Γ.lookup y = some d ∧ y ≠ x) (hl : env.kindOf x = some .local := by rfl) (hk : kindOk env = true := by rfl) :
    Ex1 X n B env O Γ (.Delete [.Name x p] pos) fun f O' Γ' => f = .next ∧ O' = O ∧ Γ' = Γ₁ := by
  intro A s S Q E ok F k
  obtain ⟨m, hm, hv⟩ := F.ns
  obtain ⟨v, ev, rv⟩ := hv x d₀ hx hl
  refine wpAny_Delete (wpAny_deleteEach_cons (wpAny_delete_Name (wpAny_unbindName_local hl hm ev (kindOk_plain hk) fun h' u hn hs => wpAny_deleteEach_nil ?_)))
  have F' : Frm X B S env O h' Γ₁ :=
    { base := F.base
      sub := fun a o e => (hs.2 a (fun q => by rw [q, F.loc] at e; cases e)).trans (F.sub a o e)
      keep := fun a o e => (hs.2 a (fun q => by rw [q, F.locH] at e; cases e)).trans (F.keep a o e)
      old := F.old
      loc := F.loc
      locH := F.locH
      ns := ⟨_, hn, fun y e he kd => by
        obtain ⟨h1, h2⟩ := hΓ y e he
        obtain ⟨v', e1, r⟩ := hv y e h1 kd
        exact ⟨v', (if_neg h2).trans e1, r⟩⟩
      neg := fun q => ⟨_, hn, fun y hy => by
        have hne : y ≠ x := by rintro rfl; exact hy hl
        rw [if_neg hne]
        obtain ⟨m', hm', hv'⟩ := F.neg q
        rw [Ns_det hm hm']
        exact hv' y hy⟩
      cells := fun y c e => by
        obtain ⟨v', hc, hv'⟩ := F.cells y c e
        have hne : c ≠ env.locals := by
          rintro rfl
          obtain ⟨o, ho, hd⟩ := hc
          obtain ⟨o', es, ep, ho', hd', _⟩ := hm
          rw [ho] at ho'; cases ho'; rw [hd] at hd'; cases hd'
        exact ⟨v', hc.sameBut hs hne, fun e' he kd => hv' e' (hΓ y e' he).1 kd⟩
      wr := F.wr
      apart := F.apart
      own := fun a ds e => by
        obtain ⟨h1, h2, o, vs, n, ho, hc, hd, r⟩ := F.own a ds e
        have hne : a ≠ env.locals := by
          rintro rfl
          obtain ⟨o', es, ep, ho', hd', _⟩ := hm
          rw [ho] at ho'; cases ho'; rw [hd] at hd'; cases hd'
        exact ⟨h1, h2, o, vs, n, (hs.2 a hne).trans ho, hc, hd, r⟩ }
  refine k S _ _ O _ h' s.toks ⟨.refl S, fun _ _ _ e _ => e, fun a o e n1 _ _ => (hs.2 a n1).trans e, fun a e => ?_, fun _ _ e => e⟩ F' .next ⟨rfl, rfl, rfl⟩
  by_cases q : a = env.locals
  · subst q; obtain ⟨o, _, _, ho, _⟩ := hn; rw [ho]; rfl
  · rw [hs.2 a q]; exact e
end
end Mine

end
section
open PySem PySem.Calls PyProof.Rows PySem.W
set_option linter.unusedVariables false
set_option maxRecDepth 100000
namespace Mine
section
variable {X : Cx} {n : Nat} {B : Base} {env : Env} {O : Own} {Γ : Gam}
/-- a frame, when new objects come, and one of the outside is turned -/
theorem Frm.grow {S S₂ : PM} {h h₂ : Heap} {I : Addr} (F : Frm X B S env O h Γ) (o : Out B S env O I) (hx : ∀ b ob, b ≠ I → h.get? b = some ob → h₂.get? b = some ob) (le : Le S S₂)
    (sub₂ : ∀ b ob, S₂ b = some ob → S b = none → h₂.get? b = some ob) (new : ∀ b, (h.get? b).isSome = true → S₂ b = S b) : Frm X B S₂ env O h₂ Γ where
  base := F.base.trans le
  sub := fun b ob e => by
    cases q : S b with
    | none => exact sub₂ b ob e q
    | some ob' =>
      have := le _ _ q
      rw [e] at this; cases this
      exact hx b ob (fun q' => by rw [q', o.s] at q; cases q) (F.sub b ob q)
  keep := fun a ob e => hx a ob (fun q => by rw [q, o.H] at e; cases e) (F.keep a ob e)
  old := fun a ob e e' => F.old a ob e (by rw [← new a (by rw [F.keep a ob e]; rfl)]; exact e')
  loc := by
    obtain ⟨m, ⟨oL, es, ep, hL, r⟩, _⟩ := F.ns
    rw [new _ (by rw [hL]; rfl)]; exact F.loc
  locH := F.locH
  ns := by
    obtain ⟨m, hm, hv⟩ := F.ns
    exact ⟨m, hm.extBut (fun b ob q e => hx b ob q e) (Ne.symm o.l), fun y d e k => let ⟨v, e1, r⟩ := hv y d e k; ⟨v, e1, r.mono le⟩⟩
  neg := fun q => let ⟨m, hm, hv⟩ := F.neg q; ⟨m, hm.extBut (fun b ob q e => hx b ob q e) (Ne.symm o.l), hv⟩
  cells := fun x c e => by
    obtain ⟨v, ⟨oc, hc, hd⟩, hv⟩ := F.cells x c e
    exact ⟨v, ⟨oc, hx c oc (fun q => o.c x (q ▸ e)) hc, hd⟩, fun d e' k => let ⟨v, e1, r⟩ := hv d e' k; ⟨v, e1, r.mono le⟩⟩
  wr := fun x c e q => by
    obtain ⟨v, ⟨oc, hc, hd⟩, hv⟩ := F.cells x c e
    exact ⟨by rw [new c (by rw [hc]; rfl)]; exact (F.wr x c e q).1, (F.wr x c e q).2⟩
  apart := F.apart
  own := fun a ds e => by
    obtain ⟨h1, h2, oa, vs, k, ho, hc, hd, r⟩ := F.own a ds e
    exact ⟨by rw [new a (by rw [ho]; rfl)]; exact h1, h2, oa, vs, k, hx a oa (fun q => by rw [q, o.o] at e; cases e) ho, hc, hd, r.mono le⟩

/-- the frame of the top -/
structure MF (X : Cx) (B : Base) (c Pl : Addr) (S : PM) (env : Env) (O : Own) (h : Heap) (Γ : Gam) (ps : List Pos) : Prop where
  F : Frm X B S env O h Γ
  code : ∃ l : List (Pos × Addr), l.map (·.1) = ps ∧ h.IsCode c Pl (triples l).toArray
  oc : Out B S env O c
  op : Out B S env O Pl
theorem MF.evo {c Pl : Addr} {S S' : PM} {O' : Own} {h h' : Heap} {Γ' : Gam} {ps : List Pos} (M : MF X B c Pl S env O h Γ ps) (ev : Evo env O S h O' S' h') (F' : Frm X B S' env O' h' Γ') : MF X B c Pl S' env O' h' Γ' ps := by
  obtain ⟨l, hl, hc⟩ := M.code
  have a1 : (h.get? c).isSome = true := by obtain ⟨o, _, _, _, _, _, _, _, _, _, a, _⟩ := hc; rw [a]; rfl
  have a2 : (h.get? Pl).isSome = true := by obtain ⟨o, _, _, _, _, _, _, _, _, _, _, _, _, _, _, _, _, b, _⟩ := hc; rw [b]; rfl
  exact ⟨F', ⟨l, hl, hc.at2 (fun o e => ev.ext _ _ e M.oc.l M.oc.c M.oc.o) (fun o e => ev.ext _ _ e M.op.l M.op.c M.op.o)⟩, M.oc.evo ev a1, M.op.evo ev a2⟩

/-- several expressions, as defaults are evaluated -/
def EvA (X : Cx) (n : Nat) (B : Base) (env : Env) (O : Own) (Γ : Gam) (es : List Expr) (ds : List D) : Prop :=
  ∀ (A : Around) (s : Shared) (S : PM) (Q : List Value → Shared → Prop) (E : Value → Shared → Prop), Ok n A → Frm X B S env O s.heap Γ →
    (∀ S' vs h' tk, Adv S s.heap S' h' → RdL S' vs ds → Q vs { s with heap := h', toks := tk }) → wpAny X.M A (evalAll (evalEach es env)) Q E s
theorem EvA.nil : EvA X n B env O Γ [] [] := fun A s S Q E ok F k => wpAny_pure (k S [] s.heap s.toks (.refl F.sub) .nil)
theorem EvA.cons {e : Expr} {es : List Expr} {d : D} {ds : List D} (h1 : Ev X n B env O Γ e d) (h2 : EvA X n B env O Γ es ds) : EvA X n B env O Γ (e :: es) (d :: ds) := by
  intro A s S Q E ok F k
  rw [evalEach, evalAll]
  refine wpAny_bind (h1 A s S _ _ ok F fun S₁ v h₁ t₁ a₁ r₁ => ?_)
  refine wpAny_bind (wpAny_holding (h2 A _ S₁ _ _ ok (F.adv a₁) fun S₂ vs h₂ t₂ a₂ r₂ => wpAny_pure ?_))
  exact k S₂ (v :: vs) h₂ t₂ (a₁.trans a₂) (.cons (r₁.mono a₂.le) r₂)

/-- a def, as it stands frozen -/
def DefS (S : PM) (name : Str) (params : Arguments) (body : List Stmt) (scope : Scope) (a : Addr) (ds : List D) : Prop :=
  ∃ md c' doc dV, S a = some { cls := .type "function", data := .func (defFd name name params body scope mainGlobals dV .none none md (.ref c') doc) } ∧
    (∃ o vs t, S c' = some o ∧ o.data = .fields vs ∧ vs[1]? = some (.str name t)) ∧
    ((ds = [] ∧ dV = .none) ∨ (ds ≠ [] ∧ ∃ T vs, dV = .ref T ∧ S T = some { cls := .type "tuple", data := .seq vs.toArray } ∧ RdL S vs ds))
theorem DefS.mono {S S' : PM} (le : Le S S') {name : Str} {params : Arguments} {body : List Stmt} {scope : Scope} {a : Addr} {ds : List D} (h : DefS S name params body scope a ds) : DefS S' name params body scope a ds := by
  obtain ⟨md, c', doc, dV, h1, ⟨o, vs, t, h2, h3, h4⟩, h5⟩ := h
  refine ⟨md, c', doc, dV, le _ _ h1, ⟨o, vs, t, le _ _ h2, h3, h4⟩, ?_⟩
  rcases h5 with h5 | ⟨h9, T, vs, h6, h7, h8⟩
  · exact .inl h5
  · exact .inr ⟨h9, T, vs, h6, le _ _ h7, h8.mono le⟩
/-- what a def asks of the frame of the top -/
structure TopEnv (X : Cx) (env : Env) (c : Addr) : Prop where
  hk : env.scope.kind = .module
  hl : env.locals = mainGlobals
  hg : env.globals = mainGlobals
  hc : env.code = .ref c
  nb : env.kindOf "__builtins__" ≠ some .local
  bm : ∃ bm o, X.m₀ "__builtins__" = some (.ref bm) ∧ bm ≠ builtinsNs ∧ bm ≠ mainGlobals ∧ X.h₀.get? bm = some o ∧ o.cls = .type "module" ∧ o.dict = some builtinsNs ∧ o.data = .plain
theorem def_F {c Pl : Addr} {A : Around} {s : Shared} {S : PM} {name : Str} {params : Arguments} {body : List Stmt} {scope : Scope} {pos : Pos} {ps : List Pos} {ds : List D} {Q : Flow → Shared → Prop} {E : Value → Shared → Prop} (te : TopEnv X env c)
    (ok : Ok n A) (M : MF X B c Pl S env O s.heap Γ ps) (hd : EvA X n B env O Γ params.defaults ds) (hkw : params.kwonlyargs = []) (hkd : params.kw_defaults = []) (hann : annTrees params none env = []) (hfree : ∀ x ∈ scope.names, x.2 ≠ .free) (hq : qualnameIn env name name = name)
    (hnf : ∀ q ∈ ps, ¬ (q.line = pos.line ∧ q.col = pos.col)) (hloc : env.kindOf name = some .local)
    (k : ∀ S' a h' tk, MF X B c Pl S' env O h' ((name, .own a) :: Γ) (ps ++ [pos]) → Le S S' → DefS S' name params body scope a ds → Q .next { s with heap := h', toks := tk }) :
    wpAny X.M A (exec (.FunctionDef name params body [] none [] scope none name pos) env) Q E s := by
  have kOk : kindOk env = true := by simp [kindOk, te.hk, te.hl, te.hg]
  rw [exec_def, hq, defaultsOf_eq, hkd, hann]
  refine wpAny_bind (wpAny_standAt (wpAny_bind (wpAny_holding ?_)))
  refine wpAny_bind (hd A s S _ _ ok M.F fun S₁ vs h₁ t₁ a₁ r₁ => ?_)
  have M₁ := M.evo a₁.evo (M.F.adv a₁)
  refine wpAny_bind (wpAny_holding (wpAny_pure ?_))
  refine wpAny_holding ?_
  refine wpAny_bind (wpAny_pure ?_)
  obtain ⟨l, hl, hcode⟩ := M₁.code
  obtain ⟨mg, hns, hneg⟩ := M₁.F.neg te.hk
  rw [te.hl] at hns
  have hb : h₁.BuiltinsAt mg Pl := by
    obtain ⟨bm, o, e1, e2, e3, e4, e5, e6, e7⟩ := te.bm
    have hS := M₁.F.base _ _ e4
    refine ⟨bm, o, (hneg _ te.nb).trans e1, e2, e3, (fun q => by rw [q, M₁.op.s] at hS; cases hS), M₁.F.sub _ _ hS, e5, e6, e7⟩
  have hgP : env.globals ≠ Pl := by rw [te.hg, ← te.hl]; exact Ne.symm M₁.op.l
  have hnf' : codeAmong pos (triples l) = none := codeAmong_triples pos l fun q hq' => hnf q.1 (by rw [← hl]; exact List.mem_map_of_mem hq')
  refine wpAny_makeFunction_d0 (s := { s with heap := h₁, toks := t₁ }) (c := c) (Pl := Pl) hkw hfree (te.hg ▸ hns) te.hc hcode (by simpa using hnf') hgP hb
    fun dV c' doc h₂ t₂ hdef hx hge hlt hok hrec => wpAny_bind (wpAny_standAt (wpAny_bind (wpAny_bindName ?_)))
  dsimp only at hdef hx hge ⊢
  generalize hfd : ({ cls := .type "function", data := .func (defFd name name params body scope env.globals dV .none none ((mg "__name__").getD .none) (.ref c') doc) } : Obj) = fo
  have hPl : Pl < h₁.objs.size := hcode.lt.2
  have sz2 : h₁.objs.size ≤ h₂.objs.size := Nat.le_trans hge (Nat.le_of_lt hlt)
  have hx2 : ∀ b ob, b ≠ Pl → h₁.get? b = some ob → (h₂.push fo).get? b = some ob := fun b ob q e => Heap.get?_push_of_some _ (hx b ob q e)
  let S₂ : PM := fun b => if b < h₁.objs.size then S₁ b else (h₂.push fo).get? b
  have hS₂ : ∀ b, h₁.objs.size ≤ b → S₂ b = (h₂.push fo).get? b := fun b q => if_neg (Nat.not_lt.mpr q)
  have le : Le S₁ S₂ := fun b ob e => by
    show (if b < h₁.objs.size then S₁ b else _) = _
    rw [if_pos (Heap.lt_size (M₁.F.sub _ _ e))]; exact e
  have new : ∀ b, (h₁.get? b).isSome = true → S₂ b = S₁ b := fun b e => by
    obtain ⟨o, e⟩ := Option.isSome_iff_exists.mp e
    exact if_pos (Heap.lt_size e)
  have F₂ : Frm X B S₂ env O (h₂.push fo) Γ := M₁.F.grow M₁.op hx2 le (fun b ob e e' => by
    by_cases q : b < h₁.objs.size
    · have : S₂ b = S₁ b := if_pos q
      rw [this, e'] at e; cases e
    · rw [hS₂ b (Nat.not_lt.mp q)] at e; exact e) new
  have hfo : S₂ h₂.objs.size = some fo := by rw [hS₂ _ sz2]; exact Heap.get?_push_size _ (by rw [← hfd]; rfl)
  refine storeName_F (s := { s with heap := h₂.push fo, toks := t₂ }) F₂ (.loc hloc) (.own h₂.objs.size) kOk fun h₃ t₃ ev₃ F₃ => wpAny_pure ?_
  have oc2 : Out B S₂ env O c := { M₁.oc with s := by rw [new c (by obtain ⟨o, _, _, _, _, _, _, _, _, _, a, _⟩ := hcode; rw [a]; rfl)]; exact M₁.oc.s }
  have op2 : Out B S₂ env O Pl := { M₁.op with s := by rw [new Pl (by obtain ⟨o, _, _, _, _, _, _, _, _, _, _, _, _, _, _, _, _, b, _⟩ := hcode; rw [b]; rfl)]; exact M₁.op.s }
  have M₂ : MF X B c Pl S₂ env O (h₂.push fo) Γ (ps ++ [pos]) := ⟨F₂, ⟨l ++ [(pos, c')], by rw [List.map_append, hl]; rfl, by
    rw [triples_append]
    have := hok.push fo
    simpa using this⟩, oc2, op2⟩
  refine k S₂ h₂.objs.size h₃ t₃ (M₂.evo ev₃ F₃) (a₁.le.trans le) ⟨(mg "__name__").getD .none, c', doc, dV, ?_, ?_, ?_⟩
  · rw [hfo, ← hfd, te.hg]
  · obtain ⟨c₂, o, vs', t, e1, e2, e3, e4⟩ := hrec
    cases e1
    exact ⟨o, vs', t, by rw [hS₂ _ hge]; exact Heap.get?_push_of_some _ e2, e3, e4⟩
  · rcases hdef with ⟨rfl, rfl⟩ | ⟨hne, T, rfl, hT, hTg⟩
    · cases r₁; exact .inl ⟨rfl, rfl⟩
    · exact .inr ⟨(by rintro rfl; cases r₁; exact hne rfl), T, vs, rfl, by rw [hS₂ _ hT]; exact Heap.get?_push_of_some _ hTg, r₁.mono le⟩

/-! ### a run of the top -/
def MR (X : Cx) (n : Nat) (B : Base) (c Pl : Addr) (env : Env) (P : PM → Prop) (O : Own) (Γ : Gam) (ps : List Pos) (ss : List Stmt) (Ψ : PM → Own → Gam → Prop) : Prop :=
  ∀ (A : Around) (s : Shared) (S : PM) (Q : Flow → Shared → Prop) (E : Value → Shared → Prop), Ok n A → MF X B c Pl S env O s.heap Γ ps → P S →
    (∀ S' O' Γ' ps' h' tk, MF X B c Pl S' env O' h' Γ' ps' → Ψ S' O' Γ' → Q .next { s with heap := h', toks := tk }) → wpAny X.M A (execs ss env) Q E s
variable {c Pl : Addr} {P : PM → Prop} {ps : List Pos} {Ψ : PM → Own → Gam → Prop}
theorem MR.nil (h : ∀ S, P S → Ψ S O Γ) : MR X n B c Pl env P O Γ ps [] Ψ := fun A s S Q E ok M p k => wpAny_execs_nil (k S O Γ ps s.heap s.toks M (h S p))
theorem MR.step {st : Stmt} {rest : List Stmt} {Φ : Post} (hP : ∀ S S', Le S S' → P S → P S') (h1 : Ex1 X n B env O Γ st Φ) (hn : ∀ f O' Γ', Φ f O' Γ' → f = .next) (h2 : ∀ O' Γ', Φ .next O' Γ' → MR X n B c Pl env P O' Γ' ps rest Ψ) :
    MR X n B c Pl env P O Γ ps (st :: rest) Ψ := by
  intro A s S Q E ok M p k
  refine wpAny_execs_cons (h1 A s S _ _ ok M.F fun S₁ fl f O₁ Γ₁ h₁ t₁ ev₁ F₁ r₁ p₁ => ?_)
  obtain rfl := hn _ _ _ p₁
  cases r₁
  exact h2 O₁ Γ₁ p₁ A _ S₁ _ _ ok (M.evo ev₁ F₁) (hP _ _ ev₁.le p) fun S' O' Γ' ps' h' tk M' q => k S' O' Γ' ps' h' tk M' q
theorem MR.step1 {st : Stmt} {rest : List Stmt} {O₁ : Own} {Γ₁ : Gam} (hP : ∀ S S', Le S S' → P S → P S') (h1 : Ex1 X n B env O Γ st fun f O' Γ' => f = .next ∧ O' = O₁ ∧ Γ' = Γ₁) (h2 : MR X n B c Pl env P O₁ Γ₁ ps rest Ψ) :
    MR X n B c Pl env P O Γ ps (st :: rest) Ψ := MR.step hP h1 (fun _ _ _ h => h.1) fun O' Γ' h => by obtain ⟨_, rfl, rfl⟩ := h; exact h2
theorem MR.def {name : Str} {params : Arguments} {body : List Stmt} {scope : Scope} {pos : Pos} {rest : List Stmt} {ds : List D} (te : TopEnv X env c) (hP : ∀ S S', Le S S' → P S → P S') (hd : EvA X n B env O Γ params.defaults ds)
    (h2 : ∀ a, MR X n B c Pl env (fun S => P S ∧ DefS S name params body scope a ds) O ((name, .own a) :: Γ) (ps ++ [pos]) rest Ψ)
    (hkw : params.kwonlyargs = [] := by rfl) (hkd : params.kw_defaults = [] := by rfl) (hann : annTrees params none env = [] := by rfl) (hfree : ∀ x ∈ scope.names, x.2 ≠ .free := by decide) (hq : qualnameIn env name name = name := by rfl)
    (hnf : ∀ q ∈ ps, ¬ (q.line = pos.line ∧ q.col = pos.col) := by decide) (hloc : env.kindOf name = some .local := by rfl) :
    MR X n B c Pl env P O Γ ps (.FunctionDef name params body [] none [] scope none name pos :: rest) Ψ := by
  intro A s S Q E ok M p k
  refine wpAny_execs_cons (def_F te ok M hd hkw hkd hann hfree hq hnf hloc fun S₁ a h₁ t₁ M₁ le hds => ?_)
  exact h2 a A _ S₁ _ _ ok M₁ ⟨hP _ _ le p, hds⟩ fun S' O' Γ' ps' h' tk M' q => k S' O' Γ' ps' h' tk M' q
theorem Frm.freeze {S : PM} {h : Heap} {x : Str} {a : Addr} {ds : List D} (F : Frm X B S env O h Γ) (hx : Γ.lookup x = some (.own a)) (hO : O a = some ds) :
    ∃ S', Frm X B S' env (fun b => if b = a then none else O b) h ((x, .list ds) :: Γ) ∧ Evo env O S h (fun b => if b = a then none else O b) S' h := by
  obtain ⟨h1, h2, o, vs, m, ho, hc, hd, r⟩ := F.own a ds hO
  have le : Le S (addS S a o) := fun b ob e => by
    have : b ≠ a := by rintro rfl; rw [h1] at e; cases e
    simp only [addS, this, if_false]; exact e
  have hlist : Rd (addS S a o) (.ref a) (.list ds) := .list (vs := vs.toList) (addS_self _ _ _) hc.1 (by rw [hd]) (r.mono le)
  have F₁ : Frm X B (addS S a o) env (fun b => if b = a then none else O b) h ((x, .list ds) :: Γ) :=
    { base := F.base.trans le
      sub := fun b ob e => by
        unfold addS at e
        by_cases q : b = a
        · subst q; rw [if_pos rfl] at e; cases e; exact ho
        · rw [if_neg q] at e; exact F.sub _ _ e
      keep := F.keep
      old := fun b ob e e' => by
        have : b ≠ a := by rintro rfl; rw [h2] at e; cases e
        simp only [addS, this, if_false] at e'
        exact F.old _ _ e e'
      loc := by simp only [addS, (F.ownNe hO).1, if_false]; exact F.loc
      locH := F.locH
      ns := by
        obtain ⟨mm, hm, hv⟩ := F.ns
        refine ⟨mm, hm, fun y d e kd => ?_⟩
        rw [List.lookup_cons] at e
        by_cases q : y = x
        · subst q
          rw [beq_self_eq_true] at e; cases e
          obtain ⟨v, ev, rv⟩ := hv y _ hx kd
          cases rv
          exact ⟨_, ev, hlist⟩
        · rw [beq_eq_false_iff_ne.mpr q] at e
          obtain ⟨v, ev, rv⟩ := hv y d e kd
          exact ⟨v, ev, rv.mono le⟩
      neg := F.neg
      cells := fun y c e => by
        obtain ⟨v, hc, hv⟩ := F.cells y c e
        refine ⟨v, hc, fun d e' kd => ?_⟩
        rw [List.lookup_cons] at e'
        by_cases q : y = x
        · subst q
          rw [beq_self_eq_true] at e'; cases e'
          obtain ⟨v', ev, rv⟩ := hv _ hx kd
          cases rv
          exact ⟨_, ev, hlist⟩
        · rw [beq_eq_false_iff_ne.mpr q] at e'
          obtain ⟨v', ev, rv⟩ := hv d e' kd
          exact ⟨v', ev, rv.mono le⟩
      wr := fun y c e kd => by
        have := F.wr y c e kd
        refine ⟨?_, this.2⟩
        have q : c ≠ a := fun q => (F.ownNe hO).2 y (q ▸ e)
        simp only [addS, q, if_false]; exact this.1
      apart := F.apart
      own := fun b es hb => by
        by_cases q : b = a
        · simp [q] at hb
        · simp only [q, if_false] at hb
          obtain ⟨g1, g2, o', vs', n', ho', hc', hd', r'⟩ := F.own b es hb
          refine ⟨by simp only [addS, q, if_false]; exact g1, g2, o', vs', n', ho', hc', hd', r'.mono le⟩ }
  refine ⟨addS S a o, F₁, ?_⟩
  refine ⟨le, fun b ob e e' q => ?_, fun b ob e _ _ _ => e, fun b e => e, fun b e q => ?_⟩
  · have : b ≠ a := by rintro rfl; rw [hO] at q; cases q
    simpa [addS, this] using e'
  · by_cases q' : b = a
    · simp [q']
    · simpa [q'] using q
/-- an own list is no longer written -/
theorem MR.freeze {x : Str} {a : Addr} {ds : List D} {ss : List Stmt} (hP : ∀ S S', Le S S' → P S → P S') (hx : Γ.lookup x = some (.own a)) (hO : O a = some ds)
    (h : MR X n B c Pl env P (fun b => if b = a then none else O b) ((x, .list ds) :: Γ) ps ss Ψ) : MR X n B c Pl env P O Γ ps ss Ψ := by
  intro A s S Q E ok M p k
  obtain ⟨S₁, F₁, ev₁⟩ := M.F.freeze hx hO
  exact h A s S₁ Q E ok (M.evo ev₁ F₁) (hP _ _ ev₁.le p) k
end
end Mine

end
section
open PySem PySem.Calls PyProof.Rows PySem.W
set_option linter.unusedVariables false
set_option maxRecDepth 100000
set_option maxHeartbeats 4000000
namespace Mine
abbrev pw : Program := PySem.Challenge.pw_rs0065_01
def rest (k : Nat) : List Stmt := pw.main.body.drop k
theorem body_rest : pw.main.body = rest 0 := rfl
def posAt (k : Nat) : Pos := match stAt k with
  | .FunctionDef _ _ _ _ _ _ _ _ _ p => p
  | _ => default
def dfltAt (k : Nat) : List Expr := match stAt k with
  | .FunctionDef _ params _ _ _ _ _ _ _ _ => params.defaults
  | _ => []
def defCheck (k : Nat) (env : Env) (ps : List Pos) : Bool := match stAt k with
  | .FunctionDef name params _ [] none [] scope none bind pos => bind == name && params.kwonlyargs.isEmpty && params.kw_defaults.isEmpty && (annTrees params none env).isEmpty && scope.names.all (fun x => x.2 != .free) &&
      qualnameIn env name name == name && ps.all (fun q => !(q.line == pos.line && q.col == pos.col)) && env.kindOf name == some .local
  | _ => false
/-- the k-th statement's def, frozen -/
def DefSt (S : PM) (k : Nat) (a : Addr) (ds : List D) : Prop := match stAt k with
  | .FunctionDef name args body _ _ _ scope _ _ _ => DefS S name args body scope a ds
  | _ => False
theorem DefSt.mono {S S' : PM} (le : Le S S') {k : Nat} {a : Addr} {ds : List D} (h : DefSt S k a ds) : DefSt S' k a ds := by
  unfold DefSt at h ⊢
  split at h
  · exact DefS.mono le h
  · exact h.elim
section
variable {X : Cx} {n : Nat} {B : Base} {env : Env} {O : Own} {Γ : Gam} {c Pl : Addr} {P : PM → Prop} {ps : List Pos} {Ψ : PM → Own → Gam → Prop}
theorem MR.weaken {ss : List Stmt} {Γ' : Gam} (h : MR X n B c Pl env P O Γ' ps ss Ψ) (l : ∀ x d, Γ'.lookup x = some d → Γ.lookup x = some d) : MR X n B c Pl env P O Γ ps ss Ψ :=
  fun A s S Q E ok M p k => h A s S Q E ok ⟨M.F.weaken l, M.code, M.oc, M.op⟩ p k
theorem MR.defAt (k : Nat) {rest : List Stmt} {ds : List D} (hchk : defCheck k env ps = true) (te : TopEnv X env c) (hP : ∀ S S', Le S S' → P S → P S')
    (hd : EvA X n B env O Γ (dfltAt k) ds) (h2 : ∀ a, MR X n B c Pl env (fun S => P S ∧ DefSt S k a ds) O ((nameAt k, .own a) :: Γ) (ps ++ [posAt k]) rest Ψ) : MR X n B c Pl env P O Γ ps (stAt k :: rest) Ψ := by
  unfold defCheck at hchk
  split at hchk
  · rename_i name params body scope bind pos hst
    simp only [Bool.and_eq_true, beq_iff_eq, List.isEmpty_iff, List.all_eq_true, bne_iff_ne, Bool.not_eq_true', Bool.and_eq_false_iff, beq_eq_false_iff_ne] at hchk
    obtain ⟨⟨⟨⟨⟨⟨⟨rfl, h3⟩, h4⟩, h5⟩, h6⟩, h7⟩, h8⟩, h9⟩ := hchk
    simp only [dfltAt, hst] at hd
    simp only [nameAt, posAt, DefSt, hst] at h2
    rw [hst]
    exact MR.def te hP hd h2 h3 h4 h5 h6 h7 (fun q hq => by rintro ⟨x, y⟩; rcases h8 q hq with h | h; exact h x; exact h y) h9
  · cases hchk
theorem Ev.qmap : ∀ {i : Nat} {d e : D}, ((List.range 256).map fun i : Nat => D.int (i : Int))[i]? = some d → ((List.range 256).map fun i => dS (qp i))[i]? = some e → i < 256 ∧ d = .int i ∧ e = dS (qp i) := fun {i d e} hd he => by
  obtain ⟨rfl, hi⟩ := range_get hd
  rw [List.getElem?_map, List.getElem?_range hi] at he
  cases he
  exact ⟨hi, rfl, rfl⟩
end
/-- a table, with signs laid as they are -/
def setAll (t : List (List Nat)) (bs : List UInt8) : List (List Nat) := bs.foldl (fun t c => t.set c.toNat [c.toNat]) t
theorem setAll_len (t : List (List Nat)) (bs : List UInt8) : (setAll t bs).length = t.length := by
  unfold setAll
  induction bs generalizing t with
  | nil => rfl
  | cons b bs ih => rw [List.foldl_cons, ih, List.length_set]
theorem setAll_take (t : List (List Nat)) (bs : List UInt8) (i : Nat) (b : UInt8) (h : bs[i]? = some b) : setAll t (bs.take (i + 1)) = (setAll t (bs.take i)).set b.toNat [b.toNat] := by
  unfold setAll
  rw [List.take_add_one, h, List.foldl_append]
  rfl
def qtab : List (List Nat) := (List.range 256).map qp
theorem qtab_len : qtab.length = 256 := by unfold qtab; simp
section
variable {X : Cx} {n : Nat} {B : Base} {env : Env} {O : Own} {Γ : Gam} {c Pl : Addr} {P : PM → Prop} {ps : List Pos} {Ψ : PM → Own → Gam → Prop}
/-- for c in octets: M[c] = chr(c) -/
theorem Ex1.marks {M : Str} {pM px p1 p2 p3 p4 p5 pos p6 : Pos} {iter : Expr} {bs : List UInt8} {a : Addr} {t : List (List Nat)} (G : X.MGood) (hm0 : X.m₀ "chr" = none) (hit : EvIt X n B env O Γ iter (bs.map fun c => .int (c.toNat : Int)))
    (hM : Γ.lookup M = some (.own a)) (hMc : M ≠ "c") (hO : O a = some (t.map dS)) (ht : t.length = 256)
    (hkM : env.kindOf M = some .local := by rfl) (hbM : (M == ("__debug__" : Str)) = false := by rfl)
    (hl : env.kindOf "c" = some .local := by rfl) (hk : env.scope.kind = .module := by rfl) (hle : env.locals = env.globals := by rfl) (hbs : env.builtins = builtinsNs := by rfl) (hchr : env.kindOf "chr" = some .globalImplicit := by rfl) (hok : kindOk env = true := by rfl)
    (hs : ∀ x, foldedSetIterable iter env x = pure x := by intro _; rfl)
    (hsw : swapsWith (.Call (.Name "chr" p3) [.Name "c" p4] [] p5) (some (.Subscript (.Name M pM) (.Name "c" p1) p2)) p6.line env = pure false := by rfl)
    (he : eval (.Call (.Name "chr" p3) [.Name "c" p4] [] p5) env = (do callWith p5 (← eval (.Name "chr" p3) env) [] (backTo p5 (starEach [.Name "c" p4] env)) (backToKw p5 (keywordEach [] env))) := by rfl)
    (hp : (starEach [.Name "c" p4] env) = [(false, eval (.Name "c" p4) env)] := by rfl) :
    Ex1 X n B env O Γ (.For (.Name "c" px) iter [.Assign [.Subscript (.Name M pM) (.Name "c" p1) p2] (.Call (.Name "chr" p3) [.Name "c" p4] [] p5) p6] [] pos)
      fun f O' Γ' => f = .next ∧ O' = updO O a ((setAll t bs).map dS) ∧ (∀ (y : Str) (d : D), y ≠ "c" → Γ.lookup y = some d → Γ'.lookup y = some d) ∧ (bs ≠ [] → ∃ d, Γ'.lookup ("c" : Str) = some d) := by
  intro A s S Q E ok F k
  refine Ex1.for (fun i O' Γ' => O' = updO O a ((setAll t (bs.take i)).map dS) ∧ (∀ (y : Str) (d : D), y ≠ "c" → Γ.lookup y = some d → Γ'.lookup y = some d) ∧ (0 < i → ∃ d, Γ'.lookup ("c" : Str) = some d)) hit ⟨?_, fun y d _ e => e, fun q => absurd q (by decide)⟩ ?_ (.loc hl) hok hs A s S Q E ok F fun S' fl f O' Γ' h' tk ev F' r p => ?_
  · funext b
    unfold updO
    by_cases q : b = a
    · subst q; rw [if_pos rfl, hO]; rfl
    · rw [if_neg q]
  · rintro i d O' Γ' hd ⟨rfl, hΓ, _⟩
    obtain ⟨b, hb, rfl⟩ := map_get hd
    have hb256 := b.toNat_lt
    have hlen : (setAll t (bs.take i)).length = 256 := by rw [setAll_len, ht]
    have l1 : ((("c" : Str), D.int (b.toNat : Int)) :: Γ').lookup ("c" : Str) = some (.int (b.toNat : Int)) := by rw [List.lookup_cons, beq_self_eq_true]
    have l2 : ((("c" : Str), D.int (b.toNat : Int)) :: Γ').lookup M = some (.own a) := by rw [List.lookup_cons, beq_eq_false_iff_ne.mpr hMc]; exact hΓ M _ hMc hM
    have st := Ex1.setItem (X := X) (n := n) (B := B) (env := env) (O := updO O a ((setAll t (bs.take i)).map dS)) (Γ := (("c" : Str), D.int (b.toNat : Int)) :: Γ') (o := .Name M pM) (e₁ := .Name "c" p1) (e₂ := .Call (.Name "chr" p3) [.Name "c" p4] [] p5) (sp := p2) (pos := p6) (i := b.toNat) (d := dS [b.toNat])
      (Ev.mname l2 hkM hk hle hbM) (updO_self _ _ _) (Ev.mname l1 hl hk hle) (Ev.call (EvV.mblt G hm0 rfl (by decide) hchr hk hle hbs) (EvL.cons (Ev.mname l1 hl hk hle) EvL.nil hp) (.builtin "chr") (OpN.chr hb256) he (by rw [hp]; rfl)) (by rw [List.length_map, hlen]; exact hb256) (by rw [List.length_map, hlen]; decide) hsw
    refine Ex.step st (Ex.nil ⟨rfl, ?_, fun y d hy e => ?_, fun _ => ⟨_, l1⟩⟩)
    · rw [updO_updO, setAll_take t bs i b hb, List.map_set]
    · rw [List.lookup_cons, beq_eq_false_iff_ne.mpr hy]; exact hΓ y d hy e
  · obtain ⟨rfl, rfl, h2, h3⟩ := p
    refine k S' fl _ _ Γ' h' tk ev F' r ⟨rfl, ?_, h2, fun q => h3 ?_⟩
    · rw [List.length_map, List.take_length]
    · rw [List.length_map]; exact List.length_pos_iff.mpr q
end
end Mine

end
section
open PySem PySem.Calls PyProof.Rows PySem.W
set_option linter.unusedVariables false
set_option maxRecDepth 100000
set_option maxHeartbeats 4000000
namespace Mine
theorem rest_cons (k : Nat) (h : k < pw.main.body.length) : rest k = stAt k :: rest (k + 1) := by
  unfold rest stAt
  rw [List.drop_eq_getElem_cons h, List.getD_eq_getElem?_getD, List.getElem?_eq_getElem h]
  rfl
abbrev lowT : List Nat := (List.range 26).map (97 + ·)
abbrev uppT : List Nat := (List.range 26).map (65 + ·)
section
variable {X : Cx} {n : Nat} {B : Base} {O : Own} {Γ : Gam} {c Pl F : Addr} {P : PM → Prop} {ps : List Pos} {Ψ : PM → Own → Gam → Prop}
theorem mono_and (hP : ∀ S S', Le S S' → P S → P S') (k : Nat) (a : Addr) (ds : List D) : ∀ S S', Le S S' → P S ∧ DefSt S k a ds → P S' ∧ DefSt S' k a ds := fun S S' le h => ⟨hP S S' le h.1, h.2.mono le⟩
theorem letter_bytes : Op2 X n (binaryOp .Add) (.byt [45, 33, 42, 43, 47]) (.byt (lettersT.map fun c => UInt8.ofNat c)) (.byt ([45, 33, 42, 43, 47] ++ lettersT.map fun c => UInt8.ofNat c)) := Op2.addB _ _ (by decide)
theorem gm_encode {l : List Nat} : ∀ (A : Around) (s : Shared) (S : PM) (v : Value) (pl : Sem Bool) (Q : Value × List Value → Shared → Prop) (E : Value → Shared → Prop), Rd S v (.str (tx l)) → Q (.builtin "str.encode", [v]) s → wpAny X.M A (getMethod v "encode" pl) Q E s :=
  fun A s S v pl Q E r k => by cases r; with_reducible exact GM.of (.str _ _) (typeIs_str _ _ _) F.slot_str_encode F.type_str_encode GM.noRef k
abbrev menv (c F : Addr) : Env := mainEnv pw c F
def qD : D := .list (qtab.map dS)
/-- the first ten statements -/
theorem walk_a (G : X.MGood) (hr : X.m₀ "range" = none) (h : ∀ a3 a4, a4 ≠ a3 → MR X n B c Pl (menv c F) (fun _ => True) (updO (updO noOwn a3 (qtab.map dS)) a4 (qtab.map dS))
      [("digits", dS digitsT), ("ascii_letters", dS lettersT), ("_QUOPRI_BODY_MAP", .own a4), ("_QUOPRI_HEADER_MAP", .own a3), ("NL", dS [10]), ("CRLF", dS [13, 10])] [] (rest 10) Ψ) :
    MR X n B c Pl (menv c F) (fun _ => True) noOwn [] [] (rest 0) Ψ := by
  have hP : ∀ S S', Le S S' → True → True := fun _ _ _ _ => trivial
  have hq : (qtab.map dS).length ≤ sizeLine := by rw [List.length_map, qtab_len]; exact sz (by decide)
  rw [rest_cons 0 (by decide)]
  refine MR.step1 hP (Ex1.assign (Ev.cstr [13, 10]) (.loc rfl)) ?_
  rw [rest_cons 1 (by decide)]
  refine MR.step1 hP (Ex1.assign (Ev.cstr [10]) (.loc rfl)) ?_
  rw [rest_cons 2 (by decide)]
  refine MR.step1 hP (Ex1.assign (d := qD) (Ev.ofComp (CompD.map [] [] (ds := qtab.map dS) (EvIt.range (m := 256) (Ev.call (EvV.mblt G hr rfl (by decide)) (EvL.cons Ev.cint EvL.nil) (.type _) OpN.range) (by decide +kernel)) trivial trivial (fun C => trivial) rfl (by rw [List.length_map, List.length_range]; decide) (by rw [List.length_map, List.length_map, qtab_len, List.length_range]) ?_)) (.loc rfl)) ?_
  · intro C B' i d e hd he
    unfold qtab at he
    rw [List.map_map] at he
    obtain ⟨hi, rfl, rfl⟩ := Ev.qmap hd he
    exact Ev.binop (Ev.cstr [61, 37, 48, 50, 88]) (Ev.local rfl) (Op2.qp hi)
  rw [rest_cons 3 (by decide)]
  refine MR.step hP (Ex1.ownSlice (Ev.mname rfl) hq (.loc rfl)) (fun _ _ _ h => h.1) ?_
  rintro O3 Γ3 ⟨_, a3, -, rfl, rfl⟩
  rw [rest_cons 4 (by decide)]
  refine MR.step hP (Ex1.ownSlice (Ev.mname rfl) hq (.loc rfl)) (fun _ _ _ h => h.1) ?_
  rintro O4 Γ4 ⟨_, a4, h4, rfl, rfl⟩
  have hne : a4 ≠ a3 := by rintro rfl; rw [updO_self] at h4; cases h4
  rw [rest_cons 5 (by decide)]
  refine MR.step1 hP (Ex1.assign (Ev.cstr lowT) (.loc rfl)) ?_
  rw [rest_cons 6 (by decide)]
  refine MR.step1 hP (Ex1.assign (Ev.cstr uppT) (.loc rfl)) ?_
  rw [rest_cons 7 (by decide)]
  refine MR.step1 hP (Ex1.assign (d := dS lettersT) (Ev.binop (Ev.mname rfl) (Ev.mname rfl) (Op2.addS lowT uppT (sz (by decide)))) (.loc rfl)) ?_
  rw [rest_cons 8 (by decide)]
  refine MR.step1 hP (Ex1.assign (Ev.cstr digitsT) (.loc rfl)) ?_
  rw [rest_cons 9 (by decide)]
  refine MR.step1 hP (Ex1.assign (Ev.cstr [99, 112, 121, 51, 49, 51, 46, 101, 109, 97, 105, 108, 46, 113, 117, 111, 112, 114, 105, 109, 105, 109, 101]) (.loc rfl)) ?_
  refine MR.weaken (h a3 a4 hne) fun x d e => ?_
  exact allP_lookup (P := fun q => List.lookup q.1 _ = some q.2) (show AllP _ [(("digits" : Str), dS digitsT), ("ascii_letters", dS lettersT), ("_QUOPRI_BODY_MAP", .own a4), ("_QUOPRI_HEADER_MAP", .own a3), ("NL", dS [10]), ("CRLF", dS [13, 10])] from ⟨rfl, rfl, rfl, rfl, rfl, rfl, trivial⟩) e
end
end Mine

end
section
open PySem PySem.Calls PyProof.Rows PySem.W
set_option linter.unusedVariables false
set_option maxRecDepth 100000
set_option maxHeartbeats 4000000
namespace Mine
def bytes1 : List UInt8 := ([45, 33, 42, 43, 47] ++ lettersT.map fun c => UInt8.ofNat c) ++ digitsT.map fun c => UInt8.ofNat c
def bytes2 : List UInt8 := ((List.range 29).map fun c => UInt8.ofNat (32 + c)) ++ ((List.range 65).map fun c => UInt8.ofNat (62 + c)) ++ [9]
def tab2 : List (List Nat) := setAll qtab bytes2
def tab3 : List (List Nat) := setAll tab2 [13, 10]
theorem tab3_enc : tab3 = encTab := by decide +kernel
section
variable {X : Cx} {n : Nat} {B : Base} {O : Own} {Γ : Gam} {c Pl F : Addr} {P : PM → Prop} {ps : List Pos} {Ψ : PM → Own → Gam → Prop}
theorem updO_comm {a b : Addr} (h : a ≠ b) (O : Own) (l m : List D) : updO (updO O a l) b m = updO (updO O b m) a l := by
  funext x
  unfold updO
  by_cases q : x = a
  · subst q; simp [h]
  · by_cases q' : x = b
    · subst q'; simp [q]
    · simp [q, q']
theorem look_c {Γ₀ Γ' : Gam} {d : D} (hΓ : ∀ (y : Str) (d : D), y ≠ "c" → Γ₀.lookup y = some d → Γ'.lookup y = some d) (hc : Γ'.lookup ("c" : Str) = some d) : ∀ (x : Str) (e : D), ((("c" : Str), d) :: Γ₀).lookup x = some e → Γ'.lookup x = some e := fun x e q => by
  rw [List.lookup_cons] at q
  by_cases h : x = "c"
  · subst h; rw [beq_self_eq_true] at q; cases q; exact hc
  · rw [beq_eq_false_iff_ne.mpr h] at q; exact hΓ x e h q
/-- the loops -/
theorem walk_b (G : X.MGood) (hc : X.m₀ "chr" = none) (ho : X.m₀ "ord" = none) (te : TopEnv X (menv c F) c) (a3 a4 : Addr) (hne : a4 ≠ a3)
    (h : ∀ a13 O, MR X n B c Pl (menv c F) (fun S => True ∧ DefSt S 13 a13 []) O [("_QUOPRI_BODY_ENCODE_MAP", .list (encTab.map dS)), ("NL", dS [10]), ("CRLF", dS [13, 10])] [posAt 13] (rest 17) Ψ) :
    MR X n B c Pl (menv c F) (fun _ => True) (updO (updO noOwn a3 (qtab.map dS)) a4 (qtab.map dS))
      [("digits", dS digitsT), ("ascii_letters", dS lettersT), ("_QUOPRI_BODY_MAP", .own a4), ("_QUOPRI_HEADER_MAP", .own a3), ("NL", dS [10]), ("CRLF", dS [13, 10])] [] (rest 10) Ψ := by
  have hP : ∀ S S', Le S S' → True → True := fun _ _ _ _ => trivial
  have hO3 : updO (updO noOwn a3 (qtab.map dS)) a4 (qtab.map dS) a3 = some (qtab.map dS) := by unfold updO; rw [if_neg (Ne.symm hne), if_pos rfl]
  rw [rest_cons 10 (by decide)]
  refine MR.step hP (Ex1.marks (bs := bytes1) (t := qtab) G hc (EvIt.bytes (Ev.binop (Ev.binop Ev.cbytes (Ev.meth (Ev.mname rfl) gm_encode (EvL.cons (Ev.cstr asciiT) EvL.nil) (OpN.encode encode_letters (by decide))) (Op2.addB _ _ (by decide)))
    (Ev.meth (Ev.mname rfl) gm_encode (EvL.cons (Ev.cstr asciiT) EvL.nil) (OpN.encode encode_digits (by decide))) (Op2.addB _ _ (by decide)))) rfl (by decide) hO3 qtab_len) (fun _ _ _ h => h.1) ?_
  rintro O10 Γ10 ⟨_, rfl, hΓ, hcc⟩
  obtain ⟨d, hd⟩ := hcc (by decide)
  refine MR.weaken ?_ (look_c hΓ hd)
  rw [updO_comm (Ne.symm hne), updO_updO, updO_comm hne]
  clear hΓ hcc hd Γ10
  rw [rest_cons 11 (by decide)]
  have hO11 : updO (updO noOwn a3 ((setAll qtab bytes1).map dS)) a4 (qtab.map dS) a3 = some ((setAll qtab bytes1).map dS) := by unfold updO; rw [if_neg (Ne.symm hne), if_pos rfl]
  have l1 : ((setAll qtab bytes1).map dS).length = 256 := by rw [List.length_map, setAll_len, qtab_len]
  refine MR.step1 hP (Ex1.setItem (i := 32) (Ev.mname rfl) hO11 (Ev.call (EvV.mblt G ho rfl (by decide)) (EvL.cons (Ev.cstr [32]) EvL.nil) (.builtin _) OpN.ord) (Ev.cstr [95]) (by rw [l1]; decide) (by rw [l1]; decide)) ?_
  rw [updO_comm (Ne.symm hne), updO_updO]
  generalize ((setAll qtab bytes1).map dS).set 32 (D.str (tx [95])) = t11
  rw [updO_comm hne]
  have hO12 : updO (updO noOwn a3 t11) a4 (qtab.map dS) a4 = some (qtab.map dS) := updO_self _ _ _
  rw [rest_cons 12 (by decide)]
  refine MR.step hP (Ex1.marks (bs := bytes2) (t := qtab) G hc (EvIt.bytes Ev.cbytes) rfl (by decide) hO12 qtab_len) (fun _ _ _ h => h.1) ?_
  rintro O12 Γ12 ⟨_, rfl, hΓ, hcc⟩
  rw [updO_updO]
  refine MR.weaken (Γ' := [("_QUOPRI_BODY_MAP", .own a4), ("NL", dS [10]), ("CRLF", dS [13, 10])]) ?_ (fun x e q => hΓ x e (by rintro rfl; cases q) (allP_lookup (P := fun q => List.lookup q.1 _ = some q.2) (show AllP _ [(("_QUOPRI_BODY_MAP" : Str), .own a4), ("NL", dS [10]), ("CRLF", dS [13, 10])] from ⟨rfl, rfl, rfl, trivial⟩) q))
  clear hΓ hcc Γ12 d
  rw [rest_cons 13 (by decide)]
  refine MR.defAt 13 rfl te hP EvA.nil fun a13 => ?_
  have hP13 := mono_and hP 13 a13 []
  refine MR.freeze (ds := tab2.map dS) hP13 (x := "_QUOPRI_BODY_MAP") rfl (updO_self _ _ _) ?_
  rw [rest_cons 14 (by decide)]
  refine MR.step hP13 (Ex1.ownSlice (Ev.mname rfl) (by rw [List.length_map]; unfold tab2; rw [setAll_len, qtab_len]; exact sz (by decide)) (.loc rfl)) (fun _ _ _ h => h.1) ?_
  rintro O14 Γ14 ⟨_, a14, -, rfl, rfl⟩
  generalize (fun b => if b = a4 then none else updO (updO noOwn a3 t11) a4 (List.map dS (setAll qtab bytes2)) b) = O13
  rw [rest_cons 15 (by decide)]
  refine MR.step hP13 (Ex1.marks (bs := [13, 10]) (t := tab2) G hc (EvIt.bytes Ev.cbytes) rfl (by decide) (updO_self _ _ _) (by unfold tab2; rw [setAll_len, qtab_len])) (fun _ _ _ h => h.1) ?_
  rintro O15 Γ15 ⟨_, rfl, hΓ, hcc⟩
  obtain ⟨d, hd⟩ := hcc (by decide)
  refine MR.weaken ?_ (look_c hΓ hd)
  rw [updO_updO]
  clear hΓ hcc hd Γ15
  rw [rest_cons 16 (by decide)]
  refine MR.step1 hP13 (Ex1.del (x := "c") (Γ₁ := [("_QUOPRI_BODY_ENCODE_MAP", .own a14), ("NL", dS [10]), ("CRLF", dS [13, 10])]) (d₀ := d) rfl ?_) ?_
  · intro y e q
    refine ⟨allP_lookup (P := fun q => List.lookup q.1 _ = some q.2) (show AllP _ [(("_QUOPRI_BODY_ENCODE_MAP" : Str), .own a14), ("NL", dS [10]), ("CRLF", dS [13, 10])] from ⟨rfl, rfl, rfl, trivial⟩) q, ?_⟩
    rintro rfl
    cases q
  refine MR.freeze (ds := tab3.map dS) hP13 (x := "_QUOPRI_BODY_ENCODE_MAP") rfl (updO_self _ _ _) ?_
  rw [tab3_enc]
  refine MR.weaken (h a13 _) fun x e q => ?_
  exact allP_lookup (P := fun q => List.lookup q.1 _ = some q.2) (show AllP _ [(("_QUOPRI_BODY_ENCODE_MAP" : Str), .list (encTab.map dS)), ("NL", dS [10]), ("CRLF", dS [13, 10])] from ⟨rfl, rfl, rfl, trivial⟩) q
end
end Mine

end
section
open PySem PySem.Calls PyProof.Rows PySem.W
set_option linter.unusedVariables false
set_option maxRecDepth 100000
set_option maxHeartbeats 4000000
namespace Mine
/-- what the top leaves -/
structure TopPost (S : PM) (Γ : Gam) : Prop where
  nl : Γ.lookup ("NL" : Str) = some (dS [10])
  crlf : Γ.lookup ("CRLF" : Str) = some (dS [13, 10])
  tab : Γ.lookup ("_QUOPRI_BODY_ENCODE_MAP" : Str) = some (.list (encTab.map dS))
  d17 : ∃ a, Γ.lookup ("body_encode" : Str) = some (.own a) ∧ DefSt S 17 a [.int 76, dS [10]]
  d19 : ∃ a, Γ.lookup ("rgb_to_hsv" : Str) = some (.own a) ∧ DefSt S 19 a []
  d21 : ∃ a, Γ.lookup ("_law_piece" : Str) = some (.own a) ∧ DefSt S 21 a []
  d22 : ∃ a, Γ.lookup ("_law_size" : Str) = some (.own a) ∧ DefSt S 22 a []
  d23 : ∃ a, Γ.lookup ("_law_through" : Str) = some (.own a) ∧ DefSt S 23 a []
  d24 : ∃ a, Γ.lookup ("_law_broken" : Str) = some (.own a) ∧ DefSt S 24 a []
  d25 : ∃ a, Γ.lookup ("_law_seen" : Str) = some (.own a) ∧ DefSt S 25 a []
  d26 : ∃ a, Γ.lookup ("_law_holds" : Str) = some (.own a) ∧ DefSt S 26 a []
  d27 : ∃ a, Γ.lookup ("_law_met" : Str) = some (.own a) ∧ DefSt S 27 a []
  d28 : ∃ a, Γ.lookup ("_law_own" : Str) = some (.own a) ∧ DefSt S 28 a []
  d29 : ∃ a, Γ.lookup ("_law_six" : Str) = some (.own a) ∧ DefSt S 29 a []
  d30 : ∃ a, Γ.lookup ("law" : Str) = some (.own a) ∧ DefSt S 30 a []
section
variable {X : Cx} {n : Nat} {B : Base} {O : Own} {Γ : Gam} {c Pl F : Addr} {P : PM → Prop} {ps : List Pos} {Ψ : PM → Own → Gam → Prop}
theorem walk_c (te : TopEnv X (menv c F) c) (a13 : Addr) (O : Own) :
    MR X n B c Pl (menv c F) (fun S => True ∧ DefSt S 13 a13 []) O [("_QUOPRI_BODY_ENCODE_MAP", .list (encTab.map dS)), ("NL", dS [10]), ("CRLF", dS [13, 10])] [posAt 13] (rest 17) fun S _ Γ => TopPost S Γ := by
  have hP13 := mono_and (P := fun _ => True) (fun _ _ _ _ => trivial) 13 a13 []
  rw [rest_cons 17 (by decide)]
  refine MR.defAt 17 rfl te hP13 (EvA.cons Ev.cint (EvA.cons (Ev.mname rfl) EvA.nil)) fun a17 => ?_
  have hP17 := mono_and hP13 17 a17 [.int 76, dS [10]]
  rw [rest_cons 18 (by decide)]
  refine MR.step1 hP17 (Ex1.assign (Ev.cstr (Str.ofString "cpy313.colorsys").cps.toList) (.loc rfl)) ?_
  rw [rest_cons 19 (by decide)]
  refine MR.defAt 19 rfl te hP17 EvA.nil fun a19 => ?_
  have hP19 := mono_and hP17 19 a19 []
  rw [rest_cons 20 (by decide)]
  refine MR.step1 hP19 (Ex1.assign (Ev.cstr (Str.ofString "law_rs0065_01").cps.toList) (.loc rfl)) ?_
  rw [rest_cons 21 (by decide)]
  refine MR.defAt 21 rfl te hP19 EvA.nil fun a21 => ?_
  have hP21 := mono_and hP19 21 a21 []
  rw [rest_cons 22 (by decide)]
  refine MR.defAt 22 rfl te hP21 EvA.nil fun a22 => ?_
  have hP22 := mono_and hP21 22 a22 []
  rw [rest_cons 23 (by decide)]
  refine MR.defAt 23 rfl te hP22 EvA.nil fun a23 => ?_
  have hP23 := mono_and hP22 23 a23 []
  rw [rest_cons 24 (by decide)]
  refine MR.defAt 24 rfl te hP23 EvA.nil fun a24 => ?_
  have hP24 := mono_and hP23 24 a24 []
  rw [rest_cons 25 (by decide)]
  refine MR.defAt 25 rfl te hP24 EvA.nil fun a25 => ?_
  have hP25 := mono_and hP24 25 a25 []
  rw [rest_cons 26 (by decide)]
  refine MR.defAt 26 rfl te hP25 EvA.nil fun a26 => ?_
  have hP26 := mono_and hP25 26 a26 []
  rw [rest_cons 27 (by decide)]
  refine MR.defAt 27 rfl te hP26 EvA.nil fun a27 => ?_
  have hP27 := mono_and hP26 27 a27 []
  rw [rest_cons 28 (by decide)]
  refine MR.defAt 28 rfl te hP27 EvA.nil fun a28 => ?_
  have hP28 := mono_and hP27 28 a28 []
  rw [rest_cons 29 (by decide)]
  refine MR.defAt 29 rfl te hP28 EvA.nil fun a29 => ?_
  have hP29 := mono_and hP28 29 a29 []
  rw [rest_cons 30 (by decide)]
  refine MR.defAt 30 rfl te hP29 EvA.nil fun a30 => ?_
  rw [show rest 31 = [] from List.drop_eq_nil_of_le (by decide)]
  refine MR.nil ?_
  rintro S ⟨⟨⟨⟨⟨⟨⟨⟨⟨⟨⟨⟨⟨-, -⟩, h17⟩, h19⟩, h21⟩, h22⟩, h23⟩, h24⟩, h25⟩, h26⟩, h27⟩, h28⟩, h29⟩, h30⟩
  exact ⟨rfl, rfl, rfl, ⟨_, rfl, h17⟩, ⟨_, rfl, h19⟩, ⟨_, rfl, h21⟩, ⟨_, rfl, h22⟩, ⟨_, rfl, h23⟩, ⟨_, rfl, h24⟩, ⟨_, rfl, h25⟩, ⟨_, rfl, h26⟩, ⟨_, rfl, h27⟩, ⟨_, rfl, h28⟩, ⟨_, rfl, h29⟩, ⟨_, rfl, h30⟩⟩
/-- the whole top -/
theorem walk_top (G : X.MGood) (h0 : ∀ x, x ∉ bootMainNames → X.m₀ x = none) (te : TopEnv X (menv c F) c) : MR X n B c Pl (menv c F) (fun _ => True) noOwn [] [] pw.main.body fun S _ Γ => TopPost S Γ := by
  rw [body_rest]
  exact walk_a G (h0 _ (by decide)) fun a3 a4 hne => walk_b G (h0 _ (by decide)) (h0 _ (by decide)) te a3 a4 hne fun a13 O => walk_c te a13 O
end
end Mine

end
section
open PySem PySem.Calls PyProof.Rows PySem.W
set_option linter.unusedVariables false
set_option maxRecDepth 100000
set_option maxHeartbeats 4000000
namespace Mine
/-! ### the boot, and the start of the top -/
theorem boot_state (w : World) : (∃ s, AfterImport (opening pw) w s) ∧ ∀ s, AfterImport (opening pw) w s → ∃ mb mg c Pl tk, BootLeft s.heap mb mg c Pl ∧ s = ⟨s.heap, #[], {}, tk, (start (opening pw)).1.os⟩ := by
  refine AfterImport.of_body (out := #[]) (P := fun s => ∃ mb mg c Pl tk, BootLeft s.heap mb mg c Pl ∧ s = ⟨s.heap, #[], {}, tk, (start (opening pw)).1.os⟩) (fun hp tk mb mg c Pl F hB => ?_) rfl
  have hbody : (opening pw).main.body = [] := rfl
  rw [hbody]
  refine codeAny_body rfl rfl (wpAny_execs_nil ?_)
  exact ⟨⟨_, rfl⟩, .of hB (fun _ _ _ _ e => e) hB.g, ⟨mb, mg, c, Pl, tk, hB, rfl⟩, rfl⟩
theorem fence_state (s : Shared) : fenceModules? pw s = some s := by
  have e1 : importedModules pw.main.body = [] := by decide +kernel
  have e2 : pw.main.body.any namesNumpy = false := by decide +kernel
  unfold fenceModules?
  rw [e1, e2]
  rfl
theorem no_imports : behindTheImports pw = pw.main.body := rfl
/-- a heap without the globals of the main -/
def eraseG (h : Heap) : Heap := { h with objs := h.objs.setIfInBounds mainGlobals { cls := .none, data := .freed } }
theorem eraseG_get {h : Heap} (a : Addr) (o : Obj) (e : (eraseG h).get? a = some o) : h.get? a = some o ∧ a ≠ mainGlobals := by
  unfold eraseG Heap.get? at e
  rw [Array.getElem?_setIfInBounds] at e
  by_cases q : mainGlobals = a
  · rw [if_pos q] at e
    by_cases hlt : mainGlobals < h.objs.size
    · rw [if_pos hlt] at e; cases e
    · rw [if_neg hlt] at e; cases e
  · rw [if_neg q] at e
    exact ⟨e, fun h => q h.symm⟩
theorem eraseG_of {h : Heap} (a : Addr) (o : Obj) (e : h.get? a = some o) (hn : a ≠ mainGlobals) : (eraseG h).get? a = some o := by
  unfold eraseG Heap.get?
  rw [Array.getElem?_setIfInBounds, if_neg (fun q => hn q.symm)]
  exact e
end Mine

end
section
open PySem PySem.Calls PyProof.Rows PySem.W
set_option linter.unusedVariables false
set_option maxRecDepth 100000
set_option maxHeartbeats 4000000
namespace Mine
/-- what stands behind the top, said of the heap before and the heap behind -/
def TopFacts (h₀ h : Heap) (mg : Str → Option Value) : Prop :=
  (∀ a o, h₀.get? a = some o → a ≠ mainGlobals → h.get? a = some o) ∧ ∃ (S : PM) (Γ : Gam) (m : Str → Option Value) (env : Env), Sub S h ∧ (∀ a o, h₀.get? a = some o → a ≠ mainGlobals → S a = some o) ∧ TopPost S Γ ∧ h.Ns mainGlobals m ∧
    env.scope = pw.main.scope ∧ (∀ x d, Γ.lookup x = some d → env.kindOf x = some .local → ∃ v, m x = some v ∧ Rd S v d) ∧ ∀ x, env.kindOf x ≠ some .local → m x = mg x
theorem stub_wp (w : World) {h₀ : Heap} {mb mg : Str → Option Value} {c₀ P₀ : Addr} {tk : Nat} {os : OsState} (hB : BootLeft h₀ mb mg c₀ P₀) :
    wpAny (model pw w) callerA (topStub pw).cur (fun fin s' => ∃ f, fin = .done f ∧ ((TopFacts h₀ s'.heap mg ∧ s'.os = os) ∧ s'.gens = #[])) (fun _ _ => False) ⟨h₀, #[], {}, tk, os⟩ := by
  show wpAny _ _ (do
      let code ← moduleCode pw.main
      let frame ← newBodyFrame code mainNs mainNs
      let _ ← run (.body (behindTheImports pw) { scope := pw.main.scope, locals := mainNs, globals := mainNs, cells := [], code, frame := some frame })
      ret .none) _ _ _
  refine wpAny_bind (wpAny_moduleCode fun c Pl h₁ t₁ keep hc hPl hcode => ?_)
  unfold newBodyFrame
  have hg₁ : h₁.Ns mainGlobals mg := hB.g.keeps keep
  refine wpAny_bind (wpAny_bind (wpAny_nsGet hg₁ (wpAny_alloc ?_)))
  refine wpAny_bind (wpAny_run ?_)
  rw [no_imports]
  have hann : hasAnns pw.main.body = false := by decide +kernel
  have hdoc : docOf pw.main.body = none := by rfl
  refine codeAny_body hann hdoc ?_
  dsimp only
  generalize hfr : ({ cls := .type "frame", slots := _ } : Obj) = fro
  have hlt : mainGlobals < h₀.objs.size := hB.g.lt
  let X : Cx := { prog := pw, w := w, h₀ := eraseG h₀, mg := fun _ => none, mb := mb, m₀ := mg }
  have keep2 : ∀ b o, h₀.get? b = some o → (h₁.push fro).get? b = some o := fun b o e => Heap.get?_push_of_some _ (keep b o e)
  have none0 : ∀ a, h₀.objs.size ≤ a → (eraseG h₀).get? a = none := fun a ha => by
    cases e : (eraseG h₀).get? a with
    | none => rfl
    | some o => exact absurd (Heap.lt_size (eraseG_get a o e).1) (Nat.not_lt.mpr ha)
  have F : Frm X ⟨{}, fun _ => none, fun _ => true⟩ (eraseG h₀).get? (menv c h₁.objs.size) noOwn (h₁.push fro) [] :=
    { base := .refl _
      sub := fun a o e => keep2 a o (eraseG_get a o e).1
      keep := fun a o e => by cases e
      old := fun a o e => by cases e
      loc := by
        cases e : (eraseG h₀).get? mainGlobals with
        | none => exact e
        | some o => exact absurd rfl (eraseG_get _ o e).2
      locH := rfl
      ns := ⟨mg, hg₁.push fro, fun x d e => by cases e⟩
      neg := fun _ => ⟨mg, hg₁.push fro, fun _ _ => rfl⟩
      cells := fun x c e => by cases e
      wr := fun x c e => by cases e
      apart := fun x y c e => by cases e
      own := fun a ds e => by cases e }
  have M : MF X ⟨{}, fun _ => none, fun _ => true⟩ c Pl (eraseG h₀).get? (menv c h₁.objs.size) noOwn (h₁.push fro) [] [] :=
    ⟨F, ⟨[], rfl, hcode.push fro⟩, ⟨none0 c hc, rfl, Ne.symm (Nat.ne_of_lt (Nat.lt_of_lt_of_le hlt hc)), (fun x e => by cases e), rfl⟩, ⟨none0 Pl hPl, rfl, Ne.symm (Nat.ne_of_lt (Nat.lt_of_lt_of_le hlt hPl)), (fun x e => by cases e), rfl⟩⟩
  have G : X.MGood := ⟨by
    obtain ⟨o, es, ep, ho, r⟩ := hB.b
    exact ⟨o, es, ep, eraseG_of _ _ ho (by decide), r⟩, hB.builtins⟩
  have te : TopEnv X (menv c h₁.objs.size) c := ⟨rfl, rfl, rfl, rfl, (by rw [show (menv c h₁.objs.size).kindOf "__builtins__" = none from rfl]; decide), by
    obtain ⟨bm, o, e1, e2, e3, _, e4, e5, e6, e7⟩ := hB.bmod
    exact ⟨bm, o, e1, e2, e3, eraseG_of _ _ e4 e3, e5, e6, e7⟩⟩
  have ok5 : Ok 5 (callerA.mark none) := ⟨rfl, by decide, by decide⟩
  have ok : Ok 4 ((callerA.mark none).deeper (menv c h₁.objs.size)) := ok5.deeper _
  have wk := walk_top (X := X) (n := 4) (B := ⟨{}, fun _ => none, fun _ => true⟩) (Pl := Pl) (F := h₁.objs.size) G hB.others te
  refine wk ((callerA.mark none).deeper (menv c h₁.objs.size)) { heap := h₁.push fro, gens := #[], drawn := {}, toks := t₁, os := os } _ _ _ ok M trivial fun S' O' Γ' ps' h' tk' M' post => ?_
  refine wpAny_pure ⟨_, rfl, ⟨⟨fun a o e hn => M'.F.sub _ _ (M'.F.base _ _ (eraseG_of a o e hn)), S', Γ', ?_⟩, rfl⟩, rfl⟩
  obtain ⟨m, hm, hv⟩ := M'.F.ns
  obtain ⟨m', hm', hn'⟩ := M'.F.neg rfl
  rw [← Ns_det hm hm'] at hn'
  exact ⟨m, _, M'.F.sub, fun a o e hn => M'.F.base _ _ (eraseG_of a o e hn), post, hm, rfl, hv, hn'⟩
end Mine

end
section
open PySem PySem.Calls PyProof.Rows PySem.W
set_option linter.unusedVariables false
set_option maxRecDepth 100000
set_option maxHeartbeats 4000000
namespace Mine
theorem defOk_of {X : Cx} {S : PM} {k : Nat} {a : Addr} {ds : List D} (hm : X.mg (nameAt k) = some (.ref a)) (h : DefSt S k a ds) (sub : Le S X.h₀.get?) :
    ∃ dV, DefOk X k a dV ∧ ((ds = [] ∧ dV = .none) ∨ (ds ≠ [] ∧ ∃ T vs, dV = .ref T ∧ X.h₀.get? T = some { cls := .type "tuple", data := .seq vs.toArray } ∧ RdL X.h₀.get? vs ds)) := by
  unfold DefSt at h
  split at h
  · rename_i name params body _ _ _ scope _ _ _ hst
    simp only [nameAt, hst] at hm
    obtain ⟨md, c', doc, dV, h1, ⟨o, vs, t, h2, h3, h4⟩, h5⟩ := h
    refine ⟨dV, ?_, ?_⟩
    · unfold DefOk
      simp only [hst]
      exact ⟨md, c', doc, sub _ _ h1, ⟨c', o, vs, t, rfl, sub _ _ h2, h3, h4⟩, hm⟩
    · rcases h5 with h5 | ⟨h9, T, vs, h6, h7, h8⟩
      · exact .inl h5
      · exact .inr ⟨h9, T, vs, h6, sub _ _ h7, h8.mono sub⟩
  · exact h.elim
theorem defOk0 {X : Cx} {S : PM} {k : Nat} {a : Addr} (hm : X.mg (nameAt k) = some (.ref a)) (h : DefSt S k a []) (sub : Le S X.h₀.get?) : DefOk X k a := by
  obtain ⟨dV, h1, ⟨_, rfl⟩ | ⟨h2, _⟩⟩ := defOk_of hm h sub
  · exact h1
  · exact absurd rfl h2
/-- the top, as it stands -/
structure Stands (h₀ h : Heap) (mb mg m : Str → Option Value) (w : World) : Prop where
  keep : ∀ a o, h₀.get? a = some o → a ≠ mainGlobals → h.get? a = some o
  hm : h.Ns mainGlobals m
  neg : ∀ x, pw.main.scope.names.lookup x ≠ some .local → m x = mg x
  top : Nonempty (Top { prog := pw, w := w, h₀ := h, mg := m, mb := mb, m₀ := fun _ => none })
theorem stands_of {h₀ h : Heap} {mb mg : Str → Option Value} {c₀ P₀ : Addr} (w : World) (hB : BootLeft h₀ mb mg c₀ P₀) (tf : TopFacts h₀ h mg) : ∃ m, Stands h₀ h mb mg m w := by
  obtain ⟨keep, S, Γ, m, env, sub, hS, post, hm, hsc, hv, hneg⟩ := tf
  have hkind : ∀ x, env.kindOf x = pw.main.scope.names.lookup x := fun x => by unfold Env.kindOf; rw [hsc]
  have neg : ∀ x, pw.main.scope.names.lookup x ≠ some .local → m x = mg x := fun x hx => hneg x (by rw [hkind]; exact hx)
  let X : Cx := { prog := pw, w := w, h₀ := h, mg := m, mb := mb, m₀ := fun _ => none }
  have none_of : ∀ x : Str, pw.main.scope.names.lookup x ≠ some .local → x ∉ bootMainNames → m x = none := fun x h1 h2 => (neg x h1).trans (hB.others x h2)
  have val : ∀ (x : Str) (d : D), Γ.lookup x = some d → pw.main.scope.names.lookup x = some .local → ∃ v, m x = some v ∧ Rd h.get? v d := fun x d e hx => by
    obtain ⟨v, e1, r⟩ := hv x d e (by rw [hkind]; exact hx)
    exact ⟨v, e1, r.mono sub⟩
  have fn : ∀ (x : Str) (a : Addr), Γ.lookup x = some (.own a) → pw.main.scope.names.lookup x = some .local → m x = some (.ref a) := fun x a e hx => by
    obtain ⟨v, e1, r⟩ := hv x _ e (by rw [hkind]; exact hx)
    cases r
    exact e1
  refine ⟨m, keep, hm, neg, ?_⟩
  obtain ⟨a17, l17, d17⟩ := post.d17
  obtain ⟨a19, l19, d19⟩ := post.d19
  obtain ⟨a21, l21, d21⟩ := post.d21
  obtain ⟨a22, l22, d22⟩ := post.d22
  obtain ⟨a23, l23, d23⟩ := post.d23
  obtain ⟨a24, l24, d24⟩ := post.d24
  obtain ⟨a25, l25, d25⟩ := post.d25
  obtain ⟨a26, l26, d26⟩ := post.d26
  obtain ⟨a27, l27, d27⟩ := post.d27
  obtain ⟨a28, l28, d28⟩ := post.d28
  obtain ⟨a29, l29, d29⟩ := post.d29
  obtain ⟨a30, l30, d30⟩ := post.d30
  have good : X.Good := {
    g := hm
    b := by
      obtain ⟨o, es, ep, ho, r⟩ := hB.b
      exact ⟨o, es, ep, keep _ _ ho (by decide), r⟩
    lim := by
      obtain ⟨o, es, ep, ho, r⟩ := hB.statics
      exact ⟨_, ⟨o, es, ep, keep _ _ ho (by decide), r⟩, rfl⟩
    boot := hB.builtins }
  have hEnc : ∃ a o vs mm, X.h₀.get? a = some o ∧ o.data = .seq vs mm ∧ (∃ v w, vs = #[v, w] ∧ Rd X.h₀.get? v (.int 76) ∧ Rd X.h₀.get? w (.str (tx [10]))) ∧ DefOk X 17 a17 (.ref a) := by
    obtain ⟨dV, h1, ⟨h2, _⟩ | ⟨_, T, vs, rfl, hT, hr⟩⟩ := defOk_of (X := X) (k := 17) (fn _ _ l17 rfl) d17 sub
    · cases h2
    · cases hr with
      | cons r1 hr =>
      cases hr with
      | cons r2 hr =>
      cases hr
      exact ⟨T, _, _, _, hT, rfl, ⟨_, _, rfl, r1, r2⟩, h1⟩
  exact ⟨{ good := good
           noRange := none_of _ (by decide) (by decide)
           noLen := none_of _ (by decide) (by decide)
           noSum := none_of _ (by decide) (by decide)
           noMax := none_of _ (by decide) (by decide)
           noMin := none_of _ (by decide) (by decide)
           noInt := none_of _ (by decide) (by decide)
           noAbs := none_of _ (by decide) (by decide)
           noAll := none_of _ (by decide) (by decide)
           nl := val _ _ post.nl (by decide)
           crlf := val _ _ post.crlf (by decide)
           tab := val _ _ post.tab (by decide)
           fEnc := a17
           dEnc := hEnc
           fHsv := a19
           dHsv := defOk0 (fn _ _ l19 (by decide)) d19 sub
           fPiece := a21
           dPiece := defOk0 (fn _ _ l21 (by decide)) d21 sub
           fSize := a22
           dSize := defOk0 (fn _ _ l22 (by decide)) d22 sub
           fThrough := a23
           dThrough := defOk0 (fn _ _ l23 (by decide)) d23 sub
           fBroken := a24
           dBroken := defOk0 (fn _ _ l24 (by decide)) d24 sub
           fSeen := a25
           dSeen := defOk0 (fn _ _ l25 (by decide)) d25 sub
           fHolds := a26
           dHolds := defOk0 (fn _ _ l26 (by decide)) d26 sub
           fMet := a27
           dMet := defOk0 (fn _ _ l27 (by decide)) d27 sub
           fOwn := a28
           dOwn := defOk0 (fn _ _ l28 (by decide)) d28 sub
           fSix := a29
           dSix := defOk0 (fn _ _ l29 (by decide)) d29 sub
           fLaw := a30
           dLaw := defOk0 (fn _ _ l30 (by decide)) d30 sub }⟩
end Mine

end
section
open PySem PySem.Calls PyProof.Rows PySem.W
open PySem.Claim2Try (globalOf_of_ns)
set_option linter.unusedVariables false
set_option maxRecDepth 100000
set_option maxHeartbeats 4000000
namespace Mine
theorem local_bound : ∀ q ∈ pw.main.scope.names, q.2 = .local → pw.boundNames.contains q.1 = true := by decide +kernel
theorem top_ran {w : World} {s₀ : Shared} {mb mg : Str → Option Value} {c₀ P₀ : Addr} (hz : s₀.asleep) (hB : BootLeft s₀.heap mb mg c₀ P₀) {tk : Nat} {os : OsState} (hs : s₀ = ⟨s₀.heap, #[], {}, tk, os⟩) :
    ∃ s₁, TopRan pw w s₀ s₁ ∧ s₁.gens = #[] ∧ s₁.asleep ∧ ∃ m, Stands s₀.heap s₁.heap mb mg m w := by
  have hwp := stub_wp w (h₀ := s₀.heap) (mb := mb) (mg := mg) (tk := tk) (os := os) hB
  rw [← hs] at hwp
  obtain ⟨s₁, hrun, hlife, ⟨tf, hos⟩, hgens⟩ := top_ends hz hwp
  obtain ⟨m, st⟩ := stands_of w hB tf
  have hos0 : s₀.os = os := by rw [hs]
  have hg0 := hB.g
  have kst : s₁.heap.get? cStatics = s₀.heap.get? cStatics := by
    obtain ⟨o, es, ep, ho, _⟩ := hB.statics
    rw [ho]; exact st.keep _ _ ho (by decide)
  have hst : ∀ key, staticOf s₁.heap key = staticOf s₀.heap key := fun key => by unfold staticOf; rw [kst]
  have hst0 : ∀ key, staticOf s₁.heap key = none := fun key => (hst key).trans (Pin.staticOf_of_ns hB.statics key)
  have hb1 : s₁.heap.Ns builtinsNs mb := by
    obtain ⟨o, es, ep, ho, r⟩ := hB.b
    exact ⟨o, es, ep, st.keep _ _ ho (by decide), r⟩
  refine ⟨s₁, ⟨hrun, hlife, Shared.rest_eq (hos.trans hos0.symm), fun b o e hn => st.keep b o e fun q => hn (.inl q), fun key v e => ?_, fun key => .inl (hst key), Pin.keysAreStrs_of_ns st.hm, ?_, ?_, ?_, ?_, ?_⟩, hgens, Shared.asleep_of_life hlife hz, m, st⟩
  · rw [hst0] at e; cases e
  · intro name hne
    rw [Pin.builtinOf_of_ns hb1]
    exact hB.builtins name hne
  · obtain ⟨bm, o, e1, e2, e3, _, e4, e5, e6, e7⟩ := hB.bmod
    refine ⟨bm, o, ?_, st.keep _ _ e4 e3, e5, e6⟩
    rw [globalOf_of_ns st.hm, st.neg _ (by decide)]; exact e1
  · rw [hgens]; intro g hg; simp at hg
  · intro x v e
    rw [globalOf_of_ns st.hm] at e
    by_cases hl : pw.main.scope.names.lookup x = some .local
    · have := local_bound (x, .local) (mem_of_lookup hl) rfl
      exact .inr (by simpa using this)
    · rw [st.neg x hl] at e
      by_cases hx : x ∈ bootMainNames
      · exact .inl hx
      · rw [hB.others x hx] at e; cases e
  · intro x hx
    rw [globalOf_of_ns st.hm, globalOf_of_ns hg0]
    refine st.neg x ?_
    simp only [laidNames, List.mem_cons, List.not_mem_nil, or_false] at hx
    rcases hx with rfl | rfl | rfl | rfl | rfl <;> decide
end Mine

end
section
open PySem PySem.Calls PyProof.Rows PySem.W
open PySem.Claim2Try (globalOf_of_ns)
set_option linter.unusedVariables false
set_option maxRecDepth 100000
set_option maxHeartbeats 4000000
namespace Mine
abbrev rwL : OpenLaw := PySem.Challenge.rw_rs0065_01
theorem pre_len (ns : List Int) (h : rwL.row.pre.holds rwL.row.records { args := [.list (ns.map .int)] } = true) : ns.length ≤ 63 := by
  have e : ∀ b, decide ((63 : Int) < ns.length) = b → rwL.row.pre.holds rwL.row.records { args := [.list (ns.map .int)] } = !b := by
    intro b hb
    have e1 : rwL.row.pre.holds rwL.row.records { args := [.list (ns.map .int)] } = (match (match (match some (WData.bool (decide ((63 : Int) < ((ns.map WData.int).length : Nat)))) with | some (WData.bool b) => some (WData.bool !b) | _ => none) with
      | some (WData.bool false) => some (WData.bool false) | some (WData.bool true) => some (WData.bool true) | _ => none) with | some (WData.bool true) => true | _ => false) := by kernel_rfl
    rw [e1, List.length_map, hb]
    cases b <;> rfl
  by_cases q : (63 : Int) < ns.length
  · rw [e _ (decide_eq_true q)] at h
    cases h
  · omega
theorem law_post (args : List WData) : rwL.row.toRowW.claim.post args (.bool true) args = true := by
  kernel_rfl
theorem rd_ints {R : WRecords} {cl : Str → Option Addr} {h : Heap} : ∀ {ns : List Int} {vs : List Value} {as : List Addr}, ReadsAllW R cl h vs (ns.map .int) as → RdL h.get? vs (ns.map .int)
  | [], _, _, r => by cases r; exact .nil
  | n :: ns, _, _, r => by
    cases r with
    | cons r1 r2 =>
    cases r1
    exact .cons (.int _ _) (rd_ints r2)
theorem law_call {w : World} {s : Shared} {h₀ : Heap} {mb mg m : Str → Option Value} {free : Addr → Prop} {gens : Prop} {kept : Heap → Prop} (hgens : s.gens = #[]) (hz : s.asleep) (st : Stands h₀ s.heap mb mg m w) (hk : ∀ h, kept h) :
    rwL.row.toRowW.claim.CallFrom (callStub rwL.row.name) w free gens kept s := by
  obtain ⟨T⟩ := st.top
  have hlaw : m "law" = some (.ref T.fLaw) := T.mLaw
  refine ClaimW.callFrom_of_specG (c := rwL.row.toRowW.claim) (tree := fun vs => do match ← nsGet mainNs rwL.row.name with
      | some f => do ret (← PySem.call f vs)
      | none => unsupported "claim.caller:no-such-global") hz hgens fun args hpre hlay ord hord => ?_
  obtain ⟨hsh, hpr⟩ := pre_splitW hpre
  obtain ⟨⟨vs, s₁⟩, hlaid⟩ := Option.isSome_iff_exists.mp (layAllW_isSome (R := rwL.row.toRowW.records) (cl := classAt s.heap) (P := w.params) (ord := ord) (fun c hc => by cases hc) args _ s hsh)
  have keeps := layAllW_keeps _ _ _ hlaid
  have hal := layAllW_rest _ _ _ hlaid
  obtain ⟨as, hrd, hin, hold⟩ := reads_layAllW hord _ _ _ hlaid hlay s₁.heap (fun _ _ e => e)
  have L : Laid rwL.row.toRowW.records w s s₁ args vs as := ⟨⟨ord, hord, hlaid⟩, hrd, hin, hold, keeps, hal.1.trans hgens, hal.2.2.1⟩
  obtain ⟨d, r, rfl, hd, hr⟩ := hasAllW_cons hsh
  obtain rfl := hasAllW_nil hr
  obtain ⟨xs, rfl, hx⟩ := hasW_list hd
  obtain ⟨ns, rfl⟩ := items_int hx
  have hlen := pre_len ns hpr
  refine ⟨vs, s₁, hlaid, ?_⟩
  have hrl : RdL s₁.heap.get? vs [.list (ns.map .int)] := by
    cases hrd with
    | cons r1 r2 =>
    cases r2
    cases r1 with
    | list e1 e2 e3 e4 => exact .cons (.list (vs := _) e1 e2 (by rw [e3, Array.toArray_toList]) (rd_ints e4)) .nil
  refine wpAny_bind (wpAny_nsGet (st.hm.keeps keeps) ?_)
  rw [show m rwL.row.name = some (.ref T.fLaw) from hlaw]
  have ok : Ok 4 callerA := ⟨rfl, by decide, by decide⟩
  refine wpAny_bind ?_
  refine law_ok (n := 0) T ns (by omega) callerA s₁ s₁.heap.get? vs _ _ ok (fun _ _ e => e) keeps hrl fun S' v h' tk adv r => ?_
  cases r
  refine wpAny_pure ⟨_, rfl, ?_⟩
  have hi := ident_freeW (r := rwL.row.toRowW) rfl rfl rfl
  have g : GoodWG rwL.row.toRowW.claim (classAt s.heap) (ExcName.means s.heap) [.list (ns.map .int)] s₁ (.ok (.ret (.bool true))) { s₁ with heap := h', toks := tk } :=
    ⟨.inl ⟨.bool true, .bool true, [], rfl, fun _ => rfl, .bool true, law_post _, fun _ => ⟨.nil, fun a ha => by cases ha⟩⟩, .of_keep adv.ext, rfl, .of_eq (hal.1.trans hgens)⟩
  have z := g.laid rfl rfl hi L
  exact ⟨z.1, z.2.1, z.2.2, hk _⟩
theorem law_def {w : World} {h : Heap} {h₀ : Heap} {mb mg m : Str → Option Value} (st : Stands h₀ h mb mg m w) : isTheDefsW pw h "law" := by
  obtain ⟨T⟩ := st.top
  obtain ⟨md, c', doc, ho, hcd, hm⟩ := T.dLaw
  exact ⟨T.fLaw, _, _, _, _, _, (globalOf_of_ns st.hm _).trans hm, ho, rfl, rfl, rfl, rfl, rfl, rfl, rfl, rfl, rfl, rfl, ⟨.inl ⟨rfl, rfl⟩, [], rfl, .inl ⟨rfl, rfl⟩⟩⟩
theorem row_holds (said : rwL.row.wellSaid = true) : rwL.row.Holds := by
  have hw : rwL.row.toRowW.promised := ⟨[.list []], by decide +kernel, by decide +kernel⟩
  refine ⟨said, hw, ⟨⟨rfl, rfl, rfl, rfl, rfl, by decide +kernel⟩, by decide +kernel, rfl⟩, hw.witness, fun w => ?_⟩
  obtain ⟨h1, h2⟩ := boot_state w
  refine ⟨h1, fun s hs => ?_⟩
  obtain ⟨mb, mg, c, Pl, tk, hB, hs'⟩ := h2 s hs
  have hz : s.asleep := AfterImport.life hs
  obtain ⟨s₁, hT, hgens, hz1, m, st⟩ := top_ran hz hB hs'
  refine ⟨s, fence_state s, by rw [hs'], s₁, hT, fun n hn => ?_, fun x hx => (nomatch hx), fun x hx => (nomatch hx), law_call hgens hz1 st fun h q => by cases q⟩
  have : n = "law" := by
    have hn' : n ∈ [rwL.row.name] := hn
    exact List.mem_singleton.mp hn'
  subst this
  exact law_def st
end Mine

end
open PySem PySem.W PyProof.Rows
set_option maxRecDepth 100000 in
set_option maxHeartbeats 8000000 in
theorem PySem.Challenge.cw_rs0065_01_holds : PySem.Challenge.rw_rs0065_01.Holds := by
  w_on
  o_law
  exact Mine.row_holds (by assumption)
